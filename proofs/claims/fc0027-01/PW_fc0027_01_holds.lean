import PyProof.Rows.All
import Wide.All
import OpenK.AllK
import Wide.FinOn
import Lean
import PySem.Challenge.RW_fc0027_01
open PySem PySem.W PySem.Calls PyProof.Rows
set_option Elab.async false
set_option pp.deepTerms false
set_option pp.deepTerms.threshold 12
set_option pp.maxSteps 3000
set_option maxRecDepth 100000
namespace Mine
theorem arr_eq {b : Array UInt8} {ks : List Int} (h : KBw.bInts b = ks) : b = byteArr ks := by
  subst h
  obtain ⟨l⟩ := b
  show (⟨l⟩ : Array UInt8) = ((l.map fun c => ((c.toNat : Nat) : Int)).map fun n => n.toNat.toUInt8).toArray
  rw [List.map_map]
  congr 1
  have e : ∀ c ∈ l, ((fun n : Int => n.toNat.toUInt8) ∘ fun c : UInt8 => ((c.toNat : Nat) : Int)) c = c := by
    intro c _
    show ((c.toNat : Int).toNat).toUInt8 = c
    rw [Int.toNat_natCast]
    exact UInt8.ofNat_toNat
  exact ((List.map_congr_left (g := _root_.id) e).trans (List.map_id _)).symm
theorem little_in : ∀ (n : Nat) (x : Int), ∀ k ∈ KTBy.little n x, 0 ≤ k ∧ k < 256
  | 0, _, _, h => nomatch h
  | n + 1, x, k, h => by
    rcases List.mem_cons.mp h with rfl | h
    · exact ⟨Int.emod_nonneg _ (by decide), Int.emod_lt_of_pos _ (by decide)⟩
    · exact little_in n _ k h
theorem value_append (l : List Int) (a : Int) : KFB.value (l ++ [a]) = KFB.value l * 256 + a := by
  unfold KFB.value
  rw [List.foldl_append]
  rfl
theorem value_little : ∀ (n : Nat) (x : Int), 0 ≤ x → x < 256 ^ n → KFB.value (KTBy.little n x).reverse = x
  | 0, x, h0, h1 => by
    have : x = 0 := by simp at h1; omega
    subst this
    rfl
  | n + 1, x, h0, h1 => by
    show KFB.value (x % 256 :: KTBy.little n (x / 256)).reverse = x
    rw [List.reverse_cons, value_append, value_little n (x / 256) (by omega) (by rw [Int.pow_succ] at h1; omega)]
    omega
/-- the bytes of an int in 32 places, big end first -/
def be32 (v : Int) : Array UInt8 := byteArr (KTBy.little 32 v).reverse
theorem be32_ints (v : Int) : KBw.bInts (be32 v) = (KTBy.little 32 v).reverse :=
  KBa.ints_make fun n hn => little_in 32 v n (List.mem_reverse.mp hn)
theorem be32_value {v : Int} (h0 : 0 ≤ v) (h1 : v < 256 ^ 32) : KFB.value (KTBy.little 32 v).reverse = v := value_little 32 v h0 h1
section
variable {prog : Program} {w : World} {M : Model} {A : Around} {E : Value → Shared → Prop} {s : Shared} {env : Env} {h₀ : Heap} {L : Addr} {m : PySem.Str → Option Value} {news : List (Addr × Obj)}

/-- who keeps the frame at a call of the bound int.from_bytes -/
theorem keeps_fb {u : Addr} {h : Heap} (ho : KFB.StandsAt u h) : ∃ k, (k = Keeper.frame ∨ k = Keeper.machine ∨ k = Keeper.boundFrame) ∧ Looks M h (keeperOf (.ref u)) k :=
  ⟨.machine, .inr (.inl rfl), (Looks.ld (part := none) ho).andThen .now⟩

theorem callWith_fbKw {pos : Pos} {u : Addr} {e : Expr} {rest : List Expr} {kws : List Keyword} {Q : Value → Shared → Prop} (hall : (backToKw pos (keywordEach kws env)).all (·.1.isSome) = true)
    (h : wpAny M A (spliced (backTo pos (starEach (e :: rest) env))) (fun vs s₁ => wpAny M A (evalAll ((backToKw pos (keywordEach kws env)).map (·.2)))
      (fun ks s₂ => KFB.StandsAt u s₂.heap ∧ wpAny M A (call (.ref u) vs (((backToKw pos (keywordEach kws env)).filterMap (·.1)).zip ks)) Q E s₂) E s₁) E s)
    (hplain : ((backTo pos (starEach (e :: rest) env)).any (·.1) || (backToKw pos (keywordEach kws env)).any (·.1.isNone)) = false := by rfl) (he : starEach (e :: rest) env = (false, eval e env) :: starEach rest env := by rfl) :
    wpAny M A (callWith pos (.ref u) [] (backTo pos (starEach (e :: rest) env)) (backToKw pos (keywordEach kws env))) Q E s :=
  callWith_of (P := KFB.StandsAt u) hplain (fun _ ho => keeps_fb ho) (evalArgs_kw2 hall h he)

/-- a built-in method on a plain value, called with keywords -/
theorem callWith_bKw {pos : Pos} {id : String} {first : List Value} {e : Expr} {rest : List Expr} {kws : List Keyword} {Q : Value → Shared → Prop}
    (h : wpAny M A (spliced (backTo pos (starEach (e :: rest) env))) (fun vs s₁ => wpAny M A (evalAll ((backToKw pos (keywordEach kws env)).map (·.2)))
      (fun ks s₂ => wpAny M A (call (.builtin id) (first ++ vs) (((backToKw pos (keywordEach kws env)).filterMap (·.1)).zip ks)) Q E s₂) E s₁) E s)
    (hplain : (backTo pos (starEach (e :: rest) env)).any (·.1) = false := by rfl) (hkw : (backToKw pos (keywordEach kws env)).any (·.1.isNone) = false := by rfl)
    (hall : (backToKw pos (keywordEach kws env)).all (·.1.isSome) = true := by rfl) (he : starEach (e :: rest) env = (false, eval e env) :: starEach rest env := by rfl) :
    wpAny M A (callWith pos (.builtin id) first (backTo pos (starEach (e :: rest) env)) (backToKw pos (keywordEach kws env))) Q E s :=
  callWith_builtin_kwB hplain hkw (evalArgs_kw2 hall h he)

/-- an int of up to 800 bits, made anew -/
theorem grown_big {n : Nat} {Q : Value → Shared → Prop} (hn : n < 2 ^ 800) (h : Q (.int (n : Int) s.toks) { s with toks := s.toks + 1 }) : wpAny M A (mkIntGrown (n : Int)) Q E s := by
  unfold mkIntGrown
  have hl : ¬ ((n : Int).natAbs.log2 ≥ bitsLine) := by
    rw [Int.natAbs_natCast]
    have hb : bitsLine = 134217728 := by first | rfl | decide
    by_cases hz : n = 0
    · subst hz; rw [hb]; decide
    · have h1 := (Nat.log2_lt hz).mpr hn
      omega
  rw [if_neg hl]
  exact wpAny_mkInt h

/-- int.from_bytes of at most 100 bytes, big end first, unsigned: whatever way the arguments are handed -/
theorem fb_tree {b : Array UInt8} {t : Tok} {rest : List Value} {kw : List (PySem.Str × Value)} {u : Tok} {sg : Option Value} {P : Fin → Shared → Prop}
    (hn : Builtin.Int.intBindNamed "from_bytes" ["bytes", "byteorder", "signed"] 1 2 rest kw = pure [some (.bytes b t), some (.str (PySem.Str.ofString "big") u), sg])
    (hs : sg = none ∨ sg = some (.bool false)) (hl : b.size ≤ 100)
    (h : P (.done (.ret (.int (KFB.value (KBw.bInts b)) s.toks))) { s with toks := s.toks + 1 }) :
    wpAny M A (Builtin.«int.from_bytes» ⟨.type "int" :: rest, kw⟩) P E s := by
  have hv : ((b.toList.foldl (fun (acc : Nat) (b : UInt8) => acc * 256 + b.toNat) 0 : Nat) : Int) = KFB.value (KBw.bInts b) := KFB.fold_cast b.toList 0
  have hb : b.toList.foldl (fun (acc : Nat) (b : UInt8) => acc * 256 + b.toNat) 0 < 2 ^ 800 := by
    have h1 := KFB.fold_lt b.toList 0
    rw [Nat.zero_add, Nat.one_mul, Array.length_toList] at h1
    have h2 : 256 ^ b.size ≤ 256 ^ 100 := Nat.pow_le_pow_right (by decide) hl
    have h3 : (256 : Nat) ^ 100 = 2 ^ 800 := by decide +kernel
    omega
  unfold Builtin.«int.from_bytes»
  refine wpAny_bind (wpAny_of_eq (a := true) KFB.type_int ?_)
  refine KFB.if_not rfl ?_
  refine wpAny_bind (wpAny_of_eq (a := true) F.conv_sub_int ?_)
  refine KFB.if_not rfl ?_
  refine wpAny_bind (wpAny_of_eq (a := [some (.bytes b t), some (.str (PySem.Str.ofString "big") u), sg]) hn ?_)
  refine wpAny_bind (wpAny_of_eq (a := PySem.Str.ofString "big") (by kernel_rfl) ?_)
  rcases hs with rfl | rfl
  all_goals (
    refine wpAny_bind (wpAny_of_eq (a := false) rfl ?_)
    refine wpAny_bind (wpAny_of_eq (a := false) (by kernel_rfl) ?_)
    refine wpAny_bind (wpAny_of_eq (a := b) rfl ?_)
    show wpAny _ _ (mkIntGrown (b.toList.foldl (fun (acc : Int) (b : UInt8) => acc * 256 + (b.toNat : Int)) ((0 : Nat) : Int)) >>= fun v => _) _ _ _
    rw [KFB.foldI_eq]
    refine wpAny_bind (grown_big hb ?_)
    rw [hv]
    refine KFB.if_so (by decide +kernel) ?_
    exact wpAny_bind (wpAny_pure (wpAny_pure h)))

theorem fb_call {x : Addr} {b : Array UInt8} {t : Tok} {rest : List Value} {kw : List (PySem.Str × Value)} {u : Tok} {sg : Option Value} {ks : List Int} {Q : Value → Shared → Prop}
    (N : News h₀ L s.heap news) (hm : (x, KFB.bound) ∈ news)
    (hn : Builtin.Int.intBindNamed "from_bytes" ["bytes", "byteorder", "signed"] 1 2 rest kw = pure [some (.bytes b t), some (.str (PySem.Str.ofString "big") u), sg])
    (hc : checkBoundCall "int.from_bytes" ⟨.type "int" :: rest, kw⟩ = pure ())
    (hs : sg = none ∨ sg = some (.bool false)) (hb : KBw.bInts b = ks) (hl : ks.length ≤ 100)
    (h : ∀ t' k, Q (.int (KFB.value ks) t') { s with toks := k }) : wpAny (model prog w) A (call (.ref x) rest kw) Q E s := by
  subst hb
  refine wpAny_call (codeAny_of_tree ?_)
  show wpAny _ A.in1 (callAny (.ref x) ⟨rest, kw⟩) _ _ s
  simp only [callAny]
  refine wpAny_bind (wpAny_load (KFB.at_of N hm) ?_)
  simp only [KFB.bound, show (Value.type "builtin_function_or_method" == Value.type "method" || Value.type "builtin_function_or_method" == Value.type "builtin_function_or_method" || Value.type "builtin_function_or_method" == Value.type "method-wrapper") = true by decide, if_true]
  refine KFB.if_so (by decide) ?_
  refine wpAny_bind (wpAny_of_eq (a := ()) hc ?_)
  refine wpAny_bind (wpAny_pure (wpAny_pure ?_))
  exact ⟨KFB.quiet_fb, codeAny_builtin KFB.entry_fb (fb_tree hn hs (by rw [← KBw.ints_length]; exact hl) (h _ _))⟩

theorem fb_call0 {x : Addr} {b : Array UInt8} {t u : Tok} {ks : List Int} {Q : Value → Shared → Prop} (N : News h₀ L s.heap news) (hm : (x, KFB.bound) ∈ news) (hb : KBw.bInts b = ks) (hl : ks.length ≤ 100)
    (h : ∀ t' k, Q (.int (KFB.value ks) t') { s with toks := k }) : wpAny (model prog w) A (call (.ref x) [.bytes b t, .str (PySem.Str.ofString "big") u]) Q E s :=
  fb_call (t := t) (u := u) (sg := none) N hm (by kernel_rfl) (by first | kernel_rfl | rfl) (.inl rfl) hb hl h
theorem fb_call1 {x : Addr} {b : Array UInt8} {t u : Tok} {ks : List Int} {Q : Value → Shared → Prop} (N : News h₀ L s.heap news) (hm : (x, KFB.bound) ∈ news) (hb : KBw.bInts b = ks) (hl : ks.length ≤ 100)
    (h : ∀ t' k, Q (.int (KFB.value ks) t') { s with toks := k }) : wpAny (model prog w) A (call (.ref x) [.bytes b t, .str (PySem.Str.ofString "big") u] [(PySem.Str.ofString "signed", .bool false)]) Q E s :=
  fb_call (t := t) (u := u) (sg := some (.bool false)) N hm (by kernel_rfl) (by first | kernel_rfl | rfl) (.inr rfl) hb hl h
theorem fb_call2 {x : Addr} {b : Array UInt8} {t u : Tok} {ks : List Int} {Q : Value → Shared → Prop} (N : News h₀ L s.heap news) (hm : (x, KFB.bound) ∈ news) (hb : KBw.bInts b = ks) (hl : ks.length ≤ 100)
    (h : ∀ t' k, Q (.int (KFB.value ks) t') { s with toks := k }) : wpAny (model prog w) A (call (.ref x) [.bytes b t] [(PySem.Str.ofString "byteorder", .str (PySem.Str.ofString "big") u), (PySem.Str.ofString "signed", .bool false)]) Q E s :=
  fb_call (t := t) (u := u) (sg := some (.bool false)) N hm (by kernel_rfl) (by first | kernel_rfl | rfl) (.inr rfl) hb hl h

theorem be32_len (v : Int) : ((KTBy.little 32 v).reverse).length ≤ 100 := by rw [List.length_reverse, KTBy.little_length]; decide
theorem fb_be0 {x : Addr} {v : Int} {t u : Tok} {Q : Value → Shared → Prop} (N : News h₀ L s.heap news) (hm : (x, KFB.bound) ∈ news) (h0 : 0 ≤ v) (h1 : v < 256 ^ 32)
    (h : ∀ t' k, Q (.int v t') { s with toks := k }) : wpAny (model prog w) A (call (.ref x) [.bytes (be32 v) t, .str (PySem.Str.ofString "big") u]) Q E s :=
  fb_call0 N hm (be32_ints v) (be32_len v) (by rw [be32_value h0 h1]; exact h)
theorem fb_be1 {x : Addr} {v : Int} {t u : Tok} {Q : Value → Shared → Prop} (N : News h₀ L s.heap news) (hm : (x, KFB.bound) ∈ news) (h0 : 0 ≤ v) (h1 : v < 256 ^ 32)
    (h : ∀ t' k, Q (.int v t') { s with toks := k }) : wpAny (model prog w) A (call (.ref x) [.bytes (be32 v) t, .str (PySem.Str.ofString "big") u] [(PySem.Str.ofString "signed", .bool false)]) Q E s :=
  fb_call1 N hm (be32_ints v) (be32_len v) (by rw [be32_value h0 h1]; exact h)

open PySem.Builtin.Int (intBits)
/-- int.to_bytes of up to 100 places, big end first, unsigned -/
theorem tb_call {x : Int} {k : Nat} {t u : Tok} {rest : List Value} {kw : List (PySem.Str × Value)} {sg : Option Value} {v : Tok} {Q : Value → Shared → Prop}
    (hn : Builtin.Int.intBindNamed "to_bytes" ["length", "byteorder", "signed"] 0 2 rest kw = pure [some (.int (k : Int) u), some (.str (PySem.Str.ofString "big") v), sg])
    (ha : argsOk "int.to_bytes" ⟨.int x t :: rest, kw⟩)
    (hs : sg = none ∨ sg = some (.bool false))
    (hk : k ≤ 100) (h0 : 0 ≤ x) (h1 : x < 256 ^ k) (h : ∀ (b : Array UInt8) t' k', KBw.bInts b = (KTBy.little k x).reverse → Q (.bytes b t') { s with toks := k' }) :
    wpAny (model prog w) A (call (.builtin "int.to_bytes") (.int x t :: rest) kw) Q E s := by
  refine wpAny_call_entry_kw KTBy.slot (typeIs_int s x t) KTBy.entry ?_ ha
  have hb := KTBy.bits_le (k := k) rfl h0 h1
  show wpAny _ _ (Builtin.Int.intOfSelf (.int x t) >>= fun y => _) _ _ s
  refine wpAny_bind (wpAny_of_eq (a := x) rfl ?_)
  refine wpAny_bind (wpAny_of_eq (a := [some (.int (k : Int) u), some (.str (PySem.Str.ofString "big") v), sg]) hn ?_)
  show wpAny _ _ (Builtin.Int.intIndex "int.to_bytes" (.int (k : Int) u) >>= fun n => _) _ _ s
  refine wpAny_bind (wpAny_of_eq (a := (k : Int)) rfl ?_)
  refine KTBy.if_not (by show (decide ((k : Int) < -(2 ^ 63 : Int)) || decide ((k : Int) ≥ 2 ^ 63)) = false; rw [decide_eq_false (show ¬ ((k : Int) < -(2 ^ 63 : Int)) by omega), decide_eq_false (show ¬ ((k : Int) ≥ 2 ^ 63) by omega)]; rfl) ?_
  refine wpAny_bind (wpAny_of_eq (a := PySem.Str.ofString "big") (by kernel_rfl) ?_)
  rcases hs with rfl | rfl
  all_goals (
    refine wpAny_bind (wpAny_of_eq (a := false) rfl ?_)
    refine wpAny_bind (wpAny_of_eq (a := false) (by kernel_rfl) ?_)
    refine wpAny_ite_false (decide_eq_false (show ¬ ((k : Int) < 0) by omega)) ?_
    refine wpAny_ite_false (decide_eq_false (show ¬ ((k : Int) > 2 ^ 63 - 1 - 33) by omega)) ?_
    refine wpAny_ite_false (decide_eq_false (show ¬ ((k : Int) > (sizeLine : Int)) by rw [sizeLine_eq]; omega)) ?_
    refine KTBy.if_not (by show (decide (x < 0) && !false) = false; rw [decide_eq_false (show ¬ x < 0 by omega)]; rfl) ?_
    refine KTBy.if_not (by show (_ && decide ((intBits x : Int) > 8 * (k : Int))) = false; rw [decide_eq_false (show ¬ ((intBits x : Int) > 8 * (k : Int)) by omega), Bool.and_false]) ?_
    refine wpAny_bind (wpAny_mkBytes (wpAny_pure ⟨_, rfl, h _ _ _ ?_⟩) (by show (List.reverse (KTBy.low x (Int.toNat (k : Int)))).length ≤ sizeLine; rw [List.length_reverse, KTBy.low_length, Int.toNat_natCast, sizeLine_eq]; omega))
    show (List.map (fun c : UInt8 => ((c.toNat : Nat) : Int)) (List.reverse (KTBy.low x (Int.toNat (k : Int))))) = (KTBy.little k x).reverse
    rw [Int.toNat_natCast, List.map_reverse, KTBy.low_ints h0 h1, ← KTBy.little_eq])
theorem tb_args1 (x k o : Value) : argsOk "int.to_bytes" ⟨[x, k, o], [(PySem.Str.ofString "signed", .bool false)]⟩ := by unfold argsOk; kernel_rfl
/-- x.to_bytes(32, 'big') -/
theorem tb_32 {x : Int} {t u v : Tok} {Q : Value → Shared → Prop} (h0 : 0 ≤ x) (h1 : x < 256 ^ 32) (h : ∀ t' k', Q (.bytes (be32 x) t') { s with toks := k' }) :
    wpAny (model prog w) A (call (.builtin "int.to_bytes") [.int x t, .int 32 u, .str (PySem.Str.ofString "big") v]) Q E s :=
  tb_call (k := 32) (u := u) (v := v) (sg := none) (by kernel_rfl) (KTBy.args _ _ _) (.inl rfl) (by decide) h0 h1 fun b t' k' hb => by rw [arr_eq hb]; exact h t' k'
/-- x.to_bytes(32, 'big', signed=False) -/
theorem tb_32s {x : Int} {t u v : Tok} {Q : Value → Shared → Prop} (h0 : 0 ≤ x) (h1 : x < 256 ^ 32) (h : ∀ t' k', Q (.bytes (be32 x) t') { s with toks := k' }) :
    wpAny (model prog w) A (call (.builtin "int.to_bytes") [.int x t, .int 32 u, .str (PySem.Str.ofString "big") v] [(PySem.Str.ofString "signed", .bool false)]) Q E s :=
  tb_call (k := 32) (u := u) (v := v) (sg := some (.bool false)) (by kernel_rfl) (tb_args1 _ _ _) (.inr rfl) (by decide) h0 h1 fun b t' k' hb => by rw [arr_eq hb]; exact h t' k'
/-- x.to_bytes(3, 'big', signed=False) -/
theorem tb_3s {x : Int} {t u v : Tok} {Q : Value → Shared → Prop} (h0 : 0 ≤ x) (h1 : x < 16777216) (h : ∀ (b : Array UInt8) t' k', KBw.bInts b = (KTBy.little 3 x).reverse → Q (.bytes b t') { s with toks := k' }) :
    wpAny (model prog w) A (call (.builtin "int.to_bytes") [.int x t, .int 3 u, .str (PySem.Str.ofString "big") v] [(PySem.Str.ofString "signed", .bool false)]) Q E s :=
  tb_call (k := 3) (u := u) (v := v) (sg := some (.bool false)) (by kernel_rfl) (tb_args1 _ _ _) (.inr rfl) (by decide) h0 (Int.lt_of_lt_of_le h1 (by decide)) h
/-- the walk stops here: what follows is done by hand -/
def Stop (P : Prop) : Prop := P
theorem Stop.mk {P : Prop} (h : Stop P) : P := h
theorem Stop.out {P : Prop} (h : P) : Stop P := h
/-- a frame's map, two names of it said outright -/
theorem two_names {m : PySem.Str → Option Value} {h : Heap} (_ : Fr h₀ L h m) (a b : PySem.Str) {x y : Value} (ha : m a = some x) (hb : m b = some y) : ∃ mm : PySem.Str → Option Value, m = fun z => if z = a then some x else if z = b then some y else mm z :=
  ⟨m, funext fun z => by
    by_cases h1 : z = a
    · rw [if_pos h1, h1, ha]
    · rw [if_neg h1]
      by_cases h2 : z = b
      · rw [if_pos h2, h2, hb]
      · rw [if_neg h2]⟩
/-- a name that a def closes over, its cell as it stood at the call -/
theorem nameX_G {a : Addr} {cn : PySem.Str} {cs : Scope} {ccd : Value} {cl : List (PySem.Str × Addr)} {x : PySem.Str} {pos : Pos} {v : Value} {Q : Value → Shared → Prop} {c : Addr} {o : Obj} (F : Fr h₀ L s.heap m) (hc : cl.lookup x = some c) (hg : h₀.get? c = some o) (hd : o.data = .cell (some v)) (h : Q v s)
    (hk : cs.kind = .function := by rfl) (hx : (envX cn cs L a ccd cl).kindOf x = some .free := by rfl) (hb : (x == ("__debug__" : PySem.Str)) = false := by decide) (hn : (x == ("__classdict__" : PySem.Str)) = false := by decide) :
    wpAny M A (eval (.Name x pos) (envX cn cs L a ccd cl)) Q E s := wpAny_Name (wpAny_loadName_free hk hx hc ⟨o, F.keep _ _ hg, hd⟩ h hn) hb
/-- a call that only adds: at its end the heap it began with stands -/
def LeaveN (g : Heap) (R : Result → Shared → Prop) (v : Value) (s' : Shared) : Prop :=
  ∃ L' m' news', Fr g L' s'.heap m' ∧ News g L' s'.heap news' ∧ ((∀ b o, g.get? b = some o → s'.heap.get? b = some o) → News g L' s'.heap news' → R (.ok (.ret v)) s')
theorem leaveN_ {g : Heap} {L' : Addr} {m' : PySem.Str → Option Value} {news' : List (Addr × Obj)} {R : Result → Shared → Prop} {v : Value} {s' : Shared} (F' : Fr g L' s'.heap m') (N' : News g L' s'.heap news')
    (k : (∀ b o, g.get? b = some o → s'.heap.get? b = some o) → News g L' s'.heap news' → R (.ok (.ret v)) s') : LeaveN g R v s' := ⟨L', m', news', F', N', k⟩
theorem leaveN_out {g : Heap} {R : Result → Shared → Prop} {v : Value} {s' : Shared} (h : LeaveN g R v s') : R (.ok (.ret v)) s' :=
  let ⟨_, _, _, F', N', k⟩ := h; k F'.keep N'
theorem code_n {K : Frag} {mg mb : PySem.Str → Option Value} {p : Program} {loose : List PySem.Str} {mean : ExcName → Option Value} {R : Result → Shared → Prop} {name qual : PySem.Str} {params : Arguments} {body : List Stmt} {scope : Scope} {dV kV doc pm cdv ct oc : Value} {an od : Option Addr} {osl : Array (Option Value)} {f : Addr} {args : Args} {binds : List (PySem.Str × Value)}
    (X : K.In s.heap) (T : Top p loose mean mg mb s.heap)
    (ho : K.lookup f = some ⟨oc, od, .func (fnOf name qual params body scope dV kV doc pm an cdv ct), osl⟩) (hcd : codeIn K cdv qual = true) (hroom : A.depth < recursionLimit)
    (hbind : BindsTo s (fnOf name qual params body scope dV kV doc pm an cdv ct) args binds) (hloc : ∀ y ∈ binds, scope.names.lookup y.1 = some .local)
    (h : ∀ L' h₁, Fr s.heap L' h₁ (fun y => binds.reverse.lookup y) → News s.heap L' h₁ [] →
      wpAny (model prog w) (A.deeper (envOf qual scope L' f cdv)) (execs body (envOf qual scope L' f cdv))
        (fun fl s' => LeaveN s.heap R (match fl with | .ret v => v | _ => .none) s')
        (fun e s' => wpAny (model prog w) (A.deeper (envOf qual scope L' f cdv)) (leaving (envOf qual scope L' f cdv) e) (fun _ s'' => R (.error e) s'') (fun e' s'' => R (.error e') s'') s')
        { s with heap := h₁, toks := s.toks + binds.length })
    (hco : scope.isCoroutine = false) (hgen : scope.isGenerator = false) (hk : scope.kind = .function)
    (hcell : ∀ x ∈ scope.names, x.2 ≠ .cell) : codeAny (model prog w) A (.call (.ref f) args) R s := by
  refine codeAny_call_def (fd := fnOf name qual params body scope dV kV doc pm an cdv ct) (body := body) (binds := binds) hroom (X _ _ ho) rfl T.nolimit (codeRec_of X hcd) rfl hbind hcell hloc (fun h₁ hns hk₁ => ?_) hco hgen hk
  exact wpAny_mono (h s.heap.objs.size h₁ ⟨hns, hk₁, Nat.le_refl _⟩ News.nil) (fun fl s' hl => leaveN_out hl) fun _ _ y => y
/-- the same of a def that the law itself makes -/
theorem code_nM {mg mb : PySem.Str → Option Value} {p : Program} {loose : List PySem.Str} {mean : ExcName → Option Value} {R : Result → Shared → Prop} {name qual : PySem.Str} {params : Arguments} {body : List Stmt} {scope : Scope} {cl : List (PySem.Str × Addr)} {doc pm ctv : Value} {c' : Addr} {f : Addr} {args : Args} {binds : List (PySem.Str × Value)}
    (T : Top p loose mean mg mb s.heap)
    (ho : s.heap.get? f = some (fnMade name qual params body scope cl doc pm c' ctv)) (hcd : s.heap.CodeRec (.ref c') qual) (hroom : A.depth < recursionLimit)
    (hbind : BindsTo s (fnX name qual params body scope cl .none .none doc pm none (.ref c') ctv) args binds) (hloc : ∀ y ∈ binds, scope.names.lookup y.1 = some .local)
    (h : ∀ L' h₁, Fr s.heap L' h₁ (fun y => binds.reverse.lookup y) → News s.heap L' h₁ [] →
      wpAny (model prog w) (A.deeper (envX qual scope L' f (.ref c') cl)) (execs body (envX qual scope L' f (.ref c') cl))
        (fun fl s' => LeaveN s.heap R (match fl with | .ret v => v | _ => .none) s')
        (fun e s' => wpAny (model prog w) (A.deeper (envX qual scope L' f (.ref c') cl)) (leaving (envX qual scope L' f (.ref c') cl) e) (fun _ s'' => R (.error e) s'') (fun e' s'' => R (.error e') s'') s')
        { s with heap := h₁, toks := s.toks + binds.length })
    (hco : scope.isCoroutine = false) (hgen : scope.isGenerator = false) (hk : scope.kind = .function)
    (hcell : ∀ x ∈ scope.names, x.2 ≠ .cell) : codeAny (model prog w) A (.call (.ref f) args) R s := by
  refine codeAny_call_def (fd := fnX name qual params body scope cl .none .none doc pm none (.ref c') ctv) (body := body) (binds := binds) hroom ho rfl T.nolimit hcd rfl hbind hcell hloc (fun h₁ hns hk₁ => ?_) hco hgen hk
  exact wpAny_mono (h s.heap.objs.size h₁ ⟨hns, hk₁, Nat.le_refl _⟩ News.nil) (fun fl s' hl => leaveN_out hl) fun _ _ y => y
/-- what stands on the heap, the frame and the ledger apart from it, stands on the ledger -/
theorem news_add {h' : Heap} {a : Addr} {o : Obj} (F : Fr h₀ L s.heap m) (N : News h₀ L s.heap news) (hk : ∀ b o, s.heap.get? b = some o → h'.get? b = some o) (hn : s.heap.get? a = none) (ho : h'.get? a = some o) : News h₀ L h' ((a, o) :: news) := fun p hp => by
  rcases List.mem_cons.mp hp with rfl | hp
  · refine ⟨ho, fun e => ?_, ?_⟩
    · obtain ⟨oL, _, _, hL, _⟩ := F.ns
      rw [← e, hn] at hL
      cases hL
    · cases q : h₀.get? a with
      | none => rfl
      | some o' => rw [F.keep _ _ q] at hn; cases hn
  · exact ⟨hk _ _ (N p hp).1, (N p hp).2⟩
theorem bb_has : typeLookup (.type "bytes") "__bytes__" = pure (some (.builtin "bytes.__bytes__")) := by rw [typeLookup_type, builtinLookup_eq_fast]; kernel_rfl
theorem bb_new {b : Array UInt8} {t : Tok} {Q : Value → Shared → Prop} (hQ : Q (.bytes b t) s) :
    codeAny (model prog w) A (.call (.builtin "bytes.__new__") ⟨[.type "bytes", .bytes b t], []⟩) (wants Q E) s := by
  refine codeAny_of_tree ?_
  show wpAny _ A.in1 (do checkBuiltinCall "bytes.__new__" ⟨[.type "bytes", .bytes b t], []⟩; again (.builtin "bytes.__new__" ⟨[.type "bytes", .bytes b t], []⟩)) _ _ s
  refine wpAny_bind (wpAny_of_eq (F.bm_newCall _) (wpAny_pure ⟨plainId_quiet F.bm_plain _, codeAny_builtin F.bm_entry ?_⟩))
  rw [Around.under_plainId F.bm_plain _]
  have hT : s.TypeIs (.bytes b t) "bytes" := typeIs_bytes s b t
  unfold Builtin.«bytes.__new__»
  refine wpAny_bind (wpAny_of_eq (a := true) rfl ?_)
  refine bm_if_false rfl ?_
  refine wpAny_bind (wpAny_of_eq F.bm_sub ?_)
  refine bm_if_false rfl ?_
  refine wpAny_bind (wpAny_of_eq (F.bm_bind _) ?_)
  refine wpAny_bind (wpAny_of_eq (a := ()) rfl ?_)
  refine wpAny_bind (wpAny_of_eq (a := ()) rfl ?_)
  refine bm_if_false rfl ?_
  refine wpAny_bind (wpAny_specialOf hT bb_has ?_)
  refine wpAny_bind (wpAny_rule ?_)
  refine wpAny_bind (wpAny_typeOf hT ?_)
  refine bm_if_true (by decide) ?_
  first
    | exact wpAny_pure hQ
    | exact wpAny_bind (wpAny_pure (wpAny_pure hQ))
/-- bytes(b) of bytes -/
theorem bytes_of_bytes {b : Array UInt8} {t : Tok} {Q : Value → Shared → Prop} (hQ : Q (.bytes b t) s) : wpAny (model prog w) A (call (.type "bytes") [.bytes b t]) Q E s := by
  refine callType_codes (Q₁ := fun obj s₁ => s₁.TypeIs obj "bytes" ∧ Q obj s₁) F.bm_called (F.bm_typeCall _) F.entry_object_init (bb_new ⟨typeIs_bytes _ _ _, hQ⟩) fun obj s₁ h₁ => ?_
  exact ⟨h₁.1, F.args_object_init_2 obj _, object_init_meets F.bm_called.init.lookup F.bm_called.made (by decide) prog w A.in1 _ s₁ ⟨h₁.1, rfl, h₁.2⟩⟩
theorem bytes_cons_add {x : Int} {b : Array UInt8} {ks : List Int} {t u : Tok} {Q : Value → Shared → Prop} (hx : 0 ≤ x) (hx2 : x < 256) (hb : KBw.bInts b = ks) (hl : ks.length ≤ 1000)
    (h : ∀ t' k, Q (.bytes (byteArr (x :: ks)) t') { s with toks := k }) : wpAny (model prog w) A (binaryOp .Add (.bytes #[x.toNat.toUInt8] t) (.bytes b u)) Q E s := by
  have h1 : KBw.bInts #[x.toNat.toUInt8] = [x] := by
    have := KBa.ints_make (ns := [x]) (fun n hn => by rw [List.mem_singleton.mp hn]; exact ⟨hx, hx2⟩)
    exact this
  refine KBa.add_K h1 hb (by rw [List.length_singleton]; omega) fun t' k hk => ?_
  rw [arr_eq hk]
  exact h t' k
theorem ret_eq {h' : Heap} {t : Tok} {tk' : Nat} {R : Tok → Value} {v : Value} {Q : Value → Shared → Prop} (hret : ∀ (t : Tok) (h' : Heap) (tk' : Nat), (∀ b o, s.heap.get? b = some o → h'.get? b = some o) → Q (R t) { s with heap := h', toks := tk' }) (e : v = R t) (hk : ∀ b o, s.heap.get? b = some o → h'.get? b = some o) : Q v { s with heap := h', toks := tk' } := by
  rw [e]
  exact hret t h' tk' hk
theorem little3_len {x : Int} : ((KTBy.little 3 x).reverse).length ≤ 1000 := by rw [List.length_reverse, KTBy.little_length]; decide
theorem mask_eq {x : Int} (hx : 0 ≤ x) : Builtin.bitAnd x 8388607 = x % 8388608 := by
  obtain ⟨n, rfl⟩ := Int.eq_ofNat_of_zero_le hx
  rw [bitAnd_pp hx (by decide)]
  have h := Nat.and_two_pow_sub_one_eq_mod n 23
  have e1 : (2 : Nat) ^ 23 - 1 = 8388607 := by decide
  have e2 : (2 : Nat) ^ 23 = 8388608 := by decide
  rw [e1, e2] at h
  rw [Int.toNat_natCast, show (8388607 : Int).toNat = 8388607 from rfl, h]
  rfl
theorem mask_small (x : Int) : (Builtin.bitAnd x 8388607).natAbs < 2 ^ 64 := by
  by_cases hx : 0 ≤ x
  · rw [mask_eq hx]; omega
  · rw [bitAnd_np hx (by decide)]
    have h := Nat.and_le_left (n := (8388607 : Int).toNat) (m := (Builtin.bitNot x).toNat)
    have e : (8388607 : Int).toNat = 8388607 := rfl
    rw [e] at h ⊢
    omega
theorem picked_tail {b : Array UInt8} {e x y z : Int} (hb : KBw.bInts b = [e, x, y, z]) : KBw.bInts (KBy.picked b (some 1) none) = [x, y, z] := by
  rw [KBc.ints_picked hb]
  rfl
theorem bytes_item0 {value slice : PySem.Expr} {b : Array UInt8} {t ui : Tok} {e : Int} {ks : List Int} {Q : Value → Shared → Prop} (hk : KBw.bInts b = e :: ks) (hfit : ks.length ≤ 1000)
    (h : ∀ t' k, 0 ≤ e → e < 256 → Q (.int e t') { s with toks := k })
    (hs : subscripted slice false (.bytes b t) (.int 0 ui) = operate [.bytes b t, .int 0 ui] (getItem (.bytes b t) (.int 0 ui)) := by with_unfolding_all rfl)
    (ht : ∀ r, letTemporaryGo value (.bytes b t) r = pure () := by intro _; with_unfolding_all rfl) : wpAny (model prog w) A (subscriptTail value slice (.bytes b t) (.int 0 ui)) Q E s :=
  KBw.item_K hk (by rw [List.length_cons]; omega) (by decide) (by rw [List.length_cons]; omega) (fun t' k a b => h t' k a b) hs ht
end
end Mine
set_option maxHeartbeats 8000000 in
open_top hd for PySem.Challenge.rw_fc0027_01
namespace Mine
/-- a def of the text's, called with vs and kw where pre holds of the heap, hands back R and only adds to the heap: whoever calls -/
abbrev CtN (w : World) (d : Nat) (pre : Heap → Prop) (f : Addr) (vs : List Value) (kw : List (Str × Value)) (R : Tok → Value) : Prop :=
  ∀ (p : Program) (loose : List Str) (mean : ExcName → Option Value) (mg mb : Str → Option Value) (dp un : Nat) (fr : Option (List Env)) (gd : Option (List Code)) (s : Shared) (Q E : Value → Shared → Prop),
    (hd.heap_39 w.params).In s.heap → Top p loose mean mg mb s.heap → pre s.heap → dp + d < recursionLimit → un + 20 * d < cLine →
    (∀ (t : Tok) (h' : Heap) (tk' : Nat), (∀ b o, s.heap.get? b = some o → h'.get? b = some o) → Q (R t) { s with heap := h', toks := tk' }) →
    wpAny (model PySem.Challenge.rw_fc0027_01.row.prog w) { handled := none, depth := dp, frames := fr, guards := gd, units := un } (call (.ref f) vs kw) Q E s
theorem ctn_use {w : World} {d : Nat} {pre : Heap → Prop} {f : Addr} {vs : List Value} {kw : List (Str × Value)} {R : Tok → Value} (C : CtN w d pre f vs kw R) {p : Program} {loose : List Str} {mean : ExcName → Option Value} {mg mb : Str → Option Value} {A : Around}
    {h₀ : Heap} {L : Addr} {m : Str → Option Value} {news : List (Addr × Obj)} {s : Shared} {Q E : Value → Shared → Prop}
    (F : Fr h₀ L s.heap m) (X : (hd.heap_39 w.params).In h₀) (N : News h₀ L s.heap news) (T : Top p loose mean mg mb h₀) (hp : pre s.heap) (hh : A.handled = none)
    (hd : A.depth + d < recursionLimit) (hu : A.units + 20 * d < cLine) (hret : ∀ (t : Tok) (h' : Heap) (tk' : Nat), Fr h₀ L h' m → News h₀ L h' news → Q (R t) { s with heap := h', toks := tk' }) :
    wpAny (model PySem.Challenge.rw_fc0027_01.row.prog w) A (call (.ref f) vs kw) Q E s := by
  obtain ⟨hd', dp, fr, gd, un⟩ := A
  dsimp only at hh
  subst hh
  exact C _ _ _ _ _ _ _ _ _ _ _ _ (X.keeps F.keep) (T.keeps F.keep) hp hd hu fun t h' tk' hk => hret t h' tk' (F.keptAll hk) (N.grown hk)
theorem ret_int {x y : Int} {t : Tok} (e : x = y) : Value.int x t = Value.int y t := by rw [e]
theorem ret_byt {x y : Array UInt8} {t : Tok} (e : x = y) : Value.bytes x t = Value.bytes y t := by rw [e]
end Mine
namespace Mine
theorem top_off_P1b : True := by
  w_top off
  exact True.intro
local macro_rules | `(tactic| k_room) => `(tactic| ktr_room)
local macro_rules | `(tactic| walk_at "MINE enter") => `(tactic| (refine wpAny_call ?_; k_dflt (refine' code_n ?k3 ?k5 ?k6 ?k7 ?k8 ?k9 ?kB ?_ ?c2 ?c3 ?c4 ?c5; (case k3 => k_asm); (case k5 => k_asm); (case k6 => k_is); (case k7 => k_is); (case k8 => ktr_room); (case k9 => first | exact BindsTo.of_eq rfl | exact binds_K (by k_in) rfl (by k_is) rfl rfl rfl | (refine' kp_binds ?kx ?ke; (case kx => k_in); (case ke => exact fun _ => rfl))); (case c5 => decide); (case kB => exact locs rfl); (case c2 => exact rfl); (case c3 => exact rfl); (case c4 => exact rfl); k_whole; intro L' h' F' N'; (try dsimp only); (try k_fold))))
local macro_rules | `(tactic| walk_at "LeaveN") => `(tactic| (k_dflt (refine' leaveN_ ?k1 ?k2 ?_; (case k1 => k_asm); (case k2 => k_asm); k_whole); intro kK kN; (try dsimp only)))
local macro_rules | `(tactic| walk_at "callWith ref") => `(tactic| (k_here; (with_reducible show wpAny _ _ (callWith _ (Value.ref _) [] (backTo _ (starEach (_ :: _) _)) (backToKw _ (keywordEach (_ :: _) _))) _ _ _); kfb_any; k_dflt (refine' callWith_fbKw ?k1 ?_; (case k1 => exact rfl); k_whole)))
local macro_rules | `(tactic| walk_at "callWith") => `(tactic| (k_here; (with_reducible show wpAny _ _ (callWith _ (Value.builtin _) [_] (backTo _ (starEach (_ :: _) _)) (backToKw _ (keywordEach (_ :: _) _))) _ _ _); k_dflt (refine callWith_bKw ?_; k_whole)))
local macro_rules | `(tactic| walk_at "call ref") => `(tactic| (k_here; (with_reducible show wpAny _ _ (call (Value.ref _) (Value.bytes _ _ :: _) _) _ _ _); kfb_any; k_dflt (first
  | (refine fb_call2 (by k_asm) (by k_mem) (picked_tail (by assumption)) (by kfb_size) ?_)
  | (refine fb_call0 (by k_asm) (by k_mem) (by kba_ints2) (by kfb_size) ?_)
  | (refine fb_call1 (by k_asm) (by k_mem) (by kba_ints2) (by kfb_size) ?_)
  | (refine fb_call2 (by k_asm) (by k_mem) (by kba_ints2) (by kfb_size) ?_)); intro _ _))
local macro_rules | `(tactic| walk_at "subscriptTail") => `(tactic| (k_here; (with_reducible show wpAny _ _ (subscriptTail _ _ (Value.bytes _ _) (Value.int _ _)) _ _ _); (with_unfolding_all refine' bytes_item0 ?k1 ?k2 ?_; (case k1 => assumption); (case k2 => exact Nat.le_of_ble_eq_true rfl); k_whole); intro _ _ _ _))
local macro_rules | `(tactic| walk_at "binaryOp LShift int int") => `(tactic| (k_here; (with_reducible show wpAny _ _ (binaryOp _ (Value.int (Builtin.bitAnd _ _) _) _) _ _ _); k_dflt (refine' lshift_int_small ?k1 ?k2 ?k3 ?_; (case k1 => omega); (case k2 => omega); (case k3 => exact mask_small _); k_whole)))
local macro_rules | `(tactic| walk_at "call type:bytes") => `(tactic| (k_here; (with_reducible show wpAny _ _ (call (Value.type "bytes") [Value.bytes _ _]) _ _ _); (refine bytes_of_bytes ?_)))
local macro_rules | `(tactic| walk_at "call builtin:int.to_bytes") => `(tactic| (k_here; k_dflt (first
  | (refine' tb_32 ?h0 ?h1 ?_; (case h0 => first | assumption | omega); (case h1 => first | assumption | omega); k_whole)
  | (refine' tb_32s ?h0 ?h1 ?_; (case h0 => first | assumption | omega); (case h1 => first | assumption | omega); k_whole)
  | (refine' tb_3s ?h0 ?h1 ?_; (case h0 => first | assumption | omega); (case h1 => first | assumption | omega); k_whole; intro _)); intro _ _))
local macro_rules | `(tactic| walk_at "binaryOp Add bytes bytes") => `(tactic| (k_here; k_dflt (refine' bytes_cons_add ?h0 ?h1 ?hb ?hl ?_; (case h0 => omega); (case h1 => omega); (case hb => assumption); (case hl => exact little3_len); k_whole); intro _ _))
set_option maxHeartbeats 4000000 in
theorem ct_isint (w : World) (x : Int) (t0 : Tok) : CtN w 2 (fun _ => True) 73 [.int x t0] [] (fun _ => .bool true) := by
  unfold CtN
  k_fill
  intro p loose mean mg mb dp un fr gd s Q E X T hp hd hu hret
  walk_at "MINE enter"
  k_steps
  exact hret 0 _ _ (by assumption)
theorem meta_mv : typeOf (.type "memoryview") = pure (.type "type") := by kernel_rfl
theorem sub_list_mv : isSubtype (.type "list") (.type "memoryview") = pure false := by kernel_rfl
theorem typ_list {s : Shared} {h₀ : Heap} {l : Addr} {vs : Array Value} (hl : h₀.IsList l vs) (hk : ∀ b o, h₀.get? b = some o → s.heap.get? b = some o) : s.TypeIs (.ref l) "list" := by
  obtain ⟨o, ho, hc, _⟩ := hl
  exact ⟨o, hk _ _ ho, hc⟩
local macro_rules | `(tactic| walk_at "call builtin:isinstance") => `(tactic| (k_here; (with_reducible show wpAny _ _ (call (.builtin "isinstance") [.ref _, .ref _]) _ _ _); refine' IsiPair.tupleOfB (Tx := "list") (vs := [false, false, false, false]) (b := false) (cs := [.type "bytes", .type "str", .type "bytearray", .type "memoryview"]) ?ka ?kb ?kc ?kd ?_; (case kb => exact typ_list (by assumption) (Fr.keep (by assumption))); (case kc => exact News.get (by assumption) (by news_mem)); (case kd => rfl); (case ka => exact ⟨Answers.of_false_list (by decide +kernel) F.isi_meta_bytes F.sub_list_bytes, Answers.of_false_list (by decide +kernel) F.isi_meta_str F.sub_list_str, Answers.of_false_list (by decide +kernel) F.isi_meta_bytearray F.sub_list_bytearray, Answers.of_false_list (by decide +kernel) meta_mv sub_list_mv, trivial⟩); intro _))
set_option maxHeartbeats 4000000 in
theorem ct_isoct (w : World) (l : Addr) (vs : Array Value) : CtN w 2 (fun h => h.IsList l vs) 80 [.ref l] [] (fun _ => .bool false) := by
  unfold CtN
  k_fill
  intro p loose mean mg mb dp un fr gd s Q E X T hp hd hu hret
  walk_at "MINE enter"
  k_steps
  exact hret 0 _ _ (by assumption)
end Mine
namespace Mine
local macro_rules | `(tactic| walk_at "MINE pad") => `(tactic| fail)
local macro_rules | `(tactic| walk_at "MINE pad") => `(tactic| fail)
theorem top_off_P2 : True := by
  w_top off
  exact True.intro
local macro_rules | `(tactic| k_room) => `(tactic| ktr_room)
local macro_rules | `(tactic| walk_at "MINE enter") => `(tactic| (refine wpAny_call ?_; k_dflt (refine' code_n ?k3 ?k5 ?k6 ?k7 ?k8 ?k9 ?kB ?_ ?c2 ?c3 ?c4 ?c5; (case k3 => k_asm); (case k5 => k_asm); (case k6 => k_is); (case k7 => k_is); (case k8 => ktr_room); (case k9 => first | exact BindsTo.of_eq rfl | exact binds_K (by k_in) rfl (by k_is) rfl rfl rfl | (refine' kp_binds ?kx ?ke; (case kx => k_in); (case ke => exact fun _ => rfl))); (case c5 => decide); (case kB => exact locs rfl); (case c2 => exact rfl); (case c3 => exact rfl); (case c4 => exact rfl); k_whole; intro L' h' F' N'; (try dsimp only); (try k_fold))))
local macro_rules | `(tactic| walk_at "LeaveN") => `(tactic| (k_dflt (refine' leaveN_ ?k1 ?k2 ?_; (case k1 => k_asm); (case k2 => k_asm); k_whole); intro kK kN; (try dsimp only)))
local macro_rules | `(tactic| walk_at "callWith ref") => `(tactic| (k_here; (with_reducible show wpAny _ _ (callWith _ (Value.ref _) [] (backTo _ (starEach (_ :: _) _)) (backToKw _ (keywordEach (_ :: _) _))) _ _ _); kfb_any; k_dflt (refine' callWith_fbKw ?k1 ?_; (case k1 => exact rfl); k_whole)))
local macro_rules | `(tactic| walk_at "callWith") => `(tactic| (k_here; (with_reducible show wpAny _ _ (callWith _ (Value.builtin _) [_] (backTo _ (starEach (_ :: _) _)) (backToKw _ (keywordEach (_ :: _) _))) _ _ _); k_dflt (refine callWith_bKw ?_; k_whole)))
local macro_rules | `(tactic| walk_at "call ref") => `(tactic| (k_here; (with_reducible show wpAny _ _ (call (Value.ref _) (Value.bytes _ _ :: _) _) _ _ _); kfb_any; k_dflt (first
  | (refine fb_call2 (by k_asm) (by k_mem) (picked_tail (by assumption)) (by kfb_size) ?_)
  | (refine fb_call0 (by k_asm) (by k_mem) (by kba_ints2) (by kfb_size) ?_)
  | (refine fb_call1 (by k_asm) (by k_mem) (by kba_ints2) (by kfb_size) ?_)
  | (refine fb_call2 (by k_asm) (by k_mem) (by kba_ints2) (by kfb_size) ?_)); intro _ _))
local macro_rules | `(tactic| walk_at "subscriptTail") => `(tactic| (k_here; (with_reducible show wpAny _ _ (subscriptTail _ _ (Value.bytes _ _) (Value.int _ _)) _ _ _); (with_unfolding_all refine' bytes_item0 ?k1 ?k2 ?_; (case k1 => assumption); (case k2 => exact Nat.le_of_ble_eq_true rfl); k_whole); intro _ _ _ _))
local macro_rules | `(tactic| walk_at "binaryOp LShift int int") => `(tactic| (k_here; (with_reducible show wpAny _ _ (binaryOp _ (Value.int (Builtin.bitAnd _ _) _) _) _ _ _); k_dflt (refine' lshift_int_small ?k1 ?k2 ?k3 ?_; (case k1 => omega); (case k2 => omega); (case k3 => exact mask_small _); k_whole)))
local macro_rules | `(tactic| walk_at "call type:bytes") => `(tactic| (k_here; (with_reducible show wpAny _ _ (call (Value.type "bytes") [Value.bytes _ _]) _ _ _); (refine bytes_of_bytes ?_)))
local macro_rules | `(tactic| walk_at "call builtin:int.to_bytes") => `(tactic| (k_here; k_dflt (first
  | (refine' tb_32 ?h0 ?h1 ?_; (case h0 => first | assumption | omega); (case h1 => first | assumption | omega); k_whole)
  | (refine' tb_32s ?h0 ?h1 ?_; (case h0 => first | assumption | omega); (case h1 => first | assumption | omega); k_whole)
  | (refine' tb_3s ?h0 ?h1 ?_; (case h0 => first | assumption | omega); (case h1 => first | assumption | omega); k_whole; intro _)); intro _ _))
local macro_rules | `(tactic| walk_at "binaryOp Add bytes bytes") => `(tactic| (k_here; k_dflt (refine' bytes_cons_add ?h0 ?h1 ?hb ?hl ?_; (case h0 => omega); (case h1 => omega); (case hb => assumption); (case hl => exact little3_len); k_whole); intro _ _))
def vfb (e x y z : Int) : Int := if e < 3 then (Builtin.bitAnd (KFB.value [x, y, z]) 8388607).fdiv (2 ^ (8 * (3 - e)).toNat) else Builtin.bitAnd (KFB.value [x, y, z]) 8388607 * 2 ^ (8 * (e - 3)).toNat
set_option maxHeartbeats 4000000 in
theorem ct_value (w : World) (b : Array UInt8) (tb : Tok) (e x y z : Int) (hb : KBw.bInts b = [e, x, y, z]) : CtN w 2 (fun _ => True) 87 [.bytes b tb] [] (fun t => .int (vfb e x y z) t) := by
  unfold CtN
  k_fill
  intro p loose mean mg mb dp un fr gd s Q E X T hp hd hu hret
  walk_at "MINE enter"
  k_steps
  · refine ret_eq hret (ret_int (y := vfb e x y z) ?_) (by assumption)
    unfold vfb
    rw [if_pos (by assumption)]
  · refine ret_eq hret (ret_int (y := vfb e x y z) ?_) (by assumption)
    unfold vfb
    rw [if_neg (by assumption)]
end Mine
namespace Mine
local macro_rules | `(tactic| walk_at "MINE pad") => `(tactic| fail)
local macro_rules | `(tactic| walk_at "MINE pad") => `(tactic| fail)
theorem top_off_P2b : True := by
  w_top off
  exact True.intro
local macro_rules | `(tactic| k_room) => `(tactic| ktr_room)
local macro_rules | `(tactic| walk_at "MINE enter") => `(tactic| (refine wpAny_call ?_; k_dflt (refine' code_n ?k3 ?k5 ?k6 ?k7 ?k8 ?k9 ?kB ?_ ?c2 ?c3 ?c4 ?c5; (case k3 => k_asm); (case k5 => k_asm); (case k6 => k_is); (case k7 => k_is); (case k8 => ktr_room); (case k9 => first | exact BindsTo.of_eq rfl | exact binds_K (by k_in) rfl (by k_is) rfl rfl rfl | (refine' kp_binds ?kx ?ke; (case kx => k_in); (case ke => exact fun _ => rfl))); (case c5 => decide); (case kB => exact locs rfl); (case c2 => exact rfl); (case c3 => exact rfl); (case c4 => exact rfl); k_whole; intro L' h' F' N'; (try dsimp only); (try k_fold))))
local macro_rules | `(tactic| walk_at "LeaveN") => `(tactic| (k_dflt (refine' leaveN_ ?k1 ?k2 ?_; (case k1 => k_asm); (case k2 => k_asm); k_whole); intro kK kN; (try dsimp only)))
local macro_rules | `(tactic| walk_at "callWith ref") => `(tactic| (k_here; (with_reducible show wpAny _ _ (callWith _ (Value.ref _) [] (backTo _ (starEach (_ :: _) _)) (backToKw _ (keywordEach (_ :: _) _))) _ _ _); kfb_any; k_dflt (refine' callWith_fbKw ?k1 ?_; (case k1 => exact rfl); k_whole)))
local macro_rules | `(tactic| walk_at "callWith") => `(tactic| (k_here; (with_reducible show wpAny _ _ (callWith _ (Value.builtin _) [_] (backTo _ (starEach (_ :: _) _)) (backToKw _ (keywordEach (_ :: _) _))) _ _ _); k_dflt (refine callWith_bKw ?_; k_whole)))
local macro_rules | `(tactic| walk_at "call ref") => `(tactic| (k_here; (with_reducible show wpAny _ _ (call (Value.ref _) (Value.bytes _ _ :: _) _) _ _ _); kfb_any; k_dflt (first
  | (refine fb_call2 (by k_asm) (by k_mem) (picked_tail (by assumption)) (by kfb_size) ?_)
  | (refine fb_call0 (by k_asm) (by k_mem) (by kba_ints2) (by kfb_size) ?_)
  | (refine fb_call1 (by k_asm) (by k_mem) (by kba_ints2) (by kfb_size) ?_)
  | (refine fb_call2 (by k_asm) (by k_mem) (by kba_ints2) (by kfb_size) ?_)); intro _ _))
local macro_rules | `(tactic| walk_at "subscriptTail") => `(tactic| (k_here; (with_reducible show wpAny _ _ (subscriptTail _ _ (Value.bytes _ _) (Value.int _ _)) _ _ _); (with_unfolding_all refine' bytes_item0 ?k1 ?k2 ?_; (case k1 => assumption); (case k2 => exact Nat.le_of_ble_eq_true rfl); k_whole); intro _ _ _ _))
local macro_rules | `(tactic| walk_at "binaryOp LShift int int") => `(tactic| (k_here; (with_reducible show wpAny _ _ (binaryOp _ (Value.int (Builtin.bitAnd _ _) _) _) _ _ _); k_dflt (refine' lshift_int_small ?k1 ?k2 ?k3 ?_; (case k1 => omega); (case k2 => omega); (case k3 => exact mask_small _); k_whole)))
local macro_rules | `(tactic| walk_at "call type:bytes") => `(tactic| (k_here; (with_reducible show wpAny _ _ (call (Value.type "bytes") [Value.bytes _ _]) _ _ _); (refine bytes_of_bytes ?_)))
local macro_rules | `(tactic| walk_at "call builtin:int.to_bytes") => `(tactic| (k_here; k_dflt (first
  | (refine' tb_32 ?h0 ?h1 ?_; (case h0 => first | assumption | omega); (case h1 => first | assumption | omega); k_whole)
  | (refine' tb_32s ?h0 ?h1 ?_; (case h0 => first | assumption | omega); (case h1 => first | assumption | omega); k_whole)
  | (refine' tb_3s ?h0 ?h1 ?_; (case h0 => first | assumption | omega); (case h1 => first | assumption | omega); k_whole; intro _)); intro _ _))
local macro_rules | `(tactic| walk_at "binaryOp Add bytes bytes") => `(tactic| (k_here; k_dflt (refine' bytes_cons_add ?h0 ?h1 ?hb ?hl ?_; (case h0 => omega); (case h1 => omega); (case hb => assumption); (case hl => exact little3_len); k_whole); intro _ _))
local macro_rules | `(tactic| walk_at "call ref") => `(tactic| (k_here; k_dflt (show wpAny _ _ (call (Value.ref 73) [Value.int _ _]) _ _ _); k_dflt (refine' ctn_use (ct_isint _ _ _) ?k2 ?k3 ?k4 ?k5 ?hp ?hh ?kd ?ku ?_; (case hp => exact True.intro); (case k2 => k_asm); (case k3 => k_asm); (case k4 => k_asm); (case k5 => k_asm); (case hh => exact rfl); (case kd => ktr_room); (case ku => ktr_units); intro t9 h9 tk9 F9 N9; (try dsimp only); (try k_fold))))
set_option maxHeartbeats 4000000 in
theorem ct_bfo4 (w : World) (b : Array UInt8) (tb t4 : Tok) (e x y z : Int) (hb : KBw.bInts b = [e, x, y, z]) : CtN w 4 (fun _ => True) 59 [.bytes b tb, .int 4 t4] [] (fun t => .bytes b t) := by
  unfold CtN
  k_fill
  intro p loose mean mg mb dp un fr gd s Q E X T hp hd hu hret
  walk_at "MINE enter"
  k_steps
  exact hret _ _ _ (by assumption)
set_option maxHeartbeats 4000000 in
theorem ct_bfo (w : World) (b : Array UInt8) (tb : Tok) : CtN w 4 (fun _ => True) 59 [.bytes b tb] [] (fun t => .bytes b t) := by
  unfold CtN
  k_fill
  intro p loose mean mg mb dp un fr gd s Q E X T hp hd hu hret
  walk_at "MINE enter"
  k_steps
  exact hret _ _ _ (by assumption)
end Mine
namespace Mine
local macro_rules | `(tactic| walk_at "MINE pad") => `(tactic| fail)
theorem top_off_P3 : True := by
  w_top off
  exact True.intro
local macro_rules | `(tactic| k_room) => `(tactic| ktr_room)
local macro_rules | `(tactic| walk_at "MINE enter") => `(tactic| (refine wpAny_call ?_; k_dflt (refine' code_n ?k3 ?k5 ?k6 ?k7 ?k8 ?k9 ?kB ?_ ?c2 ?c3 ?c4 ?c5; (case k3 => k_asm); (case k5 => k_asm); (case k6 => k_is); (case k7 => k_is); (case k8 => ktr_room); (case k9 => first | exact BindsTo.of_eq rfl | exact binds_K (by k_in) rfl (by k_is) rfl rfl rfl | (refine' kp_binds ?kx ?ke; (case kx => k_in); (case ke => exact fun _ => rfl))); (case c5 => decide); (case kB => exact locs rfl); (case c2 => exact rfl); (case c3 => exact rfl); (case c4 => exact rfl); k_whole; intro L' h' F' N'; (try dsimp only); (try k_fold))))
local macro_rules | `(tactic| walk_at "LeaveN") => `(tactic| (k_dflt (refine' leaveN_ ?k1 ?k2 ?_; (case k1 => k_asm); (case k2 => k_asm); k_whole); intro kK kN; (try dsimp only)))
local macro_rules | `(tactic| walk_at "callWith ref") => `(tactic| (k_here; (with_reducible show wpAny _ _ (callWith _ (Value.ref _) [] (backTo _ (starEach (_ :: _) _)) (backToKw _ (keywordEach (_ :: _) _))) _ _ _); kfb_any; k_dflt (refine' callWith_fbKw ?k1 ?_; (case k1 => exact rfl); k_whole)))
local macro_rules | `(tactic| walk_at "callWith") => `(tactic| (k_here; (with_reducible show wpAny _ _ (callWith _ (Value.builtin _) [_] (backTo _ (starEach (_ :: _) _)) (backToKw _ (keywordEach (_ :: _) _))) _ _ _); k_dflt (refine callWith_bKw ?_; k_whole)))
local macro_rules | `(tactic| walk_at "call ref") => `(tactic| (k_here; (with_reducible show wpAny _ _ (call (Value.ref _) (Value.bytes _ _ :: _) _) _ _ _); kfb_any; k_dflt (first
  | (refine fb_call2 (by k_asm) (by k_mem) (picked_tail (by assumption)) (by kfb_size) ?_)
  | (refine fb_call0 (by k_asm) (by k_mem) (by kba_ints2) (by kfb_size) ?_)
  | (refine fb_call1 (by k_asm) (by k_mem) (by kba_ints2) (by kfb_size) ?_)
  | (refine fb_call2 (by k_asm) (by k_mem) (by kba_ints2) (by kfb_size) ?_)); intro _ _))
local macro_rules | `(tactic| walk_at "subscriptTail") => `(tactic| (k_here; (with_reducible show wpAny _ _ (subscriptTail _ _ (Value.bytes _ _) (Value.int _ _)) _ _ _); (with_unfolding_all refine' bytes_item0 ?k1 ?k2 ?_; (case k1 => assumption); (case k2 => exact Nat.le_of_ble_eq_true rfl); k_whole); intro _ _ _ _))
local macro_rules | `(tactic| walk_at "binaryOp LShift int int") => `(tactic| (k_here; (with_reducible show wpAny _ _ (binaryOp _ (Value.int (Builtin.bitAnd _ _) _) _) _ _ _); k_dflt (refine' lshift_int_small ?k1 ?k2 ?k3 ?_; (case k1 => omega); (case k2 => omega); (case k3 => exact mask_small _); k_whole)))
local macro_rules | `(tactic| walk_at "call type:bytes") => `(tactic| (k_here; (with_reducible show wpAny _ _ (call (Value.type "bytes") [Value.bytes _ _]) _ _ _); (refine bytes_of_bytes ?_)))
local macro_rules | `(tactic| walk_at "call builtin:int.to_bytes") => `(tactic| (k_here; k_dflt (first
  | (refine' tb_32 ?h0 ?h1 ?_; (case h0 => first | assumption | omega); (case h1 => first | assumption | omega); k_whole)
  | (refine' tb_32s ?h0 ?h1 ?_; (case h0 => first | assumption | omega); (case h1 => first | assumption | omega); k_whole)
  | (refine' tb_3s ?h0 ?h1 ?_; (case h0 => first | assumption | omega); (case h1 => first | assumption | omega); k_whole; intro _)); intro _ _))
local macro_rules | `(tactic| walk_at "binaryOp Add bytes bytes") => `(tactic| (k_here; k_dflt (refine' bytes_cons_add ?h0 ?h1 ?hb ?hl ?_; (case h0 => omega); (case h1 => omega); (case hb => assumption); (case hl => exact little3_len); k_whole); intro _ _))
local macro_rules | `(tactic| walk_at "call ref") => `(tactic| (k_here; k_dflt (show wpAny _ _ (call (Value.ref 87) [Value.bytes _ _]) _ _ _); k_dflt (refine' ctn_use (ct_value _ _ _ _ _ _ _ ?hb) ?k2 ?k3 ?k4 ?k5 ?hp ?hh ?kd ?ku ?_; (case hb => assumption); (case hp => exact True.intro); (case k2 => k_asm); (case k3 => k_asm); (case k4 => k_asm); (case k5 => k_asm); (case hh => exact rfl); (case kd => ktr_room); (case ku => ktr_units); intro t9 h9 tk9 F9 N9; (try dsimp only); (try k_fold))))
local macro_rules | `(tactic| walk_at "call ref") => `(tactic| (k_here; k_dflt (show wpAny _ _ (call (Value.ref 59) [Value.bytes _ _, Value.int _ _]) _ _ _); k_dflt (refine' ctn_use (ct_bfo4 _ _ _ _ _ _ _ _ ?hb) ?k2 ?k3 ?k4 ?k5 ?hp ?hh ?kd ?ku ?_; (case hb => assumption); (case hp => exact True.intro); (case k2 => k_asm); (case k3 => k_asm); (case k4 => k_asm); (case k5 => k_asm); (case hh => exact rfl); (case kd => ktr_room); (case ku => ktr_units); intro t9 h9 tk9 F9 N9; (try dsimp only); (try k_fold))))
local macro_rules | `(tactic| walk_at "call ref") => `(tactic| (k_here; k_dflt (show wpAny _ _ (call (Value.ref 59) [Value.bytes _ _]) _ _ _); k_dflt (refine' ctn_use (ct_bfo _ _ _) ?k2 ?k3 ?k4 ?k5 ?hp ?hh ?kd ?ku ?_; (case hp => exact True.intro); (case k2 => k_asm); (case k3 => k_asm); (case k4 => k_asm); (case k5 => k_asm); (case hh => exact rfl); (case kd => ktr_room); (case ku => ktr_units); intro t9 h9 tk9 F9 N9; (try dsimp only); (try k_fold))))
set_option maxHeartbeats 4000000 in
theorem ct_tfb (w : World) (b : Array UInt8) (tb : Tok) (e x y z : Int) (hb : KBw.bInts b = [e, x, y, z]) (h0 : 0 ≤ vfb e x y z) (h1 : vfb e x y z < 256 ^ 32) : CtN w 8 (fun _ => True) 94 [.bytes b tb] [] (fun t => .bytes (be32 (vfb e x y z)) t) := by
  unfold CtN
  k_fill
  intro p loose mean mg mb dp un fr gd s Q E X T hp hd hu hret
  walk_at "MINE enter"
  have h2 : ¬ (256 ^ Int.toNat 32 ≤ vfb e x y z) := Int.not_le.mpr h1
  k_steps
  exact hret _ _ _ (by assumption)
end Mine
namespace Mine
open PySem.Builtin.Int (intBits)
/-- the compact form's exponent, ahead of the sign bit -/
def exq (v : Int) : Int := ((intBits v : Int) + 7).fdiv 8
/-- its significand, ahead of the sign bit -/
def sgq (v : Int) : Int := if exq v ≤ 3 then v * 2 ^ (8 * (3 - exq v)).toNat else v.fdiv (2 ^ (8 * (exq v - 3)).toNat)
/-- the compact form's four bytes -/
def cbl (v : Int) : List Int :=
  if Builtin.bitAnd (sgq v) 8388608 ≠ 0 then (exq v + 1) :: (KTBy.little 3 ((sgq v).fdiv (2 ^ 8))).reverse else exq v :: (KTBy.little 3 (sgq v)).reverse
def cb (v : Int) : Array UInt8 := byteArr (cbl v)

theorem exq_eq (v : Int) : exq v = (((intBits v + 7) / 8 : Nat) : Int) := by
  unfold exq
  rw [Int.fdiv_eq_ediv_of_nonneg _ (by decide)]
  omega
theorem bits_pos {v : Int} (h : 0 < v) : 0 < intBits v := by
  rcases Nat.eq_zero_or_pos (intBits v) with e | e
  · have := intBits_le_iff.mp (Nat.le_of_eq e)
    simp at this
    omega
  · exact e
theorem bits_lt {v : Int} (h : 0 ≤ v) : v < 2 ^ intBits v := by
  have := intBits_le_iff.mp (Nat.le_refl (intBits v))
  have e : ((2 ^ intBits v : Nat) : Int) = 2 ^ intBits v := by rw [Int.natCast_pow]; rfl
  rw [← e]
  omega
theorem bits_ge {v : Int} (h : 0 < v) : (2 : Int) ^ (intBits v - 1) ≤ v := by
  have hp := bits_pos h
  have h2 : ¬ v.natAbs < 2 ^ (intBits v - 1) := fun q => by
    have := intBits_le_iff.mpr q
    omega
  have e : ((2 ^ (intBits v - 1) : Nat) : Int) = 2 ^ (intBits v - 1) := by rw [Int.natCast_pow]; rfl
  rw [← e]
  omega
theorem bits_le_of {v : Int} {k : Nat} (h : 0 ≤ v) (h1 : v < 2 ^ k) : intBits v ≤ k := by
  refine intBits_le_iff.mpr ?_
  have e : ((2 ^ k : Nat) : Int) = 2 ^ k := by rw [Int.natCast_pow]; rfl
  rw [← e] at h1
  omega
theorem pow_pos2 (k : Nat) : (0 : Int) < 2 ^ k := Int.pow_pos (by decide)
theorem pow_mono2 {a b : Nat} (h : a ≤ b) : (2 : Int) ^ a ≤ 2 ^ b := by
  have e : ∀ k : Nat, ((2 ^ k : Nat) : Int) = 2 ^ k := fun k => by rw [Int.natCast_pow]; rfl
  rw [← e, ← e]
  exact Int.ofNat_le.mpr (Nat.pow_le_pow_right (by decide) h)
theorem pow_split {a b c : Nat} (h : a + b = c) : (2 : Int) ^ a * 2 ^ b = 2 ^ c := by rw [← Int.pow_add, h]
theorem exq_pos {v : Int} (h : 0 < v) : 1 ≤ exq v := by
  have := bits_pos h
  rw [exq_eq]
  omega
theorem exq_le {v : Int} (h : 0 ≤ v) (h1 : v < 2 ^ 240) : exq v ≤ 30 := by
  have := bits_le_of h h1
  rw [exq_eq]
  omega
theorem lt_exq {v : Int} (h : 0 ≤ v) : v < 2 ^ (8 * ((intBits v + 7) / 8)) := by
  refine Int.lt_of_lt_of_le (bits_lt h) ?_
  exact pow_mono2 (by omega)
theorem sg_lo {v : Int} (h : 0 < v) (he : exq v ≤ 3) : 0 ≤ v * 2 ^ (8 * (3 - exq v)).toNat ∧ v * 2 ^ (8 * (3 - exq v)).toNat < 16777216 := by
  have hv := lt_exq (Int.le_of_lt h)
  rw [exq_eq] at he ⊢
  generalize (intBits v + 7) / 8 = E at *
  have e : (8 * (3 - (E : Int))).toNat = 24 - 8 * E := by omega
  rw [e]
  have hp := pow_pos2 (24 - 8 * E)
  refine ⟨Int.mul_nonneg (by omega) (by omega), ?_⟩
  have e2 : (16777216 : Int) = 2 ^ (8 * E) * 2 ^ (24 - 8 * E) := by rw [pow_split (c := 24) (by omega)]; rfl
  rw [e2]
  exact Int.mul_lt_mul_of_pos_right hv hp
theorem sg_hi {v : Int} (h : 0 < v) (he : ¬ exq v ≤ 3) : 0 ≤ v.fdiv (2 ^ (8 * (exq v - 3)).toNat) ∧ v.fdiv (2 ^ (8 * (exq v - 3)).toNat) < 16777216 := by
  have hv := lt_exq (Int.le_of_lt h)
  rw [exq_eq] at he ⊢
  generalize (intBits v + 7) / 8 = E at *
  have e : (8 * ((E : Int) - 3)).toNat = 8 * E - 24 := by omega
  rw [e]
  have hp := pow_pos2 (8 * E - 24)
  rw [Int.fdiv_eq_ediv_of_nonneg _ (Int.le_of_lt hp)]
  refine ⟨Int.ediv_nonneg (by omega) (by omega), ?_⟩
  refine Int.ediv_lt_of_lt_mul hp ?_
  rw [show (16777216 : Int) = 2 ^ 24 from rfl, pow_split (c := 8 * E) (by omega)]
  exact hv
theorem sgq_in {v : Int} (h : 0 < v) : 0 ≤ sgq v ∧ sgq v < 16777216 := by
  unfold sgq
  by_cases he : exq v ≤ 3
  · rw [if_pos he]; exact sg_lo h he
  · rw [if_neg he]; exact sg_hi h he
theorem sg_shift {x : Int} (h0 : 0 ≤ x) (h1 : x < 16777216) : 0 ≤ x.fdiv (2 ^ 8) ∧ x.fdiv (2 ^ 8) < 16777216 := by
  rw [Int.fdiv_eq_ediv_of_nonneg _ (by decide)]
  have : (2 : Int) ^ 8 = 256 := rfl
  rw [this]
  omega
theorem cb_1 {v : Int} (he : exq v ≤ 3) (hs : Builtin.bitAnd (v * 2 ^ (8 * (3 - exq v)).toNat) 8388608 ≠ 0) : byteArr ((exq v + 1) :: (KTBy.little 3 ((v * 2 ^ (8 * (3 - exq v)).toNat).fdiv (2 ^ 8))).reverse) = cb v := by
  unfold cb cbl sgq
  rw [if_pos he, if_pos hs]
theorem cb_2 {v : Int} (he : exq v ≤ 3) (hs : Builtin.bitAnd (v * 2 ^ (8 * (3 - exq v)).toNat) 8388608 = 0) : byteArr (exq v :: (KTBy.little 3 (v * 2 ^ (8 * (3 - exq v)).toNat)).reverse) = cb v := by
  unfold cb cbl sgq
  rw [if_pos he, if_neg (fun h => h hs)]
theorem cb_3 {v : Int} (he : ¬ exq v ≤ 3) (hs : Builtin.bitAnd (v.fdiv (2 ^ (8 * (exq v - 3)).toNat)) 8388608 ≠ 0) : byteArr ((exq v + 1) :: (KTBy.little 3 ((v.fdiv (2 ^ (8 * (exq v - 3)).toNat)).fdiv (2 ^ 8))).reverse) = cb v := by
  unfold cb cbl sgq
  rw [if_neg he, if_pos hs]
theorem cb_4 {v : Int} (he : ¬ exq v ≤ 3) (hs : Builtin.bitAnd (v.fdiv (2 ^ (8 * (exq v - 3)).toNat)) 8388608 = 0) : byteArr (exq v :: (KTBy.little 3 (v.fdiv (2 ^ (8 * (exq v - 3)).toNat))).reverse) = cb v := by
  unfold cb cbl sgq
  rw [if_neg he, if_neg (fun h => h hs)]
end Mine
namespace Mine
local macro_rules | `(tactic| walk_at "MINE pad") => `(tactic| fail)
local macro_rules | `(tactic| walk_at "MINE pad") => `(tactic| fail)
theorem top_off_P4 : True := by
  w_top off
  exact True.intro
local macro_rules | `(tactic| k_room) => `(tactic| ktr_room)
local macro_rules | `(tactic| walk_at "MINE enter") => `(tactic| (refine wpAny_call ?_; k_dflt (refine' code_n ?k3 ?k5 ?k6 ?k7 ?k8 ?k9 ?kB ?_ ?c2 ?c3 ?c4 ?c5; (case k3 => k_asm); (case k5 => k_asm); (case k6 => k_is); (case k7 => k_is); (case k8 => ktr_room); (case k9 => first | exact BindsTo.of_eq rfl | exact binds_K (by k_in) rfl (by k_is) rfl rfl rfl | (refine' kp_binds ?kx ?ke; (case kx => k_in); (case ke => exact fun _ => rfl))); (case c5 => decide); (case kB => exact locs rfl); (case c2 => exact rfl); (case c3 => exact rfl); (case c4 => exact rfl); k_whole; intro L' h' F' N'; (try dsimp only); (try k_fold))))
local macro_rules | `(tactic| walk_at "LeaveN") => `(tactic| (k_dflt (refine' leaveN_ ?k1 ?k2 ?_; (case k1 => k_asm); (case k2 => k_asm); k_whole); intro kK kN; (try dsimp only)))
local macro_rules | `(tactic| walk_at "callWith ref") => `(tactic| (k_here; (with_reducible show wpAny _ _ (callWith _ (Value.ref _) [] (backTo _ (starEach (_ :: _) _)) (backToKw _ (keywordEach (_ :: _) _))) _ _ _); kfb_any; k_dflt (refine' callWith_fbKw ?k1 ?_; (case k1 => exact rfl); k_whole)))
local macro_rules | `(tactic| walk_at "callWith") => `(tactic| (k_here; (with_reducible show wpAny _ _ (callWith _ (Value.builtin _) [_] (backTo _ (starEach (_ :: _) _)) (backToKw _ (keywordEach (_ :: _) _))) _ _ _); k_dflt (refine callWith_bKw ?_; k_whole)))
local macro_rules | `(tactic| walk_at "call ref") => `(tactic| (k_here; (with_reducible show wpAny _ _ (call (Value.ref _) (Value.bytes _ _ :: _) _) _ _ _); kfb_any; k_dflt (first
  | (refine fb_call2 (by k_asm) (by k_mem) (picked_tail (by assumption)) (by kfb_size) ?_)
  | (refine fb_call0 (by k_asm) (by k_mem) (by kba_ints2) (by kfb_size) ?_)
  | (refine fb_call1 (by k_asm) (by k_mem) (by kba_ints2) (by kfb_size) ?_)
  | (refine fb_call2 (by k_asm) (by k_mem) (by kba_ints2) (by kfb_size) ?_)); intro _ _))
local macro_rules | `(tactic| walk_at "subscriptTail") => `(tactic| (k_here; (with_reducible show wpAny _ _ (subscriptTail _ _ (Value.bytes _ _) (Value.int _ _)) _ _ _); (with_unfolding_all refine' bytes_item0 ?k1 ?k2 ?_; (case k1 => assumption); (case k2 => exact Nat.le_of_ble_eq_true rfl); k_whole); intro _ _ _ _))
local macro_rules | `(tactic| walk_at "binaryOp LShift int int") => `(tactic| (k_here; (with_reducible show wpAny _ _ (binaryOp _ (Value.int (Builtin.bitAnd _ _) _) _) _ _ _); k_dflt (refine' lshift_int_small ?k1 ?k2 ?k3 ?_; (case k1 => omega); (case k2 => omega); (case k3 => exact mask_small _); k_whole)))
local macro_rules | `(tactic| walk_at "call type:bytes") => `(tactic| (k_here; (with_reducible show wpAny _ _ (call (Value.type "bytes") [Value.bytes _ _]) _ _ _); (refine bytes_of_bytes ?_)))
local macro_rules | `(tactic| walk_at "call builtin:int.to_bytes") => `(tactic| (k_here; k_dflt (first
  | (refine' tb_32 ?h0 ?h1 ?_; (case h0 => first | assumption | omega); (case h1 => first | assumption | omega); k_whole)
  | (refine' tb_32s ?h0 ?h1 ?_; (case h0 => first | assumption | omega); (case h1 => first | assumption | omega); k_whole)
  | (refine' tb_3s ?h0 ?h1 ?_; (case h0 => first | assumption | omega); (case h1 => first | assumption | omega); k_whole; intro _)); intro _ _))
local macro_rules | `(tactic| walk_at "binaryOp Add bytes bytes") => `(tactic| (k_here; k_dflt (refine' bytes_cons_add ?h0 ?h1 ?hb ?hl ?_; (case h0 => omega); (case h1 => omega); (case hb => assumption); (case hl => exact little3_len); k_whole); intro _ _))
local macro_rules | `(tactic| walk_at "call ref") => `(tactic| (k_here; k_dflt (show wpAny _ _ (call (Value.ref 59) [Value.bytes _ _]) _ _ _); k_dflt (refine' ctn_use (ct_bfo _ _ _) ?k2 ?k3 ?k4 ?k5 ?hp ?hh ?kd ?ku ?_; (case hp => exact True.intro); (case k2 => k_asm); (case k3 => k_asm); (case k4 => k_asm); (case k5 => k_asm); (case hh => exact rfl); (case kd => ktr_room); (case ku => ktr_units); intro t9 h9 tk9 F9 N9; (try dsimp only); (try k_fold))))
local macro_rules | `(tactic| walk_at "call builtin:int.to_bytes") => `(tactic| (k_here; k_dflt (refine' tb_3s ?h0 ?h1 ?_; (case h0 => first | assumption | omega | exact (sg_lo (by assumption) (by assumption)).1 | exact (sg_hi (by assumption) (by assumption)).1 | exact (sg_shift (sg_lo (by assumption) (by assumption)).1 (sg_lo (by assumption) (by assumption)).2).1 | exact (sg_shift (sg_hi (by assumption) (by assumption)).1 (sg_hi (by assumption) (by assumption)).2).1); (case h1 => first | assumption | omega | exact (sg_lo (by assumption) (by assumption)).2 | exact (sg_hi (by assumption) (by assumption)).2 | exact (sg_shift (sg_lo (by assumption) (by assumption)).1 (sg_lo (by assumption) (by assumption)).2).2 | exact (sg_shift (sg_hi (by assumption) (by assumption)).1 (sg_hi (by assumption) (by assumption)).2).2); k_whole); intro _ _ _ _))
local macro_rules | `(tactic| walk_at "binaryOp LShift int int") => `(tactic| (k_here; k_dflt (refine' lshift_int ?k1 ?k2 ?_; (case k1 => omega); (case k2 => omega); k_whole)))
set_option maxHeartbeats 8000000 in
theorem ct_bft (w : World) (b : Array UInt8) (tb : Tok) (ks : List Int) (hb : KBw.bInts b = ks) (hl : ks.length ≤ 32) (h0 : 0 < KFB.value ks) (h1 : KFB.value ks < 2 ^ 240) : CtN w 8 (fun _ => True) 101 [.bytes b tb] [] (fun t => .bytes (cb (KFB.value ks)) t) := by
  unfold CtN
  k_fill
  intro p loose mean mg mb dp un fr gd s Q E X T hp hd hu hret
  walk_at "MINE enter"
  have hE0 := exq_pos h0
  have hE1 := exq_le (Int.le_of_lt h0) h1
  have hB := bits_le_of (Int.le_of_lt h0) h1
  unfold exq at hE0 hE1
  k_steps
  all_goals (refine ret_eq hret (ret_byt ?_) (by assumption))
  · exact cb_1 (by assumption) (by assumption)
  · exact cb_2 (by assumption) (by assumption)
  · exact cb_3 (by assumption) (by assumption)
  · exact cb_4 (by assumption) (by assumption)
end Mine
namespace Mine
open PySem.Builtin.Int (intBits)
/-- how many low bytes the compact form leaves off -/
def jq (v : Int) : Nat := intBits v / 8 - 2
/-- what the compact form keeps of an int -/
def tr (v : Int) : Int := v / 2 ^ (8 * jq v) * 2 ^ (8 * jq v)

theorem sign_iff {x : Int} (h0 : 0 ≤ x) (h1 : x < 16777216) : Builtin.bitAnd x 8388608 ≠ 0 ↔ 8388608 ≤ x := by
  have h := kbt_bitF x 23
  have e : (2 : Int) ^ 23 = 8388608 := by decide
  rw [e] at h
  rw [h, Int.fdiv_eq_ediv_of_nonneg _ (by decide), Int.fmod_eq_emod_of_nonneg _ (by decide)]
  by_cases hx : 8388608 ≤ x
  · have : x / 8388608 = 1 := by omega
    rw [this]
    simp [hx]
  · have : x / 8388608 = 0 := by omega
    rw [this]
    simp [hx]
theorem vfb_of {e s : Int} {x y z : Int} (h0 : 0 ≤ s) (h1 : s < 8388608) (hd : (KTBy.little 3 s).reverse = [x, y, z]) : vfb e x y z = if e < 3 then s.fdiv (2 ^ (8 * (3 - e)).toNat) else s * 2 ^ (8 * (e - 3)).toNat := by
  have hv : KFB.value [x, y, z] = s := by
    rw [← hd]
    exact value_little 3 s h0 (Int.lt_of_lt_of_le h1 (by decide))
  unfold vfb
  rw [hv, mask_eq h0, Int.emod_eq_of_lt h0 h1]
theorem little3 (s : Int) : (KTBy.little 3 s).reverse = [s / 256 / 256 % 256, s / 256 % 256, s % 256] := rfl
theorem div_pow (v : Int) (a b : Nat) : v / 2 ^ a / 2 ^ b = v / 2 ^ (a + b) := by
  rw [Int.pow_add, Int.ediv_ediv_of_nonneg (Int.le_of_lt (pow_pos2 a))]
theorem shift8 {x : Int} : x.fdiv (2 ^ 8) = x / 2 ^ 8 := Int.fdiv_eq_ediv_of_nonneg _ (by decide)

/-- the four bytes, and what they stand for -/
theorem cb_tr {v : Int} (h : 0 < v) (h1 : v < 2 ^ 240) : ∃ e x y z, KBw.bInts (cb v) = [e, x, y, z] ∧ vfb e x y z = tr v := by
  have hn0 := bits_pos h
  have hlt := bits_lt (Int.le_of_lt h)
  have hge := bits_ge h
  have hn1 := bits_le_of (Int.le_of_lt h) h1
  have hE := exq_eq v
  have key : ∃ e s : Int, cbl v = e :: (KTBy.little 3 s).reverse ∧ 0 ≤ e ∧ e < 256 ∧ 0 ≤ s ∧ s < 8388608 ∧ (if e < 3 then s.fdiv (2 ^ (8 * (3 - e)).toNat) else s * 2 ^ (8 * (e - 3)).toNat) = tr v := by
    unfold tr jq
    generalize intBits v = n at *
    by_cases he : exq v ≤ 3
    · -- three bytes or fewer: the number itself
      have hs := sg_lo h he
      have hn : n ≤ 24 := by omega
      have e1 : exq v = 1 ∨ exq v = 2 ∨ exq v = 3 := by omega
      have hsm : v < 2 ^ 24 := Int.lt_of_lt_of_le hlt (pow_mono2 hn)
      have sgn := sign_iff hs.1 hs.2
      rcases e1 with e1 | e1 | e1
      · rw [e1] at hs sgn
        have hn8 : n ≤ 8 := by omega
        have hv8 : v < 2 ^ 8 := Int.lt_of_lt_of_le hlt (pow_mono2 hn8)
        have ej : n / 8 - 2 = 0 := by omega
        have p16 : (2 : Int) ^ (8 * (3 - (1 : Int))).toNat = 65536 := by decide
        rw [p16] at hs sgn
        by_cases hb : 8388608 ≤ v * 65536
        · refine ⟨2, (v * 65536).fdiv (2 ^ 8), ?_, by decide, by decide, ?_, ?_, ?_⟩
          · have esg : sgq v = v * 65536 := by
              unfold sgq
              rw [if_pos he, e1, p16]
            unfold cbl
            rw [esg, e1, if_pos (sgn.mpr hb)]
            rfl
          · rw [shift8]; omega
          · rw [shift8]; omega
          · rw [if_pos (by decide), shift8, Int.fdiv_eq_ediv_of_nonneg _ (by decide), ej]
            have : (2 : Int) ^ (8 * (3 - (2 : Int))).toNat = 256 := by decide
            rw [this]
            have : (2 : Int) ^ 8 = 256 := by decide
            rw [this]
            have : (2 : Int) ^ (8 * 0) = 1 := by decide
            rw [this]
            omega
        · refine ⟨1, v * 65536, ?_, by decide, by decide, by omega, by omega, ?_⟩
          · have esg : sgq v = v * 65536 := by
              unfold sgq
              rw [if_pos he, e1, p16]
            unfold cbl
            rw [esg, e1, if_neg (fun q => hb (sgn.mp q))]
          · rw [if_pos (by decide), Int.fdiv_eq_ediv_of_nonneg _ (by decide), ej, p16]
            have : (2 : Int) ^ (8 * 0) = 1 := by decide
            rw [this]
            omega
      · rw [e1] at hs sgn
        have hn8 : n ≤ 16 := by omega
        have hv8 : v < 2 ^ 16 := Int.lt_of_lt_of_le hlt (pow_mono2 hn8)
        have ej : n / 8 - 2 = 0 := by omega
        have p16 : (2 : Int) ^ (8 * (3 - (2 : Int))).toNat = 256 := by decide
        rw [p16] at hs sgn
        by_cases hb : 8388608 ≤ v * 256
        · refine ⟨3, (v * 256).fdiv (2 ^ 8), ?_, by decide, by decide, ?_, ?_, ?_⟩
          · have esg : sgq v = v * 256 := by
              unfold sgq
              rw [if_pos he, e1, p16]
            unfold cbl
            rw [esg, e1, if_pos (sgn.mpr hb)]
            rfl
          · rw [shift8]; omega
          · rw [shift8]; omega
          · rw [if_neg (by decide), shift8, ej]
            have : (2 : Int) ^ (8 * ((3 : Int) - 3)).toNat = 1 := by decide
            rw [this]
            have : (2 : Int) ^ 8 = 256 := by decide
            rw [this]
            have : (2 : Int) ^ (8 * 0) = 1 := by decide
            rw [this]
            omega
        · refine ⟨2, v * 256, ?_, by decide, by decide, by omega, by omega, ?_⟩
          · have esg : sgq v = v * 256 := by
              unfold sgq
              rw [if_pos he, e1, p16]
            unfold cbl
            rw [esg, e1, if_neg (fun q => hb (sgn.mp q))]
          · rw [if_pos (by decide), Int.fdiv_eq_ediv_of_nonneg _ (by decide), ej, p16]
            have : (2 : Int) ^ (8 * 0) = 1 := by decide
            rw [this]
            omega
      · rw [e1] at hs sgn
        have p16 : (2 : Int) ^ (8 * (3 - (3 : Int))).toNat = 1 := by decide
        rw [p16] at hs sgn
        by_cases hb : 8388608 ≤ v * 1
        · have hn24 : n = 24 := by
            rcases Nat.lt_or_ge n 24 with q | q
            · have := Int.lt_of_lt_of_le hlt (pow_mono2 (show n ≤ 23 by omega))
              have e : (2 : Int) ^ 23 = 8388608 := by decide
              omega
            · omega
          refine ⟨4, (v * 1).fdiv (2 ^ 8), ?_, by decide, by decide, ?_, ?_, ?_⟩
          · have esg : sgq v = v * 1 := by
              unfold sgq
              rw [if_pos he, e1, p16]
            unfold cbl
            rw [esg, e1, if_pos (sgn.mpr hb)]
            rfl
          · rw [shift8]; omega
          · rw [shift8]; omega
          · rw [if_neg (by decide), shift8, hn24]
            have : (2 : Int) ^ (8 * ((4 : Int) - 3)).toNat = 256 := by decide
            rw [this]
            have : (2 : Int) ^ 8 = 256 := by decide
            rw [this]
            rw [Int.mul_one]
        · have hn23 : n ≤ 23 := by
            rcases Nat.lt_or_ge n 24 with q | q
            · omega
            · have := Int.le_trans (pow_mono2 (show 23 ≤ n - 1 by omega)) hge
              have e : (2 : Int) ^ 23 = 8388608 := by decide
              omega
          have ej : n / 8 - 2 = 0 := by omega
          refine ⟨3, v * 1, ?_, by decide, by decide, by omega, by omega, ?_⟩
          · have esg : sgq v = v * 1 := by
              unfold sgq
              rw [if_pos he, e1, p16]
            unfold cbl
            rw [esg, e1, if_neg (fun q => hb (sgn.mp q))]
          · rw [if_neg (by decide), ej]
            have : (2 : Int) ^ (8 * ((3 : Int) - 3)).toNat = 1 := by decide
            rw [this]
            have : (2 : Int) ^ (8 * 0) = 1 := by decide
            rw [this]
            omega
    · -- four bytes or more
      have hs := sg_hi h he
      have sgn := sign_iff hs.1 hs.2
      obtain ⟨E, hEn⟩ : ∃ E : Nat, E = (n + 7) / 8 := ⟨_, rfl⟩
      rw [← hEn] at hE
      have hE4 : 4 ≤ E := by omega
      have eT : (8 * (exq v - 3)).toNat = 8 * E - 24 := by omega
      rw [eT] at hs sgn
      have hp := pow_pos2 (8 * E - 24)
      rw [Int.fdiv_eq_ediv_of_nonneg _ (Int.le_of_lt hp)] at hs sgn
      by_cases hb : n = 8 * E
      · have hbig : 8388608 ≤ v / 2 ^ (8 * E - 24) := by
          refine Int.le_ediv_of_mul_le hp ?_
          have e : (8388608 : Int) = 2 ^ 23 := by decide
          rw [e, pow_split (c := n - 1) (by omega)]
          exact hge
        refine ⟨exq v + 1, (v / 2 ^ (8 * E - 24)).fdiv (2 ^ 8), ?_, by omega, by omega, ?_, ?_, ?_⟩
        · unfold cbl sgq
          rw [if_neg he, eT, Int.fdiv_eq_ediv_of_nonneg _ (Int.le_of_lt hp), if_pos (sgn.mpr hbig)]
        · rw [shift8]; omega
        · rw [shift8]; omega
        · rw [if_neg (by omega), shift8, div_pow]
          have e1 : 8 * E - 24 + 8 = 8 * (n / 8 - 2) := by omega
          have e2 : (8 * (exq v + 1 - 3)).toNat = 8 * (n / 8 - 2) := by omega
          rw [e1, e2]
      · have hsml : v / 2 ^ (8 * E - 24) < 8388608 := by
          refine Int.ediv_lt_of_lt_mul hp ?_
          have e : (8388608 : Int) = 2 ^ 23 := by decide
          rw [e, pow_split (c := 8 * E - 1) (by omega)]
          exact Int.lt_of_lt_of_le hlt (pow_mono2 (by omega))
        refine ⟨exq v, v / 2 ^ (8 * E - 24), ?_, by omega, by omega, hs.1, hsml, ?_⟩
        · unfold cbl sgq
          rw [if_neg he, eT, Int.fdiv_eq_ediv_of_nonneg _ (Int.le_of_lt hp), if_neg (fun q => by have := sgn.mp q; omega)]
        · rw [if_neg (by omega)]
          have e1 : 8 * E - 24 = 8 * (n / 8 - 2) := by omega
          rw [eT, e1]
  obtain ⟨e, s, hc, he0, he1, hs0, hs1, ht⟩ := key
  refine ⟨e, s / 256 / 256 % 256, s / 256 % 256, s % 256, ?_, ?_⟩
  · unfold cb
    rw [hc, little3]
    refine KBa.ints_make fun k hk => ?_
    rcases List.mem_cons.mp hk with rfl | hk
    · exact ⟨he0, he1⟩
    · have := little_in 3 s k (by rw [← List.mem_reverse, little3]; exact hk)
      exact this
  · rw [vfb_of hs0 hs1 (little3 s), ht]

theorem tr_le {v : Int} (_h : 0 ≤ v) : tr v ≤ v := by
  unfold tr
  exact Int.ediv_mul_le v (Int.ne_of_gt (pow_pos2 _))
theorem tr_nonneg {v : Int} (h : 0 ≤ v) : 0 ≤ tr v := by
  unfold tr
  exact Int.mul_nonneg (Int.ediv_nonneg h (Int.le_of_lt (pow_pos2 _))) (Int.le_of_lt (pow_pos2 _))
theorem tr_low {v : Int} (hj : jq v = 0) : tr v = v := by
  unfold tr
  rw [hj]
  simp
theorem ge_jq {v : Int} (h : 0 < v) (hj : 0 < jq v) : (2 : Int) ^ (8 * jq v + 15) ≤ v := by
  refine Int.le_trans (pow_mono2 ?_) (bits_ge h)
  unfold jq at *
  omega
theorem lt_jq {v : Int} (h : 0 ≤ v) : v < (2 : Int) ^ (8 * jq v + 23) := by
  refine Int.lt_of_lt_of_le (bits_lt h) (pow_mono2 ?_)
  unfold jq
  omega
theorem tr_ge {v : Int} (h : 0 < v) (hj : 0 < jq v) : (2 : Int) ^ (8 * jq v + 15) ≤ tr v := by
  have h1 := ge_jq h hj
  unfold tr
  have hp := pow_pos2 (8 * jq v)
  have e : (2 : Int) ^ (8 * jq v + 15) = 2 ^ 15 * 2 ^ (8 * jq v) := by rw [Int.mul_comm, ← Int.pow_add]
  rw [e] at h1 ⊢
  exact Int.mul_le_mul_of_nonneg_right (Int.le_ediv_of_mul_le hp h1) (Int.le_of_lt hp)
theorem tr_pos {v : Int} (h : 0 < v) : 0 < tr v := by
  by_cases hj : jq v = 0
  · rw [tr_low hj]; exact h
  · exact Int.lt_of_lt_of_le (pow_pos2 _) (tr_ge h (Nat.pos_of_ne_zero hj))
theorem bits_mono {v w : Int} (h : 0 ≤ v) (hw : v ≤ w) : intBits v ≤ intBits w :=
  bits_le_of h (Int.lt_of_le_of_lt hw (bits_lt (Int.le_trans h hw)))
theorem tr_mono {v w : Int} (h : 0 < v) (hw : v ≤ w) : tr v ≤ tr w := by
  have hb := bits_mono (Int.le_of_lt h) hw
  have hjle : jq v ≤ jq w := by unfold jq; omega
  rcases Nat.lt_or_ge (jq v) (jq w) with q | q
  · refine Int.le_trans (tr_le (Int.le_of_lt h)) ?_
    refine Int.le_trans (Int.le_of_lt (lt_jq (Int.le_of_lt h))) (Int.le_trans (pow_mono2 ?_) (tr_ge (by omega) (by omega)))
    omega
  · have e : jq v = jq w := Nat.le_antisymm hjle q
    unfold tr
    rw [e]
    exact Int.mul_le_mul_of_nonneg_right (Int.ediv_le_ediv (pow_pos2 _) hw) (Int.le_of_lt (pow_pos2 _))
/-- what is left off is at most one in 2 ** 15 -/
theorem tr_near {v : Int} (h : 0 < v) : v - tr v ≤ v / 32768 := by
  by_cases hj : jq v = 0
  · rw [tr_low hj]; omega
  · have h1 := ge_jq h (Nat.pos_of_ne_zero hj)
    have hp := pow_pos2 (8 * jq v)
    have e : (2 : Int) ^ (8 * jq v + 15) = 2 ^ (8 * jq v) * 32768 := by rw [Int.pow_add]; rfl
    rw [e] at h1
    have h2 : (2 : Int) ^ (8 * jq v) ≤ v / 32768 := Int.le_ediv_of_mul_le (by decide) h1
    have h3 : v - tr v < 2 ^ (8 * jq v) := by
      unfold tr
      have := Int.emod_lt_of_pos v hp
      have hdm := Int.mul_ediv_add_emod v (2 ^ (8 * jq v))
      rw [Int.mul_comm] at hdm
      omega
    omega
end Mine
namespace Mine
theorem p240 : (2 : Int) ^ 240 < 256 ^ 32 := by decide
theorem tr_lt {v : Int} (h : 0 < v) (h1 : v < 2 ^ 240) : tr v < 256 ^ 32 := Int.lt_trans (Int.lt_of_le_of_lt (tr_le (Int.le_of_lt h)) h1) p240
/-- target_from_bits of a compact form -/
theorem ct_tfbv (w : World) (v : Int) (tb : Tok) (h : 0 < v) (h1 : v < 2 ^ 240) : CtN w 8 (fun _ => True) 94 [.bytes (cb v) tb] [] (fun t => .bytes (be32 (tr v)) t) := by
  obtain ⟨e, x, y, z, hb, ht⟩ := cb_tr h h1
  have := ct_tfb w (cb v) tb e x y z hb (by rw [ht]; exact tr_nonneg (Int.le_of_lt h)) (by rw [ht]; exact tr_lt h h1)
  rw [ht] at this
  exact this
/-- bits_from_target of an int in 32 places -/
theorem ct_bftv (w : World) (v : Int) (tb : Tok) (h : 0 < v) (h1 : v < 2 ^ 240) : CtN w 8 (fun _ => True) 101 [.bytes (be32 v) tb] [] (fun t => .bytes (cb v) t) := by
  have hv := be32_value (Int.le_of_lt h) (Int.lt_trans h1 p240)
  have := ct_bft w (be32 v) tb _ (be32_ints v) (by rw [List.length_reverse, KTBy.little_length]; decide) (by rw [hv]; exact h) (by rw [hv]; exact h1)
  rw [hv] at this
  exact this
theorem ints_be32_len (v : Int) : ((KTBy.little 32 v).reverse).length ≤ 100 := by rw [List.length_reverse, KTBy.little_length]; decide
theorem limit_bits : (#[29, 0, 255, 255] : Array UInt8) = cb (65535 * 256 ^ 26) := by decide +kernel
end Mine
namespace Mine
open PySem.Builtin.Int (intBits)
/-- a span within its bounds -/
def clampq (d : Int) : Int := if 1209600 * 4 < (if Int.fdiv 1209600 4 > d then Int.fdiv 1209600 4 else d) then 1209600 * 4 else (if Int.fdiv 1209600 4 > d then Int.fdiv 1209600 4 else d)
/-- the next target, ahead of the compact form -/
def nx (x d : Int) : Int := if 65535 * 256 ^ 26 < ((x * clampq d).fmod (2 ^ Int.toNat 256)).fdiv 1209600 then 65535 * 256 ^ 26 else ((x * clampq d).fmod (2 ^ Int.toNat 256)).fdiv 1209600
theorem clampq_eq (d : Int) : clampq d = min (max d 302400) 4838400 := by
  have e : Int.fdiv 1209600 4 = 302400 := by decide
  have e2 : (1209600 * 4 : Int) = 4838400 := by decide
  unfold clampq
  rw [e, e2]
  omega
theorem clampq_in (d : Int) : 302400 ≤ clampq d ∧ clampq d ≤ 4838400 := by rw [clampq_eq]; omega
theorem clampq_mono {d e : Int} (h : d ≤ e) : clampq d ≤ clampq e := by rw [clampq_eq, clampq_eq]; omega
theorem clampq_idem (d : Int) : clampq (clampq d) = clampq d := by rw [clampq_eq, clampq_eq]; omega
theorem lim_val : (65535 * 256 ^ 26 : Int) < 2 ^ 224 := by decide
theorem nx_eq {x : Int} (d : Int) (h0 : 0 ≤ x) (h1 : x ≤ 65535 * 256 ^ 26) : nx x d = min (x * clampq d / 1209600) (65535 * 256 ^ 26) := by
  have hc := clampq_in d
  have hm : 0 ≤ x * clampq d := Int.mul_nonneg h0 (by omega)
  have hlt : x * clampq d < 2 ^ Int.toNat 256 := by
    have e : (2 : Int) ^ Int.toNat 256 = 2 ^ 224 * 2 ^ 32 := by decide
    rw [e]
    refine Int.lt_of_le_of_lt (Int.mul_le_mul_of_nonneg_left hc.2 h0) ?_
    refine Int.lt_of_le_of_lt (Int.mul_le_mul_of_nonneg_right h1 (by decide)) (by decide)
  have hp : (0 : Int) ≤ 2 ^ Int.toNat 256 := by decide
  unfold nx
  rw [Int.fmod_eq_emod_of_nonneg _ hp, Int.emod_eq_of_lt hm hlt, Int.fdiv_eq_ediv_of_nonneg _ (by decide)]
  omega
theorem nx_le {x : Int} (d : Int) (h0 : 0 ≤ x) (h1 : x ≤ 65535 * 256 ^ 26) : nx x d ≤ 65535 * 256 ^ 26 := by rw [nx_eq d h0 h1]; omega
/-- four times less at the least -/
theorem nx_low {x : Int} (d : Int) (k : Nat) (h0 : (2 : Int) ^ (k + 2) ≤ x) (h1 : x ≤ 65535 * 256 ^ 26) : (2 : Int) ^ k ≤ nx x d := by
  have hk := pow_pos2 (k + 2)
  have e4 : (2 : Int) ^ (k + 2) = 4 * 2 ^ k := by rw [Int.pow_add, Int.mul_comm]; rfl
  rw [nx_eq d (by omega) h1]
  have hc := clampq_in d
  have h2 : x * 302400 ≤ x * clampq d := Int.mul_le_mul_of_nonneg_left hc.1 (by omega)
  have h3 : (2 : Int) ^ k * 1209600 ≤ x * clampq d := by omega
  have h4 : (2 : Int) ^ k ≤ x * clampq d / 1209600 := Int.le_ediv_of_mul_le (by decide) h3
  omega
theorem nx_mono {x y d e : Int} (h0 : 0 ≤ x) (hxy : x ≤ y) (h1 : y ≤ 65535 * 256 ^ 26) (hde : d ≤ e) : nx x d ≤ nx y e := by
  rw [nx_eq d h0 (Int.le_trans hxy h1), nx_eq e (Int.le_trans h0 hxy) h1]
  have hc := clampq_in d
  have hm := clampq_mono hde
  have h2 : x * clampq d ≤ y * clampq e := Int.le_trans (Int.mul_le_mul_of_nonneg_right hxy (by omega)) (Int.mul_le_mul_of_nonneg_left hm (by omega))
  have h3 : x * clampq d / 1209600 ≤ y * clampq e / 1209600 := Int.ediv_le_ediv (by decide) h2
  omega
theorem nx_clamp (x d : Int) : nx x (clampq d) = nx x d := by
  unfold nx
  rw [clampq_idem]
theorem tr_pow {v : Int} {k : Nat} (h : 0 < v) (hk : (2 : Int) ^ k ≤ v) : (2 : Int) ^ k ≤ tr v := by
  by_cases hj : jq v = 0
  · rw [tr_low hj]; exact hk
  · have hj' := Nat.pos_of_ne_zero hj
    rcases Nat.lt_or_ge k (8 * jq v + 15) with q | q
    · exact Int.le_trans (pow_mono2 (by omega)) (tr_ge h hj')
    · unfold tr
      have hp := pow_pos2 (8 * jq v)
      have e : (2 : Int) ^ k = 2 ^ (k - 8 * jq v) * 2 ^ (8 * jq v) := by rw [← Int.pow_add]; congr 1; omega
      rw [e] at hk ⊢
      exact Int.mul_le_mul_of_nonneg_right (Int.le_ediv_of_mul_le hp hk) (Int.le_of_lt hp)
/-- one step, from compact form to compact form -/
def stp (v d : Int) : Int := nx (tr v) d
theorem tr_lim {v : Int} (h : 0 < v) (h1 : v ≤ 65535 * 256 ^ 26) : tr v ≤ 65535 * 256 ^ 26 := Int.le_trans (tr_le (Int.le_of_lt h)) h1
theorem stp_le {v : Int} (d : Int) (h : 0 < v) (h1 : v ≤ 65535 * 256 ^ 26) : stp v d ≤ 65535 * 256 ^ 26 := nx_le d (tr_nonneg (Int.le_of_lt h)) (tr_lim h h1)
theorem stp_low {v : Int} (d : Int) (k : Nat) (h : (2 : Int) ^ (k + 2) ≤ v) (h1 : v ≤ 65535 * 256 ^ 26) : (2 : Int) ^ k ≤ stp v d :=
  have hv : 0 < v := Int.lt_of_lt_of_le (pow_pos2 _) h
  nx_low d k (tr_pow hv h) (tr_lim hv h1)
theorem stp_mono {v y d e : Int} (h : 0 < v) (hvy : v ≤ y) (h1 : y ≤ 65535 * 256 ^ 26) (hde : d ≤ e) : stp v d ≤ stp y e :=
  nx_mono (tr_nonneg (Int.le_of_lt h)) (tr_mono h hvy) (tr_lim (Int.lt_of_lt_of_le h hvy) h1) hde
theorem lt240 {v : Int} (h1 : v ≤ 65535 * 256 ^ 26) : v < 2 ^ 240 := Int.lt_of_le_of_lt h1 (by decide)
theorem lt256 {v : Int} (h1 : v ≤ 65535 * 256 ^ 26) : v < 256 ^ 32 := Int.lt_of_le_of_lt h1 (by decide)
/-- a block's work -/
def wk (v : Int) : Int := (2 ^ 256 : Int) / (tr v + 1)
theorem wk_anti {v y : Int} (h : 0 < v) (hvy : v ≤ y) : wk y ≤ wk v := by
  have h1 := tr_mono h hvy
  have h2 := tr_pos h
  unfold wk
  refine Int.le_ediv_of_mul_le (by omega) ?_
  refine Int.le_trans (Int.mul_le_mul_of_nonneg_left (show tr v + 1 ≤ tr y + 1 by omega) ?_) (Int.ediv_mul_le _ (by omega))
  exact Int.ediv_nonneg (by decide) (by omega)
theorem wk_lo {v : Int} (h : 0 < v) : wk v * (tr v + 1) ≤ 2 ^ 256 := by
  have := tr_pos h
  exact Int.ediv_mul_le _ (by omega)
theorem wk_hi {v : Int} (h : 0 < v) : (2 ^ 256 : Int) < (wk v + 1) * (tr v + 1) := by
  have := tr_pos h
  exact Int.lt_ediv_add_one_mul_self _ (by omega)
theorem wk_nonneg {v : Int} (h : 0 < v) : 0 ≤ wk v := by
  have := tr_pos h
  exact Int.ediv_nonneg (by decide) (by omega)
theorem wk_small {v : Int} (h : 0 < v) : wk v ≤ 2 ^ 256 := by
  have h1 := tr_pos h
  have h2 := wk_lo h
  have h3 := wk_nonneg h
  have h4 : wk v * 1 ≤ wk v * (tr v + 1) := Int.mul_le_mul_of_nonneg_left (by omega) h3
  omega
theorem log2_small {x : Int} (h0 : 0 ≤ x) (h1 : x < 2 ^ 300) : x.natAbs.log2 < 9000 := by
  by_cases hz : x.natAbs = 0
  · rw [hz]; decide
  · have e : ((2 ^ 300 : Nat) : Int) = 2 ^ 300 := by rw [Int.natCast_pow]; rfl
    have h2 : x.natAbs < 2 ^ 300 := by rw [← e] at h1; omega
    have := (Nat.log2_lt hz).mpr h2
    omega
theorem wk_eq (v : Int) (h : 0 < v) : Int.fdiv (2 ^ Int.toNat 256) (tr v + 1) = wk v := by
  have := tr_pos h
  unfold wk
  rw [Int.fdiv_eq_ediv_of_nonneg _ (by omega)]
  rfl
theorem tr300 {v : Int} (h : 0 < v) (h1 : v ≤ 65535 * 256 ^ 26) : tr v + 1 < 2 ^ 300 := by
  have h2 := tr_lim h h1
  have e : (65535 * 256 ^ 26 + 1 : Int) < 2 ^ 300 := by decide
  omega
end Mine
namespace Mine
local macro_rules | `(tactic| walk_at "MINE pad") => `(tactic| fail)
local macro_rules | `(tactic| walk_at "MINE pad") => `(tactic| fail)
theorem top_off_P7 : True := by
  w_top off
  exact True.intro
local macro_rules | `(tactic| k_room) => `(tactic| ktr_room)
local macro_rules | `(tactic| walk_at "MINE enter") => `(tactic| (refine wpAny_call ?_; k_dflt (refine' code_n ?k3 ?k5 ?k6 ?k7 ?k8 ?k9 ?kB ?_ ?c2 ?c3 ?c4 ?c5; (case k3 => k_asm); (case k5 => k_asm); (case k6 => k_is); (case k7 => k_is); (case k8 => ktr_room); (case k9 => first | exact BindsTo.of_eq rfl | exact binds_K (by k_in) rfl (by k_is) rfl rfl rfl | (refine' kp_binds ?kx ?ke; (case kx => k_in); (case ke => exact fun _ => rfl))); (case c5 => decide); (case kB => exact locs rfl); (case c2 => exact rfl); (case c3 => exact rfl); (case c4 => exact rfl); k_whole; intro L' h' F' N'; (try dsimp only); (try k_fold))))
local macro_rules | `(tactic| walk_at "LeaveN") => `(tactic| (k_dflt (refine' leaveN_ ?k1 ?k2 ?_; (case k1 => k_asm); (case k2 => k_asm); k_whole); intro kK kN; (try dsimp only)))
local macro_rules | `(tactic| walk_at "callWith ref") => `(tactic| (k_here; (with_reducible show wpAny _ _ (callWith _ (Value.ref _) [] (backTo _ (starEach (_ :: _) _)) (backToKw _ (keywordEach (_ :: _) _))) _ _ _); kfb_any; k_dflt (refine' callWith_fbKw ?k1 ?_; (case k1 => exact rfl); k_whole)))
local macro_rules | `(tactic| walk_at "callWith") => `(tactic| (k_here; (with_reducible show wpAny _ _ (callWith _ (Value.builtin _) [_] (backTo _ (starEach (_ :: _) _)) (backToKw _ (keywordEach (_ :: _) _))) _ _ _); k_dflt (refine callWith_bKw ?_; k_whole)))
local macro_rules | `(tactic| walk_at "call ref") => `(tactic| (k_here; (with_reducible show wpAny _ _ (call (Value.ref _) (Value.bytes _ _ :: _) _) _ _ _); kfb_any; k_dflt (first
  | (refine fb_call2 (by k_asm) (by k_mem) (picked_tail (by assumption)) (by kfb_size) ?_)
  | (refine fb_call0 (by k_asm) (by k_mem) (by kba_ints2) (by kfb_size) ?_)
  | (refine fb_call1 (by k_asm) (by k_mem) (by kba_ints2) (by kfb_size) ?_)
  | (refine fb_call2 (by k_asm) (by k_mem) (by kba_ints2) (by kfb_size) ?_)); intro _ _))
local macro_rules | `(tactic| walk_at "subscriptTail") => `(tactic| (k_here; (with_reducible show wpAny _ _ (subscriptTail _ _ (Value.bytes _ _) (Value.int _ _)) _ _ _); (with_unfolding_all refine' bytes_item0 ?k1 ?k2 ?_; (case k1 => assumption); (case k2 => exact Nat.le_of_ble_eq_true rfl); k_whole); intro _ _ _ _))
local macro_rules | `(tactic| walk_at "binaryOp LShift int int") => `(tactic| (k_here; (with_reducible show wpAny _ _ (binaryOp _ (Value.int (Builtin.bitAnd _ _) _) _) _ _ _); k_dflt (refine' lshift_int_small ?k1 ?k2 ?k3 ?_; (case k1 => omega); (case k2 => omega); (case k3 => exact mask_small _); k_whole)))
local macro_rules | `(tactic| walk_at "call type:bytes") => `(tactic| (k_here; (with_reducible show wpAny _ _ (call (Value.type "bytes") [Value.bytes _ _]) _ _ _); (refine bytes_of_bytes ?_)))
local macro_rules | `(tactic| walk_at "call builtin:int.to_bytes") => `(tactic| (k_here; k_dflt (first
  | (refine' tb_32 ?h0 ?h1 ?_; (case h0 => first | assumption | omega); (case h1 => first | assumption | omega); k_whole)
  | (refine' tb_32s ?h0 ?h1 ?_; (case h0 => first | assumption | omega); (case h1 => first | assumption | omega); k_whole)
  | (refine' tb_3s ?h0 ?h1 ?_; (case h0 => first | assumption | omega); (case h1 => first | assumption | omega); k_whole; intro _)); intro _ _))
local macro_rules | `(tactic| walk_at "binaryOp Add bytes bytes") => `(tactic| (k_here; k_dflt (refine' bytes_cons_add ?h0 ?h1 ?hb ?hl ?_; (case h0 => omega); (case h1 => omega); (case hb => assumption); (case hl => exact little3_len); k_whole); intro _ _))
theorem ct_tfbl (w : World) (tb : Tok) : CtN w 8 (fun _ => True) 94 [.bytes #[29, 0, 255, 255] tb] [] (fun t => .bytes (be32 (65535 * 256 ^ 26)) t) := by
  have h := ct_tfbv w (65535 * 256 ^ 26) tb (by decide) (by decide)
  have e : tr (65535 * 256 ^ 26) = 65535 * 256 ^ 26 := by decide +kernel
  rw [e, ← limit_bits] at h
  exact h
local macro_rules | `(tactic| walk_at "call ref") => `(tactic| (k_here; k_dflt (show wpAny _ _ (call (Value.ref 94) [Value.bytes _ _]) _ _ _); k_dflt (refine' ctn_use (ct_tfbl _ _) ?k2 ?k3 ?k4 ?k5 ?hp ?hh ?kd ?ku ?_; (case hp => exact True.intro); (case k2 => k_asm); (case k3 => k_asm); (case k4 => k_asm); (case k5 => k_asm); (case hh => exact rfl); (case kd => ktr_room); (case ku => ktr_units); intro t9 h9 tk9 F9 N9; (try dsimp only); (try k_fold))))
local macro_rules | `(tactic| walk_at "call ref") => `(tactic| (k_here; k_dflt (show wpAny _ _ (call (Value.ref 94) [Value.bytes (cb _) _]) _ _ _); k_dflt (refine' ctn_use (ct_tfbv _ _ _ ?h0 ?h1) ?k2 ?k3 ?k4 ?k5 ?hp ?hh ?kd ?ku ?_; (case h0 => first | assumption | omega); (case h1 => first | assumption | omega); (case hp => exact True.intro); (case k2 => k_asm); (case k3 => k_asm); (case k4 => k_asm); (case k5 => k_asm); (case hh => exact rfl); (case kd => ktr_room); (case ku => ktr_units); intro t9 h9 tk9 F9 N9; (try dsimp only); (try k_fold))))
local macro_rules | `(tactic| walk_at "call ref") => `(tactic| (k_here; k_dflt (show wpAny _ _ (call (Value.ref 101) [Value.bytes (be32 _) _]) _ _ _); k_dflt (refine' ctn_use (ct_bftv _ _ _ ?h0 ?h1) ?k2 ?k3 ?k4 ?k5 ?hp ?hh ?kd ?ku ?_; (case h0 => first | assumption | omega); (case h1 => first | assumption | omega); (case hp => exact True.intro); (case k2 => k_asm); (case k3 => k_asm); (case k4 => k_asm); (case k5 => k_asm); (case hh => exact rfl); (case kd => ktr_room); (case ku => ktr_units); intro t9 h9 tk9 F9 N9; (try dsimp only); (try k_fold))))
local macro_rules | `(tactic| walk_at "call ref") => `(tactic| (k_here; k_dflt (show wpAny _ _ (call (Value.ref _) (Value.bytes (be32 _) _ :: _) _) _ _ _); kfb_any; k_dflt (first
  | (refine' fb_be0 ?kn ?km ?h0 ?h1 ?_; (case kn => k_asm); (case km => k_mem); (case h0 => first | assumption | omega); (case h1 => first | assumption | omega))
  | (refine' fb_be1 ?kn ?km ?h0 ?h1 ?_; (case kn => k_asm); (case km => k_mem); (case h0 => first | assumption | omega); (case h1 => first | assumption | omega))); intro _ _))
set_option maxHeartbeats 8000000 in
theorem ct_next (w : World) (v x y : Int) (t0 t1 t2 : Tok) (h : 0 < v) (h1 : v ≤ 65535 * 256 ^ 26) (h4 : 2 ^ 2 ≤ v) : CtN w 12 (fun _ => True) 109 [.bytes (cb v) t0, .int x t1, .int y t2] [] (fun t => .bytes (cb (stp v (y - x))) t) := by
  unfold CtN
  k_fill
  intro p loose mean mg mb dp un fr gd s Q E X T hp hd hu hret
  walk_at "MINE enter"
  have h240 := lt240 h1
  have ht0 := tr_nonneg (Int.le_of_lt h)
  have ht1 := tr_lt h h240
  have hL0 : (0 : Int) ≤ 65535 * 256 ^ 26 := by decide
  have hL1 : (65535 * 256 ^ 26 : Int) < 256 ^ 32 := by decide
  have hX0 : 0 < stp v (y - x) := stp_low (y - x) 0 h4 h1
  have hX1 := Int.le_of_lt hX0
  have hX2 := stp_le (y - x) h h1
  have hX3 := lt240 hX2
  have hX4 := lt256 hX2
  unfold stp nx clampq at hX0 hX1 hX3 hX4
  clear hX2
  k_steps
  exact hret _ _ _ (by assumption)
end Mine
namespace Mine
theorem top_off_P8 : True := by
  w_top off
  exact True.intro
local macro_rules | `(tactic| k_room) => `(tactic| ktr_room)
local macro_rules | `(tactic| walk_at "MINE enter") => `(tactic| (refine wpAny_call ?_; k_dflt (refine' code_n ?k3 ?k5 ?k6 ?k7 ?k8 ?k9 ?kB ?_ ?c2 ?c3 ?c4 ?c5; (case k3 => k_asm); (case k5 => k_asm); (case k6 => k_is); (case k7 => k_is); (case k8 => ktr_room); (case k9 => first | exact BindsTo.of_eq rfl | exact binds_K (by k_in) rfl (by k_is) rfl rfl rfl | (refine' kp_binds ?kx ?ke; (case kx => k_in); (case ke => exact fun _ => rfl))); (case c5 => decide); (case kB => exact locs rfl); (case c2 => exact rfl); (case c3 => exact rfl); (case c4 => exact rfl); k_whole; intro L' h' F' N'; (try dsimp only); (try k_fold))))
local macro_rules | `(tactic| walk_at "LeaveN") => `(tactic| (k_dflt (refine' leaveN_ ?k1 ?k2 ?_; (case k1 => k_asm); (case k2 => k_asm); k_whole); intro kK kN; (try dsimp only)))
local macro_rules | `(tactic| walk_at "callWith ref") => `(tactic| (k_here; (with_reducible show wpAny _ _ (callWith _ (Value.ref _) [] (backTo _ (starEach (_ :: _) _)) (backToKw _ (keywordEach (_ :: _) _))) _ _ _); kfb_any; k_dflt (refine' callWith_fbKw ?k1 ?_; (case k1 => exact rfl); k_whole)))
local macro_rules | `(tactic| walk_at "callWith") => `(tactic| (k_here; (with_reducible show wpAny _ _ (callWith _ (Value.builtin _) [_] (backTo _ (starEach (_ :: _) _)) (backToKw _ (keywordEach (_ :: _) _))) _ _ _); k_dflt (refine callWith_bKw ?_; k_whole)))
local macro_rules | `(tactic| walk_at "call ref") => `(tactic| (k_here; (with_reducible show wpAny _ _ (call (Value.ref _) (Value.bytes _ _ :: _) _) _ _ _); kfb_any; k_dflt (first
  | (refine fb_call2 (by k_asm) (by k_mem) (picked_tail (by assumption)) (by kfb_size) ?_)
  | (refine fb_call0 (by k_asm) (by k_mem) (by kba_ints2) (by kfb_size) ?_)
  | (refine fb_call1 (by k_asm) (by k_mem) (by kba_ints2) (by kfb_size) ?_)
  | (refine fb_call2 (by k_asm) (by k_mem) (by kba_ints2) (by kfb_size) ?_)); intro _ _))
local macro_rules | `(tactic| walk_at "subscriptTail") => `(tactic| (k_here; (with_reducible show wpAny _ _ (subscriptTail _ _ (Value.bytes _ _) (Value.int _ _)) _ _ _); (with_unfolding_all refine' bytes_item0 ?k1 ?k2 ?_; (case k1 => assumption); (case k2 => exact Nat.le_of_ble_eq_true rfl); k_whole); intro _ _ _ _))
local macro_rules | `(tactic| walk_at "binaryOp LShift int int") => `(tactic| (k_here; (with_reducible show wpAny _ _ (binaryOp _ (Value.int (Builtin.bitAnd _ _) _) _) _ _ _); k_dflt (refine' lshift_int_small ?k1 ?k2 ?k3 ?_; (case k1 => omega); (case k2 => omega); (case k3 => exact mask_small _); k_whole)))
local macro_rules | `(tactic| walk_at "call type:bytes") => `(tactic| (k_here; (with_reducible show wpAny _ _ (call (Value.type "bytes") [Value.bytes _ _]) _ _ _); (refine bytes_of_bytes ?_)))
local macro_rules | `(tactic| walk_at "call builtin:int.to_bytes") => `(tactic| (k_here; k_dflt (first
  | (refine' tb_32 ?h0 ?h1 ?_; (case h0 => first | assumption | omega); (case h1 => first | assumption | omega); k_whole)
  | (refine' tb_32s ?h0 ?h1 ?_; (case h0 => first | assumption | omega); (case h1 => first | assumption | omega); k_whole)
  | (refine' tb_3s ?h0 ?h1 ?_; (case h0 => first | assumption | omega); (case h1 => first | assumption | omega); k_whole; intro _)); intro _ _))
local macro_rules | `(tactic| walk_at "binaryOp Add bytes bytes") => `(tactic| (k_here; k_dflt (refine' bytes_cons_add ?h0 ?h1 ?hb ?hl ?_; (case h0 => omega); (case h1 => omega); (case hb => assumption); (case hl => exact little3_len); k_whole); intro _ _))
local macro_rules | `(tactic| walk_at "call ref") => `(tactic| (k_here; k_dflt (show wpAny _ _ (call (Value.ref 94) [Value.bytes (cb _) _]) _ _ _); k_dflt (refine' ctn_use (ct_tfbv _ _ _ ?h0 ?h1) ?k2 ?k3 ?k4 ?k5 ?hp ?hh ?kd ?ku ?_; (case h0 => first | assumption | omega); (case h1 => first | assumption | omega); (case hp => exact True.intro); (case k2 => k_asm); (case k3 => k_asm); (case k4 => k_asm); (case k5 => k_asm); (case hh => exact rfl); (case kd => ktr_room); (case ku => ktr_units); intro t9 h9 tk9 F9 N9; (try dsimp only); (try k_fold))))
local macro_rules | `(tactic| walk_at "call ref") => `(tactic| (k_here; k_dflt (show wpAny _ _ (call (Value.ref _) (Value.bytes (be32 _) _ :: _) _) _ _ _); kfb_any; k_dflt (first
  | (refine' fb_be0 ?kn ?km ?h0 ?h1 ?_; (case kn => k_asm); (case km => k_mem); (case h0 => first | assumption | omega); (case h1 => first | assumption | omega))
  | (refine' fb_be1 ?kn ?km ?h0 ?h1 ?_; (case kn => k_asm); (case km => k_mem); (case h0 => first | assumption | omega); (case h1 => first | assumption | omega))); intro _ _))
local macro_rules | `(tactic| walk_at "binaryOp FloorDiv int int") => `(tactic| (k_here; k_dflt (refine' floordiv_int ?hb ?_ (Or.inl (PyProof.noPylong_of_log2 (log2_small ?h0 ?h1))); (case hb => omega); (case h0 => omega); (case h1 => assumption); k_whole)))
set_option maxHeartbeats 8000000 in
theorem ct_work (w : World) (v : Int) (t0 : Tok) (h : 0 < v) (h1 : v ≤ 65535 * 256 ^ 26) : CtN w 12 (fun _ => True) 116 [.bytes (cb v) t0] [] (fun t => .int (wk v) t) := by
  unfold CtN
  k_fill
  intro p loose mean mg mb dp un fr gd s Q E X T hp hd hu hret
  walk_at "MINE enter"
  have h240 := lt240 h1
  have ht0 := tr_nonneg (Int.le_of_lt h)
  have ht1 := tr_lt h h240
  have ht2 := tr_pos h
  have ht3 := tr300 h h1
  k_steps
  all_goals (first | (exfalso; omega) | skip)
  refine ret_eq hret (ret_int (wk_eq v h)) (by assumption)
end Mine
namespace Mine
/-- the law's own statements, out of the given program -/
def lawBody : List Stmt := match PySem.Challenge.pw_fc0027_01.main.body.getLast? with
  | some (.FunctionDef _ _ b _ _ _ _ _ _ _) => b
  | _ => []
def lawScope : Scope := match PySem.Challenge.pw_fc0027_01.main.body.getLast? with
  | some (.FunctionDef _ _ _ _ _ _ sc _ _ _) => sc
  | _ => default
def stm (k : Nat) : Stmt := lawBody.getD k (.Pass default)
def fdArgs : Stmt → Arguments
  | .FunctionDef _ a _ _ _ _ _ _ _ _ => a
  | _ => default
def fdBody : Stmt → List Stmt
  | .FunctionDef _ _ b _ _ _ _ _ _ _ => b
  | _ => []
def fdScope : Stmt → Scope
  | .FunctionDef _ _ _ _ _ _ sc _ _ _ => sc
  | _ => default
/-- the law's own def on the heap, with its code object -/
def FnOn (h : Heap) (f : Addr) (name : Str) (k : Nat) (cl : List (Str × Addr)) : Prop :=
  ∃ qual dc pm c ct, h.get? f = some (fnMade name qual (fdArgs (stm k)) (fdBody (stm k)) (fdScope (stm k)) cl dc pm c ct) ∧ h.CodeRec (.ref c) qual
/-- the same on the ledger -/
def FnIn (news : List (Addr × Obj)) (f : Addr) (name : Str) (k : Nat) (cl : List (Str × Addr)) : Prop :=
  ∃ qual dc pm c ct oc vs t, (f, fnMade name qual (fdArgs (stm k)) (fdBody (stm k)) (fdScope (stm k)) cl dc pm c ct) ∈ news ∧ (c, oc) ∈ news ∧ oc.data = .fields vs ∧ vs[1]? = some (.str qual t)
theorem FnIn.on {h₀ h : Heap} {L : Addr} {news : List (Addr × Obj)} {f : Addr} {name : Str} {k : Nat} {cl : List (Str × Addr)} (hf : FnIn news f name k cl) (N : News h₀ L h news) : FnOn h f name k cl := by
  obtain ⟨qual, dc, pm, c, ct, oc, vs, t, h1, h2, h3, h4⟩ := hf
  exact ⟨qual, dc, pm, c, ct, (N _ h1).1, codeRec_news N h2 h3 h4⟩
/-- a def that builds a list of compact forms -/
abbrev CtF (w : World) (d : Nat) (pre : Heap → Prop) (f : Addr) (args : List Value) (R : List Value → Prop) : Prop :=
  ∀ (p : Program) (loose : List Str) (mean : ExcName → Option Value) (mg mb : Str → Option Value) (dp un : Nat) (fr : Option (List Env)) (gd : Option (List Code)) (s : Shared) (Q E : Value → Shared → Prop),
    (hd.heap_39 w.params).In s.heap → Top p loose mean mg mb s.heap → pre s.heap → dp + d < recursionLimit → un + 20 * d < cLine →
    (∀ (l' : Addr) (us : List Value) (n' : Nat) (h' : Heap) (tk' : Nat), (∀ b o, s.heap.get? b = some o → h'.get? b = some o) → s.heap.get? l' = none → h'.get? l' = some (listOf us.toArray n') → R us → Q (.ref l') { s with heap := h', toks := tk' }) →
    wpAny (model PySem.Challenge.rw_fc0027_01.row.prog w) { handled := none, depth := dp, frames := fr, guards := gd, units := un } (call (.ref f) args) Q E s
theorem ctf_use {w : World} {d : Nat} {pre : Heap → Prop} {f : Addr} {args : List Value} {R : List Value → Prop} (C : CtF w d pre f args R) {p : Program} {loose : List Str} {mean : ExcName → Option Value} {mg mb : Str → Option Value} {A : Around}
    {h₀ : Heap} {L : Addr} {m : Str → Option Value} {news : List (Addr × Obj)} {s : Shared} {Q E : Value → Shared → Prop}
    (F : Fr h₀ L s.heap m) (X : (hd.heap_39 w.params).In h₀) (N : News h₀ L s.heap news) (T : Top p loose mean mg mb h₀) (hp : pre s.heap) (hh : A.handled = none)
    (hd : A.depth + d < recursionLimit) (hu : A.units + 20 * d < cLine)
    (hret : ∀ (l' : Addr) (us : List Value) (n' : Nat) (h' : Heap) (tk' : Nat), Fr h₀ L h' m → News h₀ L h' ((l', listOf us.toArray n') :: news) → R us → Q (.ref l') { s with heap := h', toks := tk' }) :
    wpAny (model PySem.Challenge.rw_fc0027_01.row.prog w) A (call (.ref f) args) Q E s := by
  obtain ⟨hd', dp, fr, gd, un⟩ := A
  dsimp only at hh
  subst hh
  exact C _ _ _ _ _ _ _ _ _ _ _ _ (X.keeps F.keep) (T.keeps F.keep) hp hd hu fun l' us n' h' tk' hk hn hg hr => hret l' us n' h' tk' (F.keptAll hk) (news_add F N hk hn hg) hr
end Mine
namespace Mine
local macro_rules | `(tactic| walk_at "MINE pad") => `(tactic| fail)
local macro_rules | `(tactic| walk_at "MINE pad") => `(tactic| fail)
local macro_rules | `(tactic| walk_at "MINE pad") => `(tactic| fail)
local macro_rules | `(tactic| walk_at "MINE pad") => `(tactic| fail)
local macro_rules | `(tactic| walk_at "MINE pad") => `(tactic| fail)
theorem top_off_P9 : True := by
  w_top off
  exact True.intro
local macro_rules | `(tactic| k_room) => `(tactic| ktr_room)
local macro_rules | `(tactic| walk_at "MINE enter") => `(tactic| (refine wpAny_call ?_; k_dflt (refine' code_n ?k3 ?k5 ?k6 ?k7 ?k8 ?k9 ?kB ?_ ?c2 ?c3 ?c4 ?c5; (case k3 => k_asm); (case k5 => k_asm); (case k6 => k_is); (case k7 => k_is); (case k8 => ktr_room); (case k9 => first | exact BindsTo.of_eq rfl | exact binds_K (by k_in) rfl (by k_is) rfl rfl rfl | (refine' kp_binds ?kx ?ke; (case kx => k_in); (case ke => exact fun _ => rfl))); (case c5 => decide); (case kB => exact locs rfl); (case c2 => exact rfl); (case c3 => exact rfl); (case c4 => exact rfl); k_whole; intro L' h' F' N'; (try dsimp only); (try k_fold))))
local macro_rules | `(tactic| walk_at "LeaveN") => `(tactic| (k_dflt (refine' leaveN_ ?k1 ?k2 ?_; (case k1 => k_asm); (case k2 => k_asm); k_whole); intro kK kN; (try dsimp only)))
local macro_rules | `(tactic| walk_at "callWith ref") => `(tactic| (k_here; (with_reducible show wpAny _ _ (callWith _ (Value.ref _) [] (backTo _ (starEach (_ :: _) _)) (backToKw _ (keywordEach (_ :: _) _))) _ _ _); kfb_any; k_dflt (refine' callWith_fbKw ?k1 ?_; (case k1 => exact rfl); k_whole)))
local macro_rules | `(tactic| walk_at "callWith") => `(tactic| (k_here; (with_reducible show wpAny _ _ (callWith _ (Value.builtin _) [_] (backTo _ (starEach (_ :: _) _)) (backToKw _ (keywordEach (_ :: _) _))) _ _ _); k_dflt (refine callWith_bKw ?_; k_whole)))
local macro_rules | `(tactic| walk_at "call ref") => `(tactic| (k_here; (with_reducible show wpAny _ _ (call (Value.ref _) (Value.bytes _ _ :: _) _) _ _ _); kfb_any; k_dflt (first
  | (refine fb_call2 (by k_asm) (by k_mem) (picked_tail (by assumption)) (by kfb_size) ?_)
  | (refine fb_call0 (by k_asm) (by k_mem) (by kba_ints2) (by kfb_size) ?_)
  | (refine fb_call1 (by k_asm) (by k_mem) (by kba_ints2) (by kfb_size) ?_)
  | (refine fb_call2 (by k_asm) (by k_mem) (by kba_ints2) (by kfb_size) ?_)); intro _ _))
local macro_rules | `(tactic| walk_at "subscriptTail") => `(tactic| (k_here; (with_reducible show wpAny _ _ (subscriptTail _ _ (Value.bytes _ _) (Value.int _ _)) _ _ _); (with_unfolding_all refine' bytes_item0 ?k1 ?k2 ?_; (case k1 => assumption); (case k2 => exact Nat.le_of_ble_eq_true rfl); k_whole); intro _ _ _ _))
local macro_rules | `(tactic| walk_at "binaryOp LShift int int") => `(tactic| (k_here; (with_reducible show wpAny _ _ (binaryOp _ (Value.int (Builtin.bitAnd _ _) _) _) _ _ _); k_dflt (refine' lshift_int_small ?k1 ?k2 ?k3 ?_; (case k1 => omega); (case k2 => omega); (case k3 => exact mask_small _); k_whole)))
local macro_rules | `(tactic| walk_at "call type:bytes") => `(tactic| (k_here; (with_reducible show wpAny _ _ (call (Value.type "bytes") [Value.bytes _ _]) _ _ _); (refine bytes_of_bytes ?_)))
local macro_rules | `(tactic| walk_at "call builtin:int.to_bytes") => `(tactic| (k_here; k_dflt (first
  | (refine' tb_32 ?h0 ?h1 ?_; (case h0 => first | assumption | omega); (case h1 => first | assumption | omega); k_whole)
  | (refine' tb_32s ?h0 ?h1 ?_; (case h0 => first | assumption | omega); (case h1 => first | assumption | omega); k_whole)
  | (refine' tb_3s ?h0 ?h1 ?_; (case h0 => first | assumption | omega); (case h1 => first | assumption | omega); k_whole; intro _)); intro _ _))
local macro_rules | `(tactic| walk_at "binaryOp Add bytes bytes") => `(tactic| (k_here; k_dflt (refine' bytes_cons_add ?h0 ?h1 ?hb ?hl ?_; (case h0 => omega); (case h1 => omega); (case hb => assumption); (case hl => exact little3_len); k_whole); intro _ _))
local macro_rules | `(tactic| walk_at "call ref") => `(tactic| (k_here; k_dflt (show wpAny _ _ (call (Value.ref 94) [Value.bytes (cb _) _]) _ _ _); k_dflt (refine' ctn_use (ct_tfbv _ _ _ ?h0 ?h1) ?k2 ?k3 ?k4 ?k5 ?hp ?hh ?kd ?ku ?_; (case h0 => first | assumption | omega); (case h1 => first | assumption | omega); (case hp => exact True.intro); (case k2 => k_asm); (case k3 => k_asm); (case k4 => k_asm); (case k5 => k_asm); (case hh => exact rfl); (case kd => ktr_room); (case ku => ktr_units); intro t9 h9 tk9 F9 N9; (try dsimp only); (try k_fold))))
local macro_rules | `(tactic| walk_at "call ref") => `(tactic| (k_here; k_dflt (show wpAny _ _ (call (Value.ref _) (Value.bytes (be32 _) _ :: _) _) _ _ _); kfb_any; k_dflt (first
  | (refine' fb_be0 ?kn ?km ?h0 ?h1 ?_; (case kn => k_asm); (case km => k_mem); (case h0 => first | assumption | omega); (case h1 => first | assumption | omega))
  | (refine' fb_be1 ?kn ?km ?h0 ?h1 ?_; (case kn => k_asm); (case km => k_mem); (case h0 => first | assumption | omega); (case h1 => first | assumption | omega))); intro _ _))
set_option maxHeartbeats 4000000 in
theorem ct_size (w : World) (v : Int) (t0 : Tok) (f : Addr) (h : 0 < v) (h1 : v ≤ 65535 * 256 ^ 26) : CtN w 12 (fun hp => FnOn hp f (Str.ofString "size") 2 [] ∧ True) f [.bytes (cb v) t0] [] (fun t => .int (tr v) t) := by
  unfold CtN
  k_fill
  intro p loose mean mg mb dp un fr gd s Q E X T hp hd hu hret
  obtain ⟨⟨qual, dc, pm, c, ct, hm1, hm2⟩, hpre⟩ := hp
  have h240 := lt240 h1
  have ht0 := tr_nonneg (Int.le_of_lt h)
  have ht1 := tr_lt h h240
  refine wpAny_call ?_
  k_dflt (refine' code_nM ?k5 ?k6 ?k7 ?k8 ?k9 ?kB ?_ ?c2 ?c3 ?c4 ?c5; (case k5 => k_asm); (case k6 => exact hm1); (case k7 => exact hm2); (case k8 => ktr_room); (case k9 => exact BindsTo.of_eq rfl); (case c5 => decide +kernel); (case kB => exact locs rfl); (case c2 => exact rfl); (case c3 => exact rfl); (case c4 => exact rfl); k_whole)
  intro L' h' F' N'
  (try dsimp only)
  (try k_fold)
  k_steps
  exact hret _ _ _ (by assumption)
/-- what draw gives back -/
def dr (ns : List Int) (k : Int) : Int := (if 0 < ns.length then ns.getD (k.fmod (ns.length : Nat)).toNat 0 else 0) + 7 * k
theorem isl_keep {h h' : Heap} {l : Addr} {vs : Array Value} (hl : h.IsList l vs) (hk : ∀ b o, h.get? b = some o → h'.get? b = some o) : h'.IsList l vs := by
  obtain ⟨o, ho, r⟩ := hl
  exact ⟨o, hk _ _ ho, r⟩
set_option maxHeartbeats 4000000 in
theorem ct_lawn (w : World) (l : Addr) (vs : List Value) (ns : List Int) (k : Int) (t0 : Tok) (k0 : 0 ≤ k) (k1 : k ≤ 1000) (hlen : ns.length ≤ 63) (hi : IntsAre vs ns) : CtN w 4 (fun h => h.IsList l vs.toArray) 130 [.ref l, .int k t0] [] (fun t => .int (dr ns k) t) := by
  unfold CtN
  k_fill
  intro p loose mean mg mb dp un fr gd s Q E X T hp hd hu hret
  walk_at "MINE enter"
  k_steps
  · refine ret_eq hret (ret_int (y := dr ns k) ?_) (by assumption)
    unfold dr
    rw [if_pos (by assumption)]
  · refine ret_eq hret (ret_int (y := dr ns k) ?_) (by assumption)
    unfold dr
    rw [if_neg (by assumption)]
def ScriptAt (l : Addr) (vs : List Value) (cl : List (Str × Addr)) (h : Heap) : Prop :=
  h.IsList l vs.toArray ∧ ∃ c o, cl = [(Str.ofString "script", c)] ∧ h.get? c = some o ∧ o.data = .cell (some (.ref l))
local macro_rules | `(tactic| walk_at "eval Name") => `(tactic| (k_here; k_dflt (refine' nameX_G ?F ?c ?g ?d ?_ ?a ?b; (case a => rfl); (case b => rfl); (case F => k_asm); (case c => rfl); (case g => assumption); (case d => assumption); k_whole)))
local macro_rules | `(tactic| walk_at "call ref") => `(tactic| (k_here; k_dflt (show wpAny _ _ (call (Value.ref 130) [Value.ref _, Value.int _ _]) _ _ _); k_dflt (refine' ctn_use (ct_lawn _ _ _ _ _ _ ?k0 ?k1 ?k6 ?k7) ?k2 ?k3 ?k4 ?k5 ?hp ?hh ?kd ?ku ?_; (case k0 => first | assumption | omega); (case k1 => first | assumption | omega); (case k6 => assumption); (case k7 => assumption); (case hp => exact isl_keep (by assumption) (Fr.keep (by assumption))); (case k2 => k_asm); (case k3 => k_asm); (case k4 => k_asm); (case k5 => k_asm); (case hh => exact rfl); (case kd => ktr_room); (case ku => ktr_units); intro t9 h9 tk9 F9 N9; (try dsimp only); (try k_fold))))
set_option maxHeartbeats 4000000 in
theorem ct_draw (w : World) (f l : Addr) (cl : List (Str × Addr)) (vs : List Value) (ns : List Int) (k : Int) (t0 : Tok) (k0 : 0 ≤ k) (k1 : k ≤ 1000) (hlen : ns.length ≤ 63) (hi : IntsAre vs ns) : CtN w 12 (fun h => FnOn h f (Str.ofString "draw") 0 cl ∧ ScriptAt l vs cl h) f [.int k t0] [] (fun t => .int (dr ns k) t) := by
  unfold CtN
  k_fill
  intro p loose mean mg mb dp un fr gd s Q E X T hp hd hu hret
  obtain ⟨⟨qual, dc, pm, c, ct, hm1, hm2⟩, hpre⟩ := hp
  obtain ⟨hl, cc, co, rfl, hcc, hco⟩ := hpre
  refine wpAny_call ?_
  k_dflt (refine' code_nM ?k5 ?k6 ?k7 ?k8 ?k9 ?kB ?_ ?c2 ?c3 ?c4 ?c5; (case k5 => k_asm); (case k6 => exact hm1); (case k7 => exact hm2); (case k8 => ktr_room); (case k9 => exact BindsTo.of_eq rfl); (case c5 => decide +kernel); (case kB => exact locs rfl); (case c2 => exact rfl); (case c3 => exact rfl); (case c4 => exact rfl); k_whole)
  intro L' h' F' N'
  (try dsimp only)
  (try k_fold)
  k_steps
  exact hret _ _ _ (by assumption)
end Mine
namespace Mine
local macro_rules | `(tactic| walk_at "MINE pad") => `(tactic| fail)
local macro_rules | `(tactic| walk_at "MINE pad") => `(tactic| fail)
local macro_rules | `(tactic| walk_at "MINE pad") => `(tactic| fail)
local macro_rules | `(tactic| walk_at "MINE pad") => `(tactic| fail)
local macro_rules | `(tactic| walk_at "MINE pad") => `(tactic| fail)
local macro_rules | `(tactic| walk_at "MINE pad") => `(tactic| fail)
local macro_rules | `(tactic| walk_at "MINE pad") => `(tactic| fail)
local macro_rules | `(tactic| walk_at "MINE pad") => `(tactic| fail)
theorem top_off_P11 : True := by
  w_top off
  exact True.intro
local macro_rules | `(tactic| k_room) => `(tactic| ktr_room)
local macro_rules | `(tactic| walk_at "MINE enter") => `(tactic| (refine wpAny_call ?_; k_dflt (refine' code_n ?k3 ?k5 ?k6 ?k7 ?k8 ?k9 ?kB ?_ ?c2 ?c3 ?c4 ?c5; (case k3 => k_asm); (case k5 => k_asm); (case k6 => k_is); (case k7 => k_is); (case k8 => ktr_room); (case k9 => first | exact BindsTo.of_eq rfl | exact binds_K (by k_in) rfl (by k_is) rfl rfl rfl | (refine' kp_binds ?kx ?ke; (case kx => k_in); (case ke => exact fun _ => rfl))); (case c5 => decide); (case kB => exact locs rfl); (case c2 => exact rfl); (case c3 => exact rfl); (case c4 => exact rfl); k_whole; intro L' h' F' N'; (try dsimp only); (try k_fold))))
local macro_rules | `(tactic| walk_at "LeaveN") => `(tactic| (k_dflt (refine' leaveN_ ?k1 ?k2 ?_; (case k1 => k_asm); (case k2 => k_asm); k_whole); intro kK kN; (try dsimp only)))
local macro_rules | `(tactic| walk_at "callWith ref") => `(tactic| (k_here; (with_reducible show wpAny _ _ (callWith _ (Value.ref _) [] (backTo _ (starEach (_ :: _) _)) (backToKw _ (keywordEach (_ :: _) _))) _ _ _); kfb_any; k_dflt (refine' callWith_fbKw ?k1 ?_; (case k1 => exact rfl); k_whole)))
local macro_rules | `(tactic| walk_at "callWith") => `(tactic| (k_here; (with_reducible show wpAny _ _ (callWith _ (Value.builtin _) [_] (backTo _ (starEach (_ :: _) _)) (backToKw _ (keywordEach (_ :: _) _))) _ _ _); k_dflt (refine callWith_bKw ?_; k_whole)))
local macro_rules | `(tactic| walk_at "call ref") => `(tactic| (k_here; (with_reducible show wpAny _ _ (call (Value.ref _) (Value.bytes _ _ :: _) _) _ _ _); kfb_any; k_dflt (first
  | (refine fb_call2 (by k_asm) (by k_mem) (picked_tail (by assumption)) (by kfb_size) ?_)
  | (refine fb_call0 (by k_asm) (by k_mem) (by kba_ints2) (by kfb_size) ?_)
  | (refine fb_call1 (by k_asm) (by k_mem) (by kba_ints2) (by kfb_size) ?_)
  | (refine fb_call2 (by k_asm) (by k_mem) (by kba_ints2) (by kfb_size) ?_)); intro _ _))
local macro_rules | `(tactic| walk_at "subscriptTail") => `(tactic| (k_here; (with_reducible show wpAny _ _ (subscriptTail _ _ (Value.bytes _ _) (Value.int _ _)) _ _ _); (with_unfolding_all refine' bytes_item0 ?k1 ?k2 ?_; (case k1 => assumption); (case k2 => exact Nat.le_of_ble_eq_true rfl); k_whole); intro _ _ _ _))
local macro_rules | `(tactic| walk_at "binaryOp LShift int int") => `(tactic| (k_here; (with_reducible show wpAny _ _ (binaryOp _ (Value.int (Builtin.bitAnd _ _) _) _) _ _ _); k_dflt (refine' lshift_int_small ?k1 ?k2 ?k3 ?_; (case k1 => omega); (case k2 => omega); (case k3 => exact mask_small _); k_whole)))
local macro_rules | `(tactic| walk_at "call type:bytes") => `(tactic| (k_here; (with_reducible show wpAny _ _ (call (Value.type "bytes") [Value.bytes _ _]) _ _ _); (refine bytes_of_bytes ?_)))
local macro_rules | `(tactic| walk_at "call builtin:int.to_bytes") => `(tactic| (k_here; k_dflt (first
  | (refine' tb_32 ?h0 ?h1 ?_; (case h0 => first | assumption | omega); (case h1 => first | assumption | omega); k_whole)
  | (refine' tb_32s ?h0 ?h1 ?_; (case h0 => first | assumption | omega); (case h1 => first | assumption | omega); k_whole)
  | (refine' tb_3s ?h0 ?h1 ?_; (case h0 => first | assumption | omega); (case h1 => first | assumption | omega); k_whole; intro _)); intro _ _))
local macro_rules | `(tactic| walk_at "binaryOp Add bytes bytes") => `(tactic| (k_here; k_dflt (refine' bytes_cons_add ?h0 ?h1 ?hb ?hl ?_; (case h0 => omega); (case h1 => omega); (case hb => assumption); (case hl => exact little3_len); k_whole); intro _ _))
/-- a list of compact forms: its items, value by value -/
inductive BL : List Value → List Int → Prop where
  | nil : BL [] []
  | cons {v : Int} {t : Tok} {vs : List Value} {ks : List Int} : BL vs ks → BL (.bytes (cb v) t :: vs) (v :: ks)
theorem BL.snoc {v : Int} {t : Tok} : ∀ {vs : List Value} {ks : List Int}, BL vs ks → BL (vs ++ [.bytes (cb v) t]) (ks ++ [v])
  | _, _, .nil => .cons .nil
  | _, _, .cons h => .cons h.snoc
theorem BL.length : ∀ {vs : List Value} {ks : List Int}, BL vs ks → vs.length = ks.length
  | _, _, .nil => rfl
  | _, _, .cons h => by rw [List.length_cons, List.length_cons, h.length]
/-- the chain's targets, ahead of the compact form -/
def chain (v : Int) : List Int → List Int
  | [] => []
  | d :: r => stp v d :: chain (stp v d) r
/-- where a chain stands -/
def tip (v : Int) : List Int → Int
  | [] => v
  | d :: r => tip (stp v d) r
theorem chain_snoc (d : Int) : ∀ (r : List Int) (v : Int), chain v (r ++ [d]) = chain v r ++ [stp (tip v r) d]
  | [], _ => rfl
  | e :: r, v => by
    show stp v e :: chain (stp v e) (r ++ [d]) = _
    rw [chain_snoc d r]
    rfl
theorem tip_snoc (d : Int) : ∀ (r : List Int) (v : Int), tip v (r ++ [d]) = stp (tip v r) d
  | [], _ => rfl
  | e :: r, v => tip_snoc d r (stp v e)
theorem chain_length : ∀ (r : List Int) (v : Int), (chain v r).length = r.length
  | [], _ => rfl
  | e :: r, v => by
    show (chain (stp v e) r).length + 1 = r.length + 1
    rw [chain_length r]
/-- a chain's tip keeps its bounds -/
theorem tip_in : ∀ (r : List Int) (v : Int) (k : Nat), (2 : Int) ^ (k + 2 * r.length) ≤ v → v ≤ 65535 * 256 ^ 26 → (2 : Int) ^ k ≤ tip v r ∧ tip v r ≤ 65535 * 256 ^ 26
  | [], v, k, h, h1 => ⟨h, h1⟩
  | e :: r, v, k, h, h1 => by
    have hv : 0 < v := Int.lt_of_lt_of_le (pow_pos2 _) h
    refine tip_in r (stp v e) k (stp_low e _ ?_ h1) (stp_le e hv h1)
    rw [List.length_cons, show k + 2 * (r.length + 1) = k + 2 * r.length + 2 by omega] at h
    exact h
local macro_rules | `(tactic| walk_at "call ref") => `(tactic| (k_here; k_dflt (show wpAny _ _ (call (Value.ref 109) [Value.bytes (cb _) _, Value.int _ _, Value.int _ _]) _ _ _); k_dflt (refine' ctn_use (ct_next _ _ _ _ _ _ _ ?h0 ?h1 ?h4) ?k2 ?k3 ?k4 ?k5 ?hp ?hh ?kd ?ku ?_; (case h0 => first | assumption | omega); (case h1 => first | assumption | omega); (case h4 => first | assumption | omega); (case hp => exact True.intro); (case k2 => k_asm); (case k3 => k_asm); (case k4 => k_asm); (case k5 => k_asm); (case hh => exact rfl); (case kd => ktr_room); (case ku => ktr_units); intro t9 h9 tk9 F9 N9; (try dsimp only); (try k_fold))))
local macro_rules | `(tactic| walk_at "pyIter ref") => `(tactic| (refine Stop.mk ?_))
set_option maxHeartbeats 4000000 in
theorem ct_follow (w : World) (v : Int) (t0 : Tok) (f ls : Addr) (vs : List Value) (ns : List Int) (hi : IntsAre vs ns) (hn63 : ns.length ≤ 63) (hv : (2 : Int) ^ (2 + 2 * ns.length) ≤ v) (h1 : v ≤ 65535 * 256 ^ 26) : CtF w 16 (fun h => FnOn h f (Str.ofString "follow") 3 [] ∧ h.IsList ls vs.toArray) f [.bytes (cb v) t0, .ref ls] (fun us => BL us (chain v ns)) := by
  unfold CtF
  k_fill
  intro p loose mean mg mb dp un fr gd s Q E X T hp hd hu hret
  obtain ⟨⟨qual, dc, pm, c, ct, hm1, hm2⟩, hpre⟩ := hp
  refine wpAny_call ?_
  k_dflt (refine' code_nM ?k5 ?k6 ?k7 ?k8 ?k9 ?kB ?_ ?c2 ?c3 ?c4 ?c5; (case k5 => k_asm); (case k6 => exact hm1); (case k7 => exact hm2); (case k8 => ktr_room); (case k9 => exact BindsTo.of_eq rfl); (case c5 => decide +kernel); (case kB => exact locs rfl); (case c2 => exact rfl); (case c3 => exact rfl); (case c4 => exact rfl); k_whole)
  intro L' h' F' N'
  (try dsimp only)
  (try k_fold)
  k_steps
  refine Stop.out ?_
  rename Fr _ _ _ _ => F5
  rename News _ _ _ _ => N5
  refine iter_invN (fun i m₁ nx => ∃ (a : Addr) (us : List Value) (n' : Nat) (t : Tok) (mm : Str → Option Value), nx = [(a, listOf us.toArray n')] ∧ BL us (chain v (ns.take i)) ∧ m₁ = fun z => if z = Str.ofString "bits" then some (.bytes (cb (tip v (ns.take i))) t) else if z = Str.ofString "row" then some (.ref a) else mm z) rfl hpre (by assumption) F5 N5 ?_ ?_ ?_
  · obtain ⟨mm, hmm⟩ := two_names F5 (Str.ofString "bits") (Str.ofString "row") (by rfl) (by rfl)
    exact ⟨_, [], _, _, mm, rfl, .nil, hmm⟩
  · rintro i n t m₁ nx h tk own hn hadr hoff ⟨a, us, n', t', mm, rfl, hb, rfl⟩ F6 N6
    have hin : i < ns.length := (List.getElem?_eq_some_iff.mp hn).1
    have hlen : (ns.take i).length = i := by rw [List.length_take]; omega
    obtain ⟨ht4, ht1⟩ := tip_in (ns.take i) v 2 (Int.le_trans (pow_mono2 (by rw [hlen]; omega)) hv) h1
    have ht0 : 0 < tip v (ns.take i) := Int.lt_of_lt_of_le (pow_pos2 2) ht4
    have hd1 : 1000 + n - 1000 = n := by omega
    have htk : ns.take (i + 1) = ns.take i ++ [n] := by rw [List.take_add_one, hn]; rfl
    have hsize : us.length ≤ 1000000 := by
      rw [hb.length, chain_length, hlen]
      omega
    simp only [List.map_cons, List.map_nil, List.cons_append, List.nil_append] at hadr hoff N6
    rw [← hadr] at hoff
    have hsize2 : us.toArray.size ≤ 1000000 := by rw [List.size_toArray]; exact hsize
    k_steps
    rename Fr _ _ _ _ => F7
    rename News _ _ _ _ => N7
    rw [hd1] at F7 N7
    rw [List.push_toArray] at N7
    obtain ⟨mm2, hmm2⟩ := two_names F7 (Str.ofString "bits") (Str.ofString "row") (by rfl) (by rfl)
    refine' InvEndN.intro F7 N7 (nx := [(a, listOf (us ++ [Value.bytes (cb (stp (tip v (ns.take i)) n)) ?tk]).toArray (n' + 1))]) ⟨a, us ++ [Value.bytes (cb (stp (tip v (ns.take i)) n)) ?tk], n' + 1, ?tk, mm2, rfl, ?j1, ?j2⟩ hadr ?m1 ?m2
    case m1 =>
      intro p hp
      rw [List.mem_singleton.mp hp]
      exact .head _
    case m2 =>
      intro p hp
      exact .tail _ hp
    case j1 =>
      rw [htk, chain_snoc]
      exact hb.snoc
    case j2 =>
      rw [htk, tip_snoc]
      exact hmm2
  · rintro m₁ nx h tk ⟨a, us, n', t', mm, rfl, hb, rfl⟩ F6 N6
    rw [List.take_length] at hb
    k_steps
    have hA := N6 _ (.head _)
    exact hret _ us n' _ _ (by assumption) hA.2.2 hA.1 hb
end Mine
namespace Mine
section
variable {prog : Program} {w : World} {A : Around} {E : Value → Shared → Prop} {s : Shared}
/-- the table of chain_work's code: untouched, or with the one generator expression's code in it -/
def CwTab (pos : Pos) (ps : Array Value) : Prop := ps = #[] ∨ ∃ c', ps = #[rawInt pos.line, rawInt pos.col, c']
theorem genexprCode_K {env : Env} {c P : Addr} {ps : Array Value} {pos : Pos} {qualname : PySem.Str} {scope : Scope} {Q : Value → Shared → Prop} (hc : env.code = .ref c) (C : CodeHd s.heap c P) (hP : s.heap.get? P = some (tabObj ps)) (hps : CwTab pos ps)
    (h : ∀ code h' tk ps', Heap.ExtBut P s.heap h' → s.heap.objs.size ≤ h'.objs.size → h'.get? P = some (tabObj ps') → CwTab pos ps' → Q code { s with heap := h', toks := tk }) :
    wpAny (model prog w) A (genexprCode env pos qualname scope) Q E s := by
  rcases hps with rfl | ⟨c', rfl⟩
  · refine wpAny_genexprCodeX hc (C.code hP trivial) (C.tab hP) rfl fun c' h' tk hx hge hlt _ _ htab _ => ?_
    exact h _ h' tk _ hx (Nat.le_trans hge (Nat.le_of_lt hlt)) htab.2 (.inr ⟨_, rfl⟩)
  · obtain ⟨o, vs, file, tf, flags, tg, inF, text, tt, e1, _, e3, _, f3, f4, f5, f6, f7, f11⟩ := C
    unfold genexprCode codeAt
    rw [hc, if_neg (show ¬ ((Value.ref c == Value.none) = true) from Bool.false_ne_true)]
    refine wpAny_bind (wpAny_fieldsOf e1 e3 ?_)
    rw [f3]
    refine wpAny_bind (wpAny_fieldsOf hP rfl ?_)
    have hca : codeAmong pos [rawInt pos.line, rawInt pos.col, c'] = some c' := by simp [codeAmong, rawInt]
    rw [show (#[rawInt pos.line, rawInt pos.col, c'] : Array Value).toList = [rawInt pos.line, rawInt pos.col, c'] from rfl, hca]
    exact wpAny_pure (h _ s.heap s.toks _ (fun _ _ _ e => e) (Nat.le_refl _) hP (.inr ⟨_, rfl⟩))
theorem keeps_refl (s : Shared) : Keeps s s := ⟨s.heap, s.toks, rfl, fun _ _ e => e⟩
theorem gen_blocks {env : Env} {elt iter : Expr} {x : PySem.Str} {px : Pos} {scope : Scope} {cl : List (PySem.Str × Addr)} {pos : Pos} {Q : Value → Shared → Prop} {gh : Heap} {L P c l bm : Addr} {ob : Obj} {ps items : Array Value} {m mg : PySem.Str → Option Value}
    (hh : A.handled = none) (hco : scope.isCoroutine = false) (hclos : closureFor scope env = pure cl) (hcell : ∀ y ∈ scope.names, y.2 ≠ .cell) (h0 : scope.names.lookup (".0" : PySem.Str) = some NameKind.local)
    (hx : scope.names.lookup x = some .local) (hkind : scope.kind = .function) (hroom : A.depth < recursionLimit)
    (hcode : env.code = .ref c) (C : CodeHd gh c P) (hgP : gh.get? P = none) (M : BMod gh env.globals mg bm ob) (hlim : gh.NoLimit)
    (F : Fr gh L s.heap m) (hP : s.heap.get? P = some (tabObj ps)) (hps : CwTab pos ps) (hl : s.heap.IsList l items) (G : AllBare s.gens)
    (hiter : ∀ Q' : Value → Shared → Prop, Q' (.ref l) s → wpAny (model prog w) A (eval iter env) Q' E s) (val : Nat → Int)
    (helt : ∀ (code : Value) (CL : Addr) (A' : Around) E' i v (s₂ : Shared) m₂, A'.handled = none → A'.depth ≤ A.depth + 1 → A'.units ≤ A.units + 8 → items[i]? = some v → (∀ b o, gh.get? b = some o → s₂.heap.get? b = some o) → gh.objs.size ≤ CL → s₂.heap.Ns CL m₂ → m₂ x = some v →
      wpAny (model prog w) A' (eval elt (genEnv scope cl CL code builtinsNs env)) (fun y s₃ => NumOf (val i) y ∧ Keeps s₂ s₃) E' s₂)
    (hQ : ∀ a s₅ ps', Gen prog w A (s.heap.objs.size - 1) a (passing (fun _ => true) items.size 0).length (fun j y => ∃ i, (passing (fun _ => true) items.size 0)[j]? = some i ∧ NumOf (val i) y) s₅ → Fr gh L s₅.heap m → AllBare s₅.gens → s₅.os = s.os → (∀ b o, b ≠ P → s.heap.get? b = some o → s₅.heap.get? b = some o) →
      s₅.heap.get? P = some (tabObj ps') → CwTab pos ps' → Q (.ref a) s₅)
    (hs : ∀ x, genFold iter env x = pure x) :
    wpAny (model prog w) A (eval (.GeneratorExp elt [⟨.Name x px, iter, [], 0⟩] scope pos) env) Q E s := by
  have hclt0 : cStatics < s.heap.objs.size := let ⟨_, hn, _⟩ := (hlim.keeps F.keep); hn.lt
  have hlt : l < s.heap.objs.size := by obtain ⟨_, e, _⟩ := hl; exact Heap.lt_size e
  have hPlt : P < s.heap.objs.size := Heap.lt_size hP
  have hlP : l ≠ P := fun e => by
    obtain ⟨o, ho, hc, _⟩ := hl
    rw [e, hP] at ho; cases ho; exact absurd hc (by simp)
  have hghP : ∀ b o, gh.get? b = some o → b ≠ P := fun b o e q => by rw [q, hgP] at e; cases e
  have hghlt : ∀ b o, gh.get? b = some o → b < s.heap.objs.size := fun b o e => Heap.lt_size (F.keep b o e)
  have hghsz : gh.objs.size ≤ s.heap.objs.size := Nat.le_trans F.above (let ⟨_, _, _, e, _⟩ := F.ns; Nat.le_of_lt (Heap.lt_size e))
  refine wpAny_GeneratorExp_walksQD hh hco hclos hcell h0 hx hkind hroom (hiter _ (wpAny_pyIter_list hl ?_)) hs
  refine ⟨(hlim.keeps F.keep).push _, ?_⟩
  refine genexprCode_K (ps := ps) hcode ((C.keeps F.keep).keeps fun b o e => Heap.get?_push_of_some _ e) (Heap.get?_push_of_some _ hP) hps fun code h₃ tk₃ ps₃ hx₃ hsz₃ hP₃ hps₃ => ?_
  have hk₃ : ∀ b o, b ≠ P → s.heap.get? b = some o → h₃.get? b = some o := fun b o hb e => hx₃ b o hb (Heap.get?_push_of_some _ e)
  have hg₃ : ∀ b o, gh.get? b = some o → h₃.get? b = some o := fun b o e => hk₃ b o (hghP b o e) (F.keep b o e)
  have hsz₃' : s.heap.objs.size < h₃.objs.size := by
    have := hsz₃
    rw [show (({ s with heap := s.heap.push { cls := .type "list_iterator", data := .fields #[.ref l, .int 0 0] } } : Shared).heap.objs.size) = s.heap.objs.size + 1 from Heap.size_push _ _] at this
    exact this
  have M₃ := M.keeps hg₃
  refine wpAny_builtinsFor M₃.ns M₃.name M₃.ne M₃.obj M₃.cls M₃.dict M₃.data ?_
  have hst : h₃.IsListIter s.heap.objs.size l 0 ∧ h₃.IsList l items := by
    have h1 : (s.heap.push { cls := .type "list_iterator", data := .fields #[.ref l, .int 0 0] }).IsListIter s.heap.objs.size l 0 ∧ (s.heap.push { cls := .type "list_iterator", data := .fields #[.ref l, .int 0 0] }).IsList l items :=
      ⟨⟨_, Heap.get?_push_size _ rfl, rfl, rfl⟩, hl.push _⟩
    exact ⟨h1.1.at fun o e => hx₃ _ _ (Nat.ne_of_gt hPlt) e, h1.2.at fun o e => hx₃ _ _ hlP e⟩
  refine ⟨s.heap.objs.size, [s.heap.objs.size, l], [s.heap.objs.size], items.size, _, _, fun _ => true, fun i y => NumOf (val i) y, rfl, (fun A' hA => Walks.list hA _ _ (Nat.ne_of_lt hlt) items), hst, ?_, hlim.keeps hg₃, ?_, ?_, ?_⟩
  · intro b hb
    rcases List.mem_cons.mp hb with rfl | hb
    · exact hsz₃'
    · rcases List.mem_cons.mp hb with rfl | hb
      · exact Nat.lt_trans hlt hsz₃'
      · cases hb
  · intro hb
    rcases List.mem_cons.mp hb with e | hb
    · exact absurd (e ▸ hclt0) (Nat.lt_irrefl _)
    · cases hb
  · intro href hhref
    refine ⟨fun A' E' i v s₂ m₂ _ _ _ _ _ _ _ => wpAny_pure ⟨rfl, keeps_refl _⟩, fun A' E' i v s₂ m₂ hA hd hu hv _ hn hm hkp => ?_⟩
    refine helt code h₃.objs.size A' E' i v s₂ m₂ hA hd hu hv (fun b o e => ?_) (Nat.le_trans hghsz (Nat.le_of_lt hsz₃')) hn hm
    refine hkp b (List.mem_range.mpr (Nat.lt_trans (hghlt b o e) hsz₃')) (fun q => ?_) o (hhref b o (hg₃ b o e))
    rcases List.mem_cons.mp q with q | q
    · exact Nat.lt_irrefl _ (q ▸ hghlt b o e)
    · cases q
  · intro a h₅ tk gs hgb hag hsz₅ hk₅ W hat
    have hLP : L ≠ P := fun e => by
      obtain ⟨o, es, ep, ho, hd, _⟩ := F.ns
      rw [e, hP] at ho; cases ho; cases hd
    have hk₅' : ∀ b o, b ≠ P → s.heap.get? b = some o → h₅.get? b = some o := fun b o hb e => hk₅ b o (hk₃ b o hb e)
    refine hQ a _ ps₃ ⟨_, _, _, _, W, hat, (fun i s' st => st.1.typeIs), List.mem_cons_self, ?_, ?_⟩ ⟨F.ns.at fun o e => hk₅' _ _ hLP e, fun b o e => hk₅' b o (hghP b o e) (F.keep b o e), F.above⟩ (G.push hgb) rfl hk₅' (hk₅ _ _ hP₃) hps₃
    · intro b hb
      show b < h₅.objs.size
      rw [hsz₅]
      rcases List.mem_cons.mp hb with rfl | hb
      · exact Nat.lt_succ_self _
      · rcases List.mem_cons.mp hb with rfl | hb
        · exact Nat.lt_succ_of_lt hag
        · exact Nat.lt_succ_of_lt (Nat.lt_trans (List.mem_range.mp hb) hag)
    · intro b hb
      rcases List.mem_cons.mp hb with rfl | hb
      · exact Nat.lt_of_le_of_lt (Nat.sub_le _ _) hsz₃'
      · rcases List.mem_cons.mp hb with rfl | hb
        · exact Nat.sub_lt (Nat.lt_of_le_of_lt (Nat.zero_le _) hPlt) Nat.one_pos
        · cases hb
theorem passing_all (n : Nat) : passing (fun _ => true) n 0 = List.range n := by
  unfold passing
  rw [List.drop_zero]
  exact List.filter_eq_self.mpr fun _ _ => rfl
/-- the sum of such a generator -/
theorem sum_blocks {gh : Heap} {L a K : Addr} {m : PySem.Str → Option Value} {vals : List Int} {Q : Value → Shared → Prop} (F : Fr gh L s.heap m) (G : AllBare s.gens) (hLK : L ≤ K)
    (X : Gen prog w A K a (passing (fun _ => true) vals.length 0).length (fun j y => ∃ i, (passing (fun _ => true) vals.length 0)[j]? = some i ∧ NumOf (vals.getD i 0) y) s)
    (hQ : ∀ s' t', Fr gh L s'.heap m → AllBare s'.gens → s'.os = s.os → (∀ b o, b ≤ K → s.heap.get? b = some o → s'.heap.get? b = some o) → Q (.int vals.sum t') s') : wpAny (model prog w) A (call (.builtin "sum") [.ref a]) Q E s := by
  refine sum_rowsKB F G X hLK (fun j => vals.getD j 0) (fun j v hv => ?_) fun s' t' F' G' hos hk => ?_
  · obtain ⟨i, hi, hn⟩ := hv
    rw [passing_all] at hi
    obtain ⟨h1, h2⟩ := List.getElem?_eq_some_iff.mp hi
    rw [List.getElem_range] at h2
    rw [h2]
    exact hn
  · have e := preSum_getD vals vals.length
    rw [List.take_length] at e
    rw [passing_all, List.length_range, e]
    exact hQ s' t' F' G' hos hk
theorem code_c {K : Frag} {mg mb : PySem.Str → Option Value} {p : Program} {loose : List PySem.Str} {mean : ExcName → Option Value} {R : Result → Shared → Prop} {name qual : PySem.Str} {params : Arguments} {body : List Stmt} {scope : Scope} {dV kV doc pm cdv ct oc : Value} {an od : Option Addr} {osl : Array (Option Value)} {f : Addr} {args : Args} {binds : List (PySem.Str × Value)}
    (X : K.In s.heap) (T : Top p loose mean mg mb s.heap)
    (ho : K.lookup f = some ⟨oc, od, .func (fnOf name qual params body scope dV kV doc pm an cdv ct), osl⟩) (hcd : codeIn K cdv qual = true) (hroom : A.depth < recursionLimit)
    (hbind : BindsTo s (fnOf name qual params body scope dV kV doc pm an cdv ct) args binds) (hloc : ∀ y ∈ binds, scope.names.lookup y.1 = some .local)
    (h : ∀ L' h₁, Fr s.heap L' h₁ (fun y => binds.reverse.lookup y) → News s.heap L' h₁ [] →
      wpAny (model prog w) (A.deeper (envOf qual scope L' f cdv)) (execs body (envOf qual scope L' f cdv))
        (fun fl s' => R (.ok (.ret (match fl with | .ret v => v | _ => .none))) s')
        (fun e s' => wpAny (model prog w) (A.deeper (envOf qual scope L' f cdv)) (leaving (envOf qual scope L' f cdv) e) (fun _ s'' => R (.error e) s'') (fun e' s'' => R (.error e') s'') s')
        { s with heap := h₁, toks := s.toks + binds.length })
    (hco : scope.isCoroutine = false) (hgen : scope.isGenerator = false) (hk : scope.kind = .function)
    (hcell : ∀ x ∈ scope.names, x.2 ≠ .cell) : codeAny (model prog w) A (.call (.ref f) args) R s := by
  refine codeAny_call_def (fd := fnOf name qual params body scope dV kV doc pm an cdv ct) (body := body) (binds := binds) hroom (X _ _ ho) rfl T.nolimit (codeRec_of X hcd) rfl hbind hcell hloc (fun h₁ hns hk₁ => ?_) hco hgen hk
  exact h s.heap.objs.size h₁ ⟨hns, hk₁, Nat.le_refl _⟩ News.nil
/-- a heap, one address out of sight -/
abbrev ghost (h : Heap) (P : Addr) : Heap := hideAll h [P]
theorem ghost_keep {g h : Heap} {P : Addr} (hg : g.get? P = none) (k : ∀ b o, g.get? b = some o → h.get? b = some o) : ∀ b o, g.get? b = some o → (ghost h P).get? b = some o := fun b o e =>
  hideAll_get _ (k b o e) fun q => by rw [List.mem_singleton.mp q, hg] at e; cases e
theorem ghost_frame {h h' : Heap} {P L : Addr} {m : PySem.Str → Option Value} (F : Fr h L h' m) : Fr (ghost h P) L h' m := ⟨F.ns, fun b o e => F.keep b o (of_hideAll _ e), Nat.le_trans (Nat.le_of_eq (hideAll_size _ _)) F.above⟩
theorem ghost_isl {h : Heap} {P l : Addr} {vs ps : Array Value} (hP : h.get? P = some (tabObj ps)) (hl : h.IsList l vs) : (ghost h P).IsList l vs := by
  obtain ⟨o, ho, hc, r⟩ := hl
  exact ⟨o, hideAll_get _ ho (fun q => by rw [List.mem_singleton.mp q, hP] at ho; cases ho; exact absurd hc (by simp)), hc, r⟩
theorem ghost_tab {h h' : Heap} {P L : Addr} {ps : Array Value} {m : PySem.Str → Option Value} (F : Fr h L h' m) (hP : h.get? P = some (tabObj ps)) : News (ghost h P) L h' [(P, tabObj ps)] := fun p hp => by
  rw [List.mem_singleton.mp hp]
  exact ⟨F.keep _ _ hP, Nat.ne_of_lt (Nat.lt_of_lt_of_le (Heap.lt_size hP) F.above), hideAll_none _ (.head _)⟩
end
end Mine
namespace Mine
/-- a machine that ends at once with r -/
def toyFin : Result → Sem Fin
  | .ok f => pure (.done f)
  | .error e => throw e
theorem toy_of {M : Model} {A : Around} {cd : Code} {s : Shared} {r : Result} {R : Result → Shared → Prop} (h : R r s) : codeAny { M with den := fun _ => toyFin r } A cd R s := by
  refine codeAny_of_tree ?_
  show wpAny _ _ (toyFin r) _ _ _
  cases r with
  | ok f => exact wpAny_pure h
  | error e => exact wpAny_throw h
theorem toy_to {M : Model} {cd : Code} {s : Shared} {r : Result} {R : Result → Shared → Prop} (h : codeAny { M with den := fun _ => toyFin r } {} cd R s) : R r s := by
  have h1 := h { code := cd, handled := none, own := none, below := [], past := none } default rfl ⟨rfl, Nat.le_refl _, nofun, nofun, Nat.zero_le _⟩
  rw [wpCode_iff_wp] at h1
  cases r with
  | ok f => exact h1
  | error e => exact h1
theorem my_post {M : Model} {A : Around} {cd : Code} {s s₁ : Shared} {cw : ClaimW} {cl : Str → Option Addr} {mean : ExcName → Option Value} {args : List WData} {tabs : List (Addr × Addr)} (hT : TabsAt tabs s₁.heap) (hr : ∀ a x, cw.raises a x = false)
    (h : codeAny M A cd (fun r s' => GoodW cw cl mean args { s₁ with heap := ghostOf s₁.heap tabs } r { s' with gens := #[] } ∧ GrownAll tabs s'.heap ∧ AllBare s'.gens) s) : codeAny M A cd (GoodWG cw cl mean args s₁) s :=
  codeAny_mono h fun r s' ⟨g, hgr, hb⟩ =>
    have k := toy_to (M := M) (kn_post (M := { M with den := fun _ => toyFin r }) (A := {}) (cd := cd) (s := { s' with gens := #[] }) hT hr (toy_of (r := r) ⟨g, hgr⟩))
    ⟨k.1, k.2.1, k.2.2.1, hb⟩
end Mine
namespace Mine
open PySem.Builtin.Int (intBits)
abbrev LIM : Int := 65535 * 256 ^ 26
/-- the law's frame: what its statements find -/
structure Ctx (w : World) (p : Program) (loose : List Str) (mean : ExcName → Option Value) (mg mb : Str → Option Value) (h₀ : Heap) (L fd fs ff l : Addr) (vs : List Value) (ns : List Int) (tw : Tok) (news : List (Addr × Obj)) : Prop where
  X : (hd.heap_39 w.params).In h₀
  T : Top p loose mean mg mb h₀
  B : Below callerA h₀ [] h₀
  C : CodeHd h₀ 134 132
  hl : h₀.IsList l vs.toArray
  hi : IntsAre vs ns
  hlen : ns.length ≤ 63
  hbits : ∀ k, 0 ≤ k → k ≤ 1000 → intBits (dr ns k) ≤ 2097152
  script : ∃ o, (L + 1, o) ∈ news ∧ o.data = .cell (some (.ref l))
  draw : ∃ o, (L + 1 + 1, o) ∈ news ∧ o.data = .cell (some (.ref fd))
  weeks : ∃ o, (L + 1 + 1 + 1, o) ∈ news ∧ o.data = .cell (some (.int 1209600 tw))
  fdraw : FnIn news fd (Str.ofString "draw") 0 [(Str.ofString "script", L + 1)]
  fsize : FnIn news fs (Str.ofString "size") 2 []
  ffollow : FnIn news ff (Str.ofString "follow") 3 []
theorem FnIn.cons {news : List (Addr × Obj)} {f : Addr} {name : Str} {k : Nat} {cl : List (Str × Addr)} (x : Addr × Obj) (h : FnIn news f name k cl) : FnIn (x :: news) f name k cl := by
  obtain ⟨qual, dc, pm, c, ct, oc, vs, t, h1, h2, h3⟩ := h
  exact ⟨qual, dc, pm, c, ct, oc, vs, t, .tail _ h1, .tail _ h2, h3⟩
theorem Ctx.cons {w : World} {p : Program} {loose : List Str} {mean : ExcName → Option Value} {mg mb : Str → Option Value} {h₀ : Heap} {L fd fs ff l : Addr} {vs : List Value} {ns : List Int} {tw : Tok} {news : List (Addr × Obj)} (x : Addr × Obj)
    (h : Ctx w p loose mean mg mb h₀ L fd fs ff l vs ns tw news) : Ctx w p loose mean mg mb h₀ L fd fs ff l vs ns tw (x :: news) where
  X := h.X
  T := h.T
  B := h.B
  C := h.C
  hl := h.hl
  hi := h.hi
  hlen := h.hlen
  hbits := h.hbits
  script := let ⟨o, a, b⟩ := h.script; ⟨o, .tail _ a, b⟩
  draw := let ⟨o, a, b⟩ := h.draw; ⟨o, .tail _ a, b⟩
  weeks := let ⟨o, a, b⟩ := h.weeks; ⟨o, .tail _ a, b⟩
  fdraw := h.fdraw.cons x
  fsize := h.fsize.cons x
  ffollow := h.ffollow.cons x
theorem cell_on {h₀ h : Heap} {L c : Addr} {o : Obj} {news : List (Addr × Obj)} (hm : (c, o) ∈ news) (N : News h₀ L h news) : h.get? c = some o := (N _ hm).1
theorem cell_on2 {h₀ h : Heap} {L c : Addr} {o : Obj} {news : List (Addr × Obj)} (N : News h₀ L h news) (hm : (c, o) ∈ news) : h.get? c = some o := (N _ hm).1
theorem FnIn.on2 {h₀ h : Heap} {L : Addr} {news news' : List (Addr × Obj)} {f : Addr} {name : Str} {k : Nat} {cl : List (Str × Addr)} (hf : FnIn news f name k cl) (N : News h₀ L h news') (hs : ∀ x ∈ news, x ∈ news') : FnOn h f name k cl :=
  hf.on fun p hp => N p (hs p hp)
/-- some names of a frame, said outright -/
def chainM (l : List (Str × Value)) (mm : Str → Option Value) : Str → Option Value := fun z => match l.lookup z with
  | some v => some v
  | none => mm z
theorem lookup_mem {l : List (Str × Value)} {z : Str} {v : Value} (h : l.lookup z = some v) : (z, v) ∈ l := by
  induction l with
  | nil => cases h
  | cons a r ih =>
    obtain ⟨k, x⟩ := a
    rw [List.lookup_cons] at h
    cases hb : z == k with
    | true => rw [hb] at h; cases h; rw [eq_of_beq hb]; exact .head _
    | false => rw [hb] at h; exact .tail _ (ih h)
theorem names_at {m : Str → Option Value} (l : List (Str × Value)) (h : ∀ p ∈ l, m p.1 = some p.2) : m = chainM l m := funext fun z => by
  unfold chainM
  split
  · rename_i v e
    exact h _ (lookup_mem e)
  · rfl
theorem sub_news {h₀ h : Heap} {L : Addr} {news : List (Addr × Obj)} {x : Addr × Obj} (N : News h₀ L h (x :: news)) : News h₀ L h news := fun p hp => N p (.tail _ hp)
theorem news_sub {h₀ h : Heap} {L : Addr} {all news : List (Addr × Obj)} (N : News h₀ L h all) (hs : ∀ p ∈ news, p ∈ all) : News h₀ L h news := fun p hp => N p (hs p hp)
theorem isl_of {h₀ h : Heap} {L l : Addr} {vs : Array Value} {n : Nat} {news : List (Addr × Obj)} (N : News h₀ L h news) (hm : (l, listOf vs n) ∈ news) : h.IsList l vs := ⟨_, (N _ hm).1, rfl, n, rfl⟩
theorem dr_bits {ns : List Int} (hlen : ns.length ≤ 63) (h : PyData.layable0 (.list (ns.map .int)) = true) (k : Int) (h0 : 0 ≤ k) (h1 : k ≤ 1000) : intBits (dr ns k) ≤ 2097152 := by
  unfold dr
  have h7 : intBits (7 * k) ≤ 64 := intBits_le_64 (by omega) (by omega)
  have hg : intBits (if 0 < ns.length then ns.getD (k.fmod (ns.length : Nat)).toNat 0 else 0) ≤ 1048576 := by
    split
    · by_cases hj : (k.fmod (ns.length : Nat)).toNat < ns.length
      · rw [List.getD_eq_getElem?_getD, List.getElem?_eq_getElem hj]
        exact intBits_le_of_item (List.getElem_mem hj) h
      · rw [List.getD_eq_getElem?_getD, List.getElem?_eq_none (Nat.le_of_not_lt hj)]
        exact Nat.zero_le _
    · exact Nat.zero_le _
  refine Nat.le_trans (intBits_add_le hg h7) (by decide)
theorem imo_big {a b : Int} (ha : intBits a ≤ 2097152) (hb : intBits b ≤ 2097152) : IntMulOk a b := by
  have : Builtin.Int.intTooBig (intBits a + intBits b) = false := by
    unfold Builtin.Int.intTooBig
    rw [show (bitsLine : Nat) = 134217728 from by first | rfl | decide]
    exact decide_eq_false (by omega)
  unfold IntMulOk
  rw [this]
  simp
theorem sq_ok {a : Int} (ha : intBits a ≤ 2097152 + 2097152 + 1) : (intBits a : Int) * 2 ≤ 2 ^ 27 := by
  have : (2 : Int) ^ 27 = 134217728 := by decide
  omega
theorem intBits_lin {a b c : Int} (ha : intBits a ≤ 2097152) (hb : intBits b ≤ 2097152) (hc : intBits c ≤ 2097152) : intBits (a * b + c) ≤ 2097152 + 2097152 + 1 :=
  Nat.le_trans (intBits_add_le (intBits_mul_le ha hb) hc) (by decide)
theorem fmod_lim {a b : Int} (h : 0 < b) (hb : b ≤ LIM - 2 ^ 20) : 2 ^ 20 ≤ 2 ^ 20 + a.fmod b ∧ 2 ^ 20 + a.fmod b ≤ LIM := by
  have h1 := Int.fmod_nonneg_of_pos a h
  have h2 := Int.fmod_lt_of_pos a h
  omega
theorem menu_ok {r : Int} (h0 : 0 ≤ r) (h1 : r < 200) (k : Int) : 0 < [LIM - 2 ^ Int.toNat 20, 2 ^ (r + 21).toNat].getD (k.fmod 2).toNat 0 ∧ [LIM - 2 ^ Int.toNat 20, 2 ^ (r + 21).toNat].getD (k.fmod 2).toNat 0 ≤ LIM - 2 ^ 20 := by
  have a0 := Int.fmod_nonneg_of_pos k (show (0 : Int) < 2 by decide)
  have a1 := Int.fmod_lt_of_pos k (show (0 : Int) < 2 by decide)
  have hc : k.fmod 2 = 0 ∨ k.fmod 2 = 1 := by omega
  rcases hc with e | e
  · rw [e]
    show (0 : Int) < LIM - 2 ^ 20 ∧ (LIM - 2 ^ 20 : Int) ≤ LIM - 2 ^ 20
    exact ⟨by decide, by decide⟩
  · rw [e]
    show 0 < (2 : Int) ^ (r + 21).toNat ∧ (2 : Int) ^ (r + 21).toNat ≤ LIM - 2 ^ 20
    refine ⟨pow_pos2 _, Int.le_trans (pow_mono2 (show (r + 21).toNat ≤ 220 by omega)) (by decide)⟩
theorem les {v r : Int} (h2 : 2 ≤ r) (hv : 2 ^ 20 ≤ v) : 2 ^ 19 ≤ v - v.fdiv r ∧ v - v.fdiv r ≤ v := by
  have p : (2 : Int) ^ 20 = 2 * 2 ^ 19 := by decide
  have hv0 : 0 ≤ v := Int.le_trans (by decide) hv
  rw [Int.fdiv_eq_ediv_of_nonneg _ (by omega)]
  have h0 : 0 ≤ v / r := Int.ediv_nonneg hv0 (by omega)
  have h1 : v / r ≤ v / 2 := Int.le_ediv_of_mul_le (by decide) (by
    have := Int.ediv_mul_le v (show r ≠ 0 by omega)
    have h3 : v / r * 2 ≤ v / r * r := Int.mul_le_mul_of_nonneg_left h2 h0
    omega)
  omega
end Mine
namespace Mine
section
variable {prog : Program} {w : World} {A : Around} {h₀ : Heap} {L : Addr} {m : Str → Option Value} {env : Env} {elt : PySem.Expr} {x : Str} {scope : Scope} {cl : List (Str × Addr)} {s : Shared} {S : List (Addr × Obj) → Prop} {P : Nat → Value → Prop} {Fin : List Value → List (Addr × Obj) → Prop} {news : List (Addr × Obj)}
/-- a list comprehension's turns, with an invariant over the items so far -/
theorem comp_rest {n : Nat} (J : Nat → List Value → Prop) (h0 : J 0 [])
    (turn : ∀ i v I oI C oC D m₂ ys h tk (E' : Value → Shared → Prop), i < n → P i v → J i ys → LCg.NsObj oC m₂ → m₂ x = some v → Fr h₀ L h m → News h₀ L h ((I, oI) :: (C, oC) :: (D, LCg.lst ys) :: news) → LCg.Off3 I C D news → S news →
      wpAny (model prog w) A (eval elt (compEnvC scope cl C env)) (LCg.CompEnd h₀ L m { s with heap := h, toks := tk } I oI C oC D (LCg.lst ys) S (fun y news' => news' = news ∧ J (i + 1) (ys ++ [y]))) E' { s with heap := h, toks := tk })
    (hS : S news) (fin : ∀ ys, J n ys → Fin ys news) : LCg.CompRest prog w A h₀ L m env elt x scope cl s S P Fin n 0 [] news := by
  have key : ∀ (j i : Nat) (ys : List Value), i + j = n → J i ys → LCg.CompRest prog w A h₀ L m env elt x scope cl s S P Fin j i ys news := by
    intro j
    induction j with
    | zero =>
      intro i ys hi hy
      have e : i = n := by omega
      subst e
      exact LCg.CompRest.zero (fin ys hy)
    | succ j ih =>
      intro i ys hi hy
      refine LCg.CompRest.succ ?_
      intro v I oI C oC D m₂ h tk E' hv hC hx F N off ne
      refine wpAny_mono (turn i v I oI C oC D m₂ ys h tk E' (by omega) hv hy hC hx F N off hS) (fun y s₂ hq => ?_) fun _ _ e => e
      obtain ⟨h', tk', nw, e, F', N', off', hS', hn, hy'⟩ := hq
      subst hn
      exact ⟨h', tk', nw, e, F', N', off', hS', ih (i + 1) _ (by omega) hy'⟩
  exact key n 0 [] (by omega) h0
/-- a turn's end -/
theorem comp_end {I C D : Addr} {s₁ : Shared} {oI oC oD : Obj} {rest : Value → List (Addr × Obj) → Prop} {y : Value} {h' : Heap} {tk : Nat} {all : List (Addr × Obj)}
    (F : Fr h₀ L h' m) (N : News h₀ L h' all) (sub : ∀ p ∈ (I, oI) :: (C, oC) :: (D, oD) :: news, p ∈ all) (off : LCg.Off3 I C D news) (hS : S news) (r : rest y news) :
    LCg.CompEnd h₀ L m s₁ I oI C oC D oD S rest y { s₁ with heap := h', toks := tk } := ⟨h', tk, news, rfl, F, fun p hp => N p (sub p hp), off, hS, r⟩
end
end Mine
namespace Mine
open LCg LCp
section
variable {prog : Program} {w : World} {A : Around} {E : Value → Shared → Prop} {s : Shared} {h₀ : Heap} {L : Addr} {m : Str → Option Value} {env : Env}
theorem news_but2 {h h' : Heap} {wr : List Addr} {news : List (Addr × Obj)} (N : News h₀ L h news) (hk : ∀ b o, b ∉ wr → h.get? b = some o → h'.get? b = some o) (off : ∀ p ∈ news, p.1 ∉ wr) : News h₀ L h' news :=
  fun p hp => ⟨hk _ _ (off p hp) (N p hp).1, (N p hp).2⟩
theorem fr_but2 {h h' : Heap} {wr : List Addr} (F : Fr h₀ L h m) (hk : ∀ b o, b ∉ wr → h.get? b = some o → h'.get? b = some o) (hL : L ∉ wr) (h0 : ∀ b ∈ wr, h₀.get? b = none) : Fr h₀ L h' m :=
  ⟨F.ns.at fun o e => hk L o hL e, fun b o e => hk b o (fun q => by rw [h0 b q] at e; cases e) (F.keep b o e), F.above⟩
theorem off1 {D : Addr} : ∀ {l : List (Addr × Obj)}, (∀ p ∈ l, p.1 ≠ D) → Off1 D l
  | [], _ => trivial
  | _ :: _, h => ⟨h _ List.mem_cons_self, off1 fun p hp => h p (List.mem_cons_of_mem _ hp)⟩
/-- what a turn of a comprehension over enumerate(list) is asked -/
abbrev EnumTurn (prog : Program) (w : World) (A : Around) (h₀ : Heap) (L : Addr) (m : Str → Option Value) (env : Env) (elt : PySem.Expr) (x x₂ : Str) (scope : Scope) (cl : List (Str × Addr)) (items : Array Value) (news : List (Addr × Obj)) (J : Nat → List Value → Prop) (s₂ : Shared) : Prop :=
  ∀ i t v (e it C D : Addr) oE oI oC m₂ ys h tk (E' : Value → Shared → Prop), items[i]? = some v → J i ys → NsObj oC m₂ → m₂ x = some (.int (i : Int) t) → m₂ x₂ = some v → Fr h₀ L h m → News h₀ L h ((e, oE) :: (it, oI) :: (C, oC) :: (D, lst ys) :: news) →
    wpAny (model prog w) A (eval elt (compEnvC scope cl C env)) (fun y s' => ∃ h' tk', s' = { s₂ with heap := h', toks := tk' } ∧ Fr h₀ L h' m ∧ News h₀ L h' ((e, oE) :: (it, oI) :: (C, oC) :: (D, lst ys) :: news) ∧ J (i + 1) (ys ++ [y])) E' { s₂ with heap := h, toks := tk }
theorem block_E {elt iter : PySem.Expr} {x x₂ : Str} {px px₂ tp : Pos} {tk} {scope : Scope} {cl : List (Str × Addr)} {pos : Pos} {s₂ : Shared} {e it l : Addr} {items : Array Value} {nl : Nat} {news : List (Addr × Obj)} {J : Nat → List Value → Prop} {RR : Value → Addr → Result → Shared → Prop}
    (hsz : items.size ≤ sizeLine) (hcell : ∀ y ∈ scope.names, y.2 ≠ .cell) (hkind : scope.kind = .function) (hx : scope.names.lookup x = some .local) (hx₂ : scope.names.lookup x₂ = some .local) (hxx : x ≠ x₂) (hh : A.handled = none)
    (hlm : (l, listOf items nl) ∈ news) (hei : e ≠ it) (hen : IsEnum s₂.heap e it 0 .none) (hit : s₂.heap.IsListIter it l 0)
    (F : Fr h₀ L s₂.heap m) (N : News h₀ L s₂.heap news) (hLe : L ≠ e) (hLi : L ≠ it) (he0 : h₀.get? e = none) (hi0 : h₀.get? it = none) (off : ∀ p ∈ news, p.1 ≠ e ∧ p.1 ≠ it)
    (h0 : J 0 []) (turn : EnumTurn prog w A h₀ L m env elt x x₂ scope cl items news J s₂)
    (hRR : ∀ D C h tk m' ys, Fr h₀ L h m → News h₀ L h ((D, lst ys) :: news) → h.Ns C m' → h₀.get? C = none → h₀.get? D = none → C ≠ L → D ≠ L → C ≠ D → (∀ p ∈ news, p.1 ≠ C ∧ p.1 ≠ D) → J items.size ys → RR (.ref D) C (.ok .next) { s₂ with heap := h, toks := tk }) :
    wpAny (model prog w) A (newList []) (fun acc s₃ => wpAny (model prog w) A (newFunctionEnv scope env.globals cl [] env.qual none .none (some env)) (fun cenv s₄ =>
      codeAny (model prog w) A (.compStart (.ListComp elt [⟨.Tuple [.Name x px, .Name x₂ px₂] tk tp, iter, [], 0⟩] scope pos) 0 (.ref e) acc { cenv with scope := relabel scope env }) (RR acc cenv.locals) s₄) E s₃) E s₂ := by
  refine wpAny_newObj_type (wpAny_newFunctionEnv hcell (by intro y hy; simp at hy) (fun h₁ hns₁ hsb₁ => ?_) hkind)
  dsimp only at hns₁ hsb₁ ⊢
  generalize hH2 : s₂.heap.push { cls := .type "list", dict := none, data := .seq ([] : List Value).toArray } = H2 at hns₁ hsb₁ ⊢
  have hC : H2.objs.size = s₂.heap.objs.size + 1 := by rw [← hH2, Heap.size_push]
  have hDC : s₂.heap.objs.size ≠ H2.objs.size := by rw [hC]; exact Nat.ne_of_lt (Nat.lt_succ_self _)
  have below : ∀ b, b < s₂.heap.objs.size → b ≠ H2.objs.size ∧ b ≠ s₂.heap.objs.size := fun b hb => ⟨by rw [hC]; exact Nat.ne_of_lt (Nat.lt_succ_of_lt hb), Nat.ne_of_lt hb⟩
  have helt : e < s₂.heap.objs.size := Heap.lt_size hen
  have hilt : it < s₂.heap.objs.size := by obtain ⟨_, q, _⟩ := hit; exact Heap.lt_size q
  have hl : s₂.heap.IsList l items := ⟨_, (N _ hlm).1, rfl, nl, rfl⟩
  have hllt : l < s₂.heap.objs.size := Heap.lt_size (N _ hlm).1
  have hle : l ≠ e := (off _ hlm).1
  have hli : l ≠ it := (off _ hlm).2
  have hfp : ∀ b ∈ [e, it, l], b < s₂.heap.objs.size := fun b hb => by
    rcases List.mem_cons.mp hb with rfl | hb
    · exact helt
    · rcases List.mem_cons.mp hb with rfl | hb
      · exact hilt
      · rw [List.mem_singleton.mp hb]; exact hllt
  have W := WalksT.enumerate (prog := prog) (w := w) (A := A) hh e it l hei hle hli items
  have hDf : s₂.heap.objs.size ∉ [e, it, l] := fun hm => Nat.lt_irrefl _ (hfp _ hm)
  have hCf : H2.objs.size ∉ [e, it, l] := fun hm => by have := hfp _ hm; rw [hC] at this; exact Nat.lt_irrefl _ (Nat.lt_of_succ_lt this)
  have wrof : ∀ b, b ∈ [e, it] → b ∈ [e, it, l] := fun b hb => W.sub b hb
  have old : ∀ b o, s₂.heap.get? b = some o → h₁.get? b = some o := fun b o q => hsb₁.extBut b o (below b (Heap.lt_size q)).1 (Heap.get?_push_of_some _ (hH2 ▸ Heap.get?_push_of_some _ q))
  have hacc : h₁.get? s₂.heap.objs.size = some (lst []) := hsb₁.extBut _ _ hDC (Heap.get?_push_of_some _ (hH2 ▸ Heap.get?_push_size _ rfl))
  have hst₁ := W.frame 0 _ h₁ ⟨⟨_, hen⟩, hit, hl⟩ fun b _ o q => old b o q
  have fresh₀ : ∀ a, s₂.heap.objs.size ≤ a → h₀.get? a = none := fun a ha => by
    cases q : h₀.get? a with
    | none => rfl
    | some o' => exact absurd (Heap.lt_size (F.keep a o' q)) (Nat.not_lt.mpr ha)
  have hD₀ : h₀.get? s₂.heap.objs.size = none := fresh₀ _ (Nat.le_refl _)
  have hC₀ : h₀.get? H2.objs.size = none := fresh₀ _ (by rw [hC]; exact Nat.le_succ _)
  have hLlt : L < s₂.heap.objs.size := F.ns.lt
  have hDL : s₂.heap.objs.size ≠ L := Ne.symm (below L hLlt).2
  have hCL : H2.objs.size ≠ L := Ne.symm (below L hLlt).1
  have hLw : L ∉ [e, it] := fun hm => by
    rcases List.mem_cons.mp hm with q | hm
    · exact hLe q
    · exact hLi (List.mem_singleton.mp hm)
  have h0w : ∀ b ∈ [e, it], h₀.get? b = none := fun b hm => by
    rcases List.mem_cons.mp hm with rfl | hm
    · exact he0
    · rw [List.mem_singleton.mp hm]; exact hi0
  have offw : ∀ p ∈ news, p.1 ∉ [e, it] := fun p hp hm => by
    rcases List.mem_cons.mp hm with q | hm
    · exact (off p hp).1 q
    · exact (off p hp).2 (List.mem_singleton.mp hm)
  have offCD : ∀ p ∈ news, p.1 ≠ H2.objs.size ∧ p.1 ≠ s₂.heap.objs.size := fun p hp => below _ (Heap.lt_size (N p hp).1)
  have hCw : H2.objs.size ∉ [e, it] := fun hm => hCf (wrof _ hm)
  have hDw : s₂.heap.objs.size ∉ [e, it] := fun hm => hDf (wrof _ hm)
  have loop : ∀ s₃ : Shared, s₃ = { s₂ with heap := h₁, toks := s₂.toks + ([] : List (Str × Value)).length } →
      codeAny (model prog w) A (.compLoop (.ListComp elt [⟨.Tuple [.Name x px, .Name x₂ px₂] tk tp, iter, [], 0⟩] scope pos) 0 (.ref e) (.ref s₂.heap.objs.size) (compEnvC scope cl H2.objs.size env))
        (RR (.ref s₂.heap.objs.size) H2.objs.size) s₃ := by
    rintro s₃ rfl
    refine codeAny_compLoop_pair
      (fun k s' => ∃ h' tk i ys m', s' = { s₂ with heap := h', toks := tk } ∧ i ≤ items.size ∧ k = items.size + 1 - i ∧ ys.length = i ∧ ((∃ old, IsEnum h' e it i old) ∧ h'.IsListIter it l i ∧ h'.IsList l items) ∧ Fr h₀ L h' m ∧ h'.Ns H2.objs.size m' ∧ News h₀ L h' ((s₂.heap.objs.size, lst ys) :: news) ∧ J i ys) ?_ (items.size + 1)
      ⟨h₁, _, 0, [], _, rfl, Nat.zero_le _, rfl, rfl, hst₁, F.keeps old, hns₁, fun p hp => ?_, h0⟩
    · rintro k s' ⟨h', tk, i, ys, m', rfl, hi, rfl, hyl, hst', F', hn', N', hJ⟩
      have offD : ∀ p ∈ (s₂.heap.objs.size, lst ys) :: news, p.1 ∉ [e, it] := fun p hp => by
        rcases List.mem_cons.mp hp with rfl | hp
        · exact hDw
        · exact offw p hp
      by_cases hlt : i < items.size
      · refine W.item i _ _ _ hlt hst' fun T vals h₂ tk₂ hPv _ hT hmid hk₂ => ?_
        obtain ⟨t, v, hv, rfl⟩ := hPv
        have N₂ := news_but2 N' hk₂ offD
        have F₂ := fr_but2 F' hk₂ hLw h0w
        have hn₂ := hn'.at' fun o q => hk₂ _ o hCw q
        refine W.go _ _ _ i T _ _ _ hmid fun h₃ hst₃ hk₃ => ?_
        have hTn := W.apart i T _ hmid
        have hT₃ : IsTup h₃ T #[.int (i : Int) t, v] := let ⟨o, q, r⟩ := hT; ⟨o, hk₃ _ o hTn q, r⟩
        have N₃ := news_but2 N₂ hk₃ offD
        have F₃ := fr_but2 F₂ hk₃ hLw h0w
        have hn₃ := hn₂.at' fun o q => hk₃ _ o hCw q
        refine assign_Tuple_tuple hh hT₃ rfl rfl fun h₅ hx5 => ?_
        have he' : ∀ b o, h₃.get? b = some o → h₅.get? b = some o := fun b o q => hx5 b o (Nat.ne_of_lt (Heap.lt_size q)) q
        refine assignInOrder_cons (wpAny_assign_Name (wpAny_storeName_local (lookup_relabel_local hx) (hn₃.at' fun o q => he' _ o q) (fun h₆ hn₆ hs₆ => ?_) (by simp [compEnvC, relabel, hkind])))
        refine assignInOrder_cons (wpAny_assign_Name (wpAny_storeName_local (lookup_relabel_local hx₂) hn₆ (fun h₇ hn₇ hs₇ => ?_) (by simp [compEnvC, relabel, hkind])))
        refine assignInOrder_nil ?_
        have old7 : ∀ b o, b ≠ H2.objs.size → h₃.get? b = some o → h₇.get? b = some o := fun b o hb q => hs₇.extBut b o hb (hs₆.extBut b o hb (he' b o q))
        have hst₇ := W.frame (i + 1) _ h₇ hst₃ fun b hb o q => old7 b o (fun z => hCf (by rw [← z]; exact hb)) q
        obtain ⟨⟨od, heE⟩, hi7, hl7⟩ := hst₇
        obtain ⟨oI, heI, hIr⟩ := hi7
        obtain ⟨oC, heC, hoC⟩ := ns_obj hn₇
        have F₇ : Fr h₀ L h₇ m := ((F₃.keeps he').change hs₆ hCL hC₀).change hs₇ hCL hC₀
        have N₇ : News h₀ L h₇ ((e, _) :: (it, oI) :: (H2.objs.size, oC) :: (s₂.heap.objs.size, lst ys) :: news) := fun p hp => by
          rcases List.mem_cons.mp hp with rfl | hp
          · exact ⟨heE, Ne.symm hLe, he0⟩
          · rcases List.mem_cons.mp hp with rfl | hp
            · exact ⟨heI, Ne.symm hLi, hi0⟩
            · rcases List.mem_cons.mp hp with rfl | hp
              · exact ⟨heC, hCL, hC₀⟩
              · have z := N₃ p hp
                refine ⟨old7 _ _ ?_ z.1, z.2⟩
                rcases List.mem_cons.mp hp with rfl | hp
                · exact hDC
                · exact (offCD p hp).1
        refine wpAny_mono (turn i t v e it H2.objs.size s₂.heap.objs.size _ oI oC _ ys h₇ _ _ hv hJ hoC (by simp [hxx]) (by simp) F₇ N₇) (fun y s₄ h₄ => ?_) fun _ _ e => e
        obtain ⟨h₄, tk₄, rfl, F₄, N₄, hJ₄⟩ := h₄
        have zE := (N₄ (e, _) List.mem_cons_self).1
        have zI := (N₄ (it, oI) (List.mem_cons_of_mem _ List.mem_cons_self)).1
        have zC := (N₄ (H2.objs.size, oC) (List.mem_cons_of_mem _ (List.mem_cons_of_mem _ List.mem_cons_self))).1
        have zD := (N₄ (s₂.heap.objs.size, lst ys) (List.mem_cons_of_mem _ (List.mem_cons_of_mem _ (List.mem_cons_of_mem _ List.mem_cons_self)))).1
        have N₄' : News h₀ L h₄ news := fun p hp => N₄ p (List.mem_cons_of_mem _ (List.mem_cons_of_mem _ (List.mem_cons_of_mem _ (List.mem_cons_of_mem _ hp))))
        have hst₄ : (∃ old, IsEnum h₄ e it ((i + 1 : Nat) : Int) old) ∧ h₄.IsListIter it l (i + 1) ∧ h₄.IsList l items :=
          ⟨⟨od, zE⟩, ⟨oI, zI, hIr⟩, ⟨_, (N₄' _ hlm).1, rfl, nl, rfl⟩⟩
        refine append_at (hsz := by show ys.toArray.size ≤ sizeLine; rw [List.size_toArray, hyl]; exact Nat.le_trans hi hsz) zD fun h₅ hs₅ hD₅ => ?_
        refine ⟨items.size + 1 - (i + 1), by omega, h₅, tk₄, i + 1, ys ++ [y], _, rfl, hlt, rfl, by rw [List.length_append, List.length_singleton, hyl], W.frame (i + 1) _ _ hst₄ fun b hb o q => hs₅.extBut b o (fun z => hDf (z ▸ hb)) q, F₄.change hs₅ hDL hD₀,
          (hoC.ns zC).sameBut hs₅ (Ne.symm hDC), fun p hp => ?_, hJ₄⟩
        rcases List.mem_cons.mp hp with rfl | hp
        · exact ⟨hD₅.trans (congrArg some (lst_snoc ys y)), hDL, hD₀⟩
        · exact ⟨hs₅.extBut _ _ (offCD p hp).2 (N₄' p hp).1, (N₄' p hp).2⟩
      · obtain rfl : i = items.size := Nat.le_antisymm hi (Nat.not_lt.mp hlt)
        refine W.done _ _ _ hst' fun h₂ tk₂ hk₂ => ?_
        exact hRR _ _ h₂ tk₂ _ ys (fr_but2 F' hk₂ hLw h0w) (news_but2 N' hk₂ offD) (hn'.at' fun o q => hk₂ _ o hCw q) hC₀ hD₀ hCL hDL (Ne.symm hDC) offCD hJ
    · rcases List.mem_cons.mp hp with rfl | hp
      · exact ⟨hacc, hDL, hD₀⟩
      · exact ⟨old _ _ (N p hp).1, (N p hp).2⟩
  exact codeAny_compStart_list (loop _ rfl) (W.self 0 _ _ _ hst₁ (loop _ rfl))
theorem Assign_E {elt iter : PySem.Expr} {x x₂ y : Str} {px px₂ tp py : Pos} {tk} {scope : Scope} {cl : List (Str × Addr)} {pos spos : Pos} {Q : Flow → Shared → Prop} (hLe : env.locals = L)
    (hsw : swapsWith (.ListComp elt [⟨.Tuple [.Name x px, .Name x₂ px₂] tk tp, iter, [], 0⟩] scope pos) (some (.Name y py)) spos.line env = pure true)
    (hclos : closureFor scope env = pure cl) (hcell : ∀ z ∈ scope.names, z.2 ≠ .cell) (hkind : scope.kind = .function)
    (hnames : ∀ z ∈ scope.names, z.2 = .local → scope.names.lookup z.1 = some .local) (hx : scope.names.lookup x = some .local) (hx₂ : scope.names.lookup x₂ = some .local) (hxx : x ≠ x₂)
    (hy : env.kindOf y = some .local) (hp : (env.scope.kind == .class || (env.scope.kind == .module && env.locals != env.globals)) = false) (hh : A.handled = none)
    (h : wpAny (model prog w) A (eval iter env) (fun xv s₁ => ∃ (e it l : Addr) (items : Array Value) (nl : Nat) (news : List (Addr × Obj)) (J : Nat → List Value → Prop), xv = .ref e ∧ items.size ≤ sizeLine ∧ (l, listOf items nl) ∈ news ∧ e ≠ it ∧ IsEnum s₁.heap e it 0 .none ∧ s₁.heap.IsListIter it l 0 ∧
      Fr h₀ L s₁.heap m ∧ News h₀ L s₁.heap news ∧ L ≠ e ∧ L ≠ it ∧ h₀.get? e = none ∧ h₀.get? it = none ∧ (∀ p ∈ news, p.1 ≠ e ∧ p.1 ≠ it) ∧ J 0 [] ∧ EnumTurn prog w A h₀ L m env elt x x₂ scope cl items news J s₁ ∧
      (∀ ys, J items.size ys → FinA h₀ L m s₁ y Q ys news)) E s)
    (hs : ∀ x, foldedSetIterable iter env x = pure x := by intro _; rfl) :
    wpAny (model prog w) A (exec (.Assign [.Name y py] (.ListComp elt [⟨.Tuple [.Name x px, .Name x₂ px₂] tk tp, iter, [], 0⟩] scope pos) spos) env) Q E s := by
  subst hLe
  rw [exec_Assign_Name_used _ _ _ _ hsw]
  refine wpAny_bind (wpAny_standAt (wpAny_bind ?_))
  show wpAny _ A (do let _ ← comprehension (.ListComp elt [⟨.Tuple [.Name x px, .Name x₂ px₂] tk tp, iter, [], 0⟩] scope pos) scope env _ (newList []) false (eval iter env) (some (assign (.Name y py) env))) _ _ s
  refine wpAny_bind (wpAny_mono (wpAny_comprehension_free (use := some (assign (.Name y py) env)) (Q := fun _ s' => Q .next s') rfl hs hclos hkind hnames
    (wpAny_mono h (fun xv s₁ h₁ => ?_) fun _ _ e => e)) (fun _ s' hq => wpAny_pure (wpAny_pure hq)) fun _ _ e => e)
  obtain ⟨e, it, l, items, nl, news, J, rfl, hsz, hlm, hei, hen, hit, F, N, a1, a2, a3, a4, off, h0, turn, fin⟩ := h₁
  refine wpAny_pyIter_enum hen ?_
  refine block_E hsz hcell hkind hx hx₂ hxx hh hlm hei hen hit F N a1 a2 a3 a4 off h0 turn ?_
  intro D C h' tk m' ys F' N' hn hC₀ hD₀ hCL hDL hCD offC hJ
  show wpAny _ A (assign (.Name y py) env (.ref D)) _ _ _
  refine wpAny_assign_Name (wpAny_storeName_local hy F'.ns (fun h₂ hn₂ hs₂ => ?_) hp)
  have hL₀ : h₀.get? env.locals = none := Heap.get?_none_of_le F'.above
  have F₂ : Fr h₀ env.locals h₂ (fun z => if z = y then some (.ref D) else m z) := ⟨hn₂, fun b o q => hs₂.extBut b o (fun z => by rw [z, hL₀] at q; cases q) (F'.keep b o q), F'.above⟩
  refine ⟨m', hn.sameBut hs₂ hCL, fun h'' hs'' => fin ys hJ D h'' _ (F₂.change hs'' hCL hC₀) (fun p hp => ?_) (off1 fun p hp => (offC p hp).2)⟩
  have z : h₂.get? p.1 = some p.2 := hs₂.extBut _ _ (N' p hp).2.1 (N' p hp).1
  refine ⟨hs''.extBut _ _ ?_ z, (N' p hp).2⟩
  rcases List.mem_cons.mp hp with rfl | hp
  · exact Ne.symm hCD
  · exact (offC p hp).1
end
end Mine
namespace Mine
local macro_rules | `(tactic| walk_at "MINE pad") => `(tactic| fail)
theorem top_off_L4 : True := by
  w_top off
  exact True.intro
local macro_rules | `(tactic| k_room) => `(tactic| ktr_room)
local macro_rules | `(tactic| walk_at "MINE enter") => `(tactic| (refine wpAny_call ?_; k_dflt (refine' code_n ?k3 ?k5 ?k6 ?k7 ?k8 ?k9 ?kB ?_ ?c2 ?c3 ?c4 ?c5; (case k3 => k_asm); (case k5 => k_asm); (case k6 => k_is); (case k7 => k_is); (case k8 => ktr_room); (case k9 => first | exact BindsTo.of_eq rfl | exact binds_K (by k_in) rfl (by k_is) rfl rfl rfl | (refine' kp_binds ?kx ?ke; (case kx => k_in); (case ke => exact fun _ => rfl))); (case c5 => decide); (case kB => exact locs rfl); (case c2 => exact rfl); (case c3 => exact rfl); (case c4 => exact rfl); k_whole; intro L' h' F' N'; (try dsimp only); (try k_fold))))
local macro_rules | `(tactic| walk_at "LeaveN") => `(tactic| (k_dflt (refine' leaveN_ ?k1 ?k2 ?_; (case k1 => k_asm); (case k2 => k_asm); k_whole); intro kK kN; (try dsimp only)))
local macro_rules | `(tactic| walk_at "callWith ref") => `(tactic| (k_here; (with_reducible show wpAny _ _ (callWith _ (Value.ref _) [] (backTo _ (starEach (_ :: _) _)) (backToKw _ (keywordEach (_ :: _) _))) _ _ _); kfb_any; k_dflt (refine' callWith_fbKw ?k1 ?_; (case k1 => exact rfl); k_whole)))
local macro_rules | `(tactic| walk_at "callWith") => `(tactic| (k_here; (with_reducible show wpAny _ _ (callWith _ (Value.builtin _) [_] (backTo _ (starEach (_ :: _) _)) (backToKw _ (keywordEach (_ :: _) _))) _ _ _); k_dflt (refine callWith_bKw ?_; k_whole)))
local macro_rules | `(tactic| walk_at "call ref") => `(tactic| (k_here; (with_reducible show wpAny _ _ (call (Value.ref _) (Value.bytes _ _ :: _) _) _ _ _); kfb_any; k_dflt (first
  | (refine fb_call2 (by k_asm) (by k_mem) (picked_tail (by assumption)) (by kfb_size) ?_)
  | (refine fb_call0 (by k_asm) (by k_mem) (by kba_ints2) (by kfb_size) ?_)
  | (refine fb_call1 (by k_asm) (by k_mem) (by kba_ints2) (by kfb_size) ?_)
  | (refine fb_call2 (by k_asm) (by k_mem) (by kba_ints2) (by kfb_size) ?_)); intro _ _))
local macro_rules | `(tactic| walk_at "subscriptTail") => `(tactic| (k_here; (with_reducible show wpAny _ _ (subscriptTail _ _ (Value.bytes _ _) (Value.int _ _)) _ _ _); (with_unfolding_all refine' bytes_item0 ?k1 ?k2 ?_; (case k1 => assumption); (case k2 => exact Nat.le_of_ble_eq_true rfl); k_whole); intro _ _ _ _))
local macro_rules | `(tactic| walk_at "binaryOp LShift int int") => `(tactic| (k_here; (with_reducible show wpAny _ _ (binaryOp _ (Value.int (Builtin.bitAnd _ _) _) _) _ _ _); k_dflt (refine' lshift_int_small ?k1 ?k2 ?k3 ?_; (case k1 => omega); (case k2 => omega); (case k3 => exact mask_small _); k_whole)))
local macro_rules | `(tactic| walk_at "call type:bytes") => `(tactic| (k_here; (with_reducible show wpAny _ _ (call (Value.type "bytes") [Value.bytes _ _]) _ _ _); (refine bytes_of_bytes ?_)))
local macro_rules | `(tactic| walk_at "call builtin:int.to_bytes") => `(tactic| (k_here; k_dflt (first
  | (refine' tb_32 ?h0 ?h1 ?_; (case h0 => first | assumption | omega); (case h1 => first | assumption | omega); k_whole)
  | (refine' tb_32s ?h0 ?h1 ?_; (case h0 => first | assumption | omega); (case h1 => first | assumption | omega); k_whole)
  | (refine' tb_3s ?h0 ?h1 ?_; (case h0 => first | assumption | omega); (case h1 => first | assumption | omega); k_whole; intro _)); intro _ _))
local macro_rules | `(tactic| walk_at "binaryOp Add bytes bytes") => `(tactic| (k_here; k_dflt (refine' bytes_cons_add ?h0 ?h1 ?hb ?hl ?_; (case h0 => omega); (case h1 => omega); (case hb => assumption); (case hl => exact little3_len); k_whole); intro _ _))
local macro_rules | `(tactic| k_mem) => `(tactic| first | with_reducible assumption | exact List.Mem.head _ | assumption | (refine' List.Mem.tail _ ?_; k_mem))
local macro_rules | `(tactic| walk_at "call ref") => `(tactic| (k_here; k_dflt (show wpAny _ _ (call (Value.ref _) [Value.int _ _]) _ _ _); k_dflt (refine' ctn_use (ct_draw _ _ _ _ _ _ _ _ ?k0 ?k1 ?k6 ?k7) ?k2 ?k3 ?k4 ?k5 ?hp ?hh ?kd ?ku ?_; (case k0 => first | assumption | omega); (case k1 => first | assumption | omega); (case k6 => assumption); (case k7 => assumption); (case hp => exact ⟨FnIn.on2 (by assumption) (by k_asm) (by (intro _ h9; repeat (first | exact h9 | refine List.Mem.tail _ ?_ | refine List.mem_append_right _ ?_))), isl_keep (by assumption) (Fr.keep (by k_asm)), _, _, rfl, cell_on2 (by k_asm) (by k_mem), by assumption⟩); (case k2 => k_asm); (case k3 => k_asm); (case k4 => k_asm); (case k5 => k_asm); (case hh => exact rfl); (case kd => ktr_room); (case ku => ktr_units); intro t9 h9 tk9 F9 N9; (try dsimp only); (try k_fold))))
local macro_rules | `(tactic| walk_at "binaryOp Mult int int") => `(tactic| (k_here; k_dflt (refine' mul_int ?_ ?hm; (case hm => exact imo_big (by first | assumption | decide) (by first | assumption | decide)); k_whole)))
local macro_rules | `(tactic| walk_at "binaryOp Pow int int") => `(tactic| (k_here; k_dflt (refine' pow_int ?hn ?hs ?_; (case hn => decide); (case hs => exact sq_ok (intBits_lin (by first | assumption | decide) (by first | assumption | decide) (by first | assumption | decide))); k_whole)))
set_option maxHeartbeats 4000000 in
theorem seg4 (w : World) (p : Program) (loose : List Str) (mean : ExcName → Option Value) (mg mb : Str → Option Value) (h₀ : Heap) (L fa fd fs ff l : Addr) (vs : List Value) (ns : List Int) (tw : Tok) (m : Str → Option Value) (news : List (Addr × Obj)) (s : Shared) (Q : Flow → Shared → Prop) (E : Value → Shared → Prop)
    (hx : Ctx w p loose mean mg mb h₀ L fd fs ff l vs ns tw news) (F : Fr h₀ L s.heap m) (N : News h₀ L s.heap news) (tl : Tok) (hm : m (Str.ofString "limit") = some (.int LIM tl))
    (hQ : ∀ (v : Int) (t : Tok) (h' : Heap) (tk' : Nat), 2 ^ 20 ≤ v → v ≤ LIM → Fr h₀ L h' (fun z => if z = Str.ofString "target" then some (.int v t) else m z) → News h₀ L h' news → Q .next { s with heap := h', toks := tk' }) :
    wpAny (model PySem.Challenge.rw_fc0027_01.row.prog w) (callerA.deeper (envOfC (Str.ofString "law") lawScope L fa (.ref 134))) (exec (stm 4) (envOfC (Str.ofString "law") lawScope L fa (.ref 134))) Q E s := by
  have X9 := hx.X
  revert X9
  k_fill
  intro X9
  clear X9
  obtain ⟨X, T, B, C, hl, hi, hlen, hbits, ⟨oS, hS, hSd⟩, ⟨oD, hD, hDd⟩, ⟨oW, hW, hWd⟩, hfd, hfs, hff⟩ := hx
  have hfd2 := hfd
  have hfs2 := hfs
  have hff2 := hff
  obtain ⟨dq, ddc, dpm, dcc, dct, doc, dvs, dt, d1, d2, d3, d4⟩ := hfd2
  obtain ⟨sq, sdc, spm, scc, sct, soc, svs, st, s1, s2, s3, s4⟩ := hfs2
  obtain ⟨fq, fdc, fpm, fcc, fct, foc, fvs, ft, f1, f2, f3, f4⟩ := hff2
  rw [names_at (m := m) [(Str.ofString "limit", .int LIM tl)] (List.forall_mem_cons.mpr ⟨hm, fun _ h => nomatch h⟩)] at F hQ
  have b0 := hbits 0 (by decide) (by decide)
  have b1 := hbits 1 (by decide) (by decide)
  have b2 := hbits 2 (by decide) (by decide)
  have b3 := hbits 3 (by decide) (by decide)
  conv in stm _ => whnf
  k_steps
  · rename _ = (0 : Int) => hz
    exact absurd hz (Int.ne_of_gt (menu_ok (by assumption) (by assumption) _).1)
  · exact hQ _ _ _ _ (fmod_lim (menu_ok (by assumption) (by assumption) _).1 (menu_ok (by assumption) (by assumption) _).2).1 (fmod_lim (menu_ok (by assumption) (by assumption) _).1 (menu_ok (by assumption) (by assumption) _).2).2 (by k_asm) (sub_news (by k_asm))
end Mine
namespace Mine
theorem top_off_L5 : True := by
  w_top off
  exact True.intro
local macro_rules | `(tactic| k_room) => `(tactic| ktr_room)
local macro_rules | `(tactic| walk_at "MINE enter") => `(tactic| (refine wpAny_call ?_; k_dflt (refine' code_n ?k3 ?k5 ?k6 ?k7 ?k8 ?k9 ?kB ?_ ?c2 ?c3 ?c4 ?c5; (case k3 => k_asm); (case k5 => k_asm); (case k6 => k_is); (case k7 => k_is); (case k8 => ktr_room); (case k9 => first | exact BindsTo.of_eq rfl | exact binds_K (by k_in) rfl (by k_is) rfl rfl rfl | (refine' kp_binds ?kx ?ke; (case kx => k_in); (case ke => exact fun _ => rfl))); (case c5 => decide); (case kB => exact locs rfl); (case c2 => exact rfl); (case c3 => exact rfl); (case c4 => exact rfl); k_whole; intro L' h' F' N'; (try dsimp only); (try k_fold))))
local macro_rules | `(tactic| walk_at "LeaveN") => `(tactic| (k_dflt (refine' leaveN_ ?k1 ?k2 ?_; (case k1 => k_asm); (case k2 => k_asm); k_whole); intro kK kN; (try dsimp only)))
local macro_rules | `(tactic| walk_at "callWith ref") => `(tactic| (k_here; (with_reducible show wpAny _ _ (callWith _ (Value.ref _) [] (backTo _ (starEach (_ :: _) _)) (backToKw _ (keywordEach (_ :: _) _))) _ _ _); kfb_any; k_dflt (refine' callWith_fbKw ?k1 ?_; (case k1 => exact rfl); k_whole)))
local macro_rules | `(tactic| walk_at "callWith") => `(tactic| (k_here; (with_reducible show wpAny _ _ (callWith _ (Value.builtin _) [_] (backTo _ (starEach (_ :: _) _)) (backToKw _ (keywordEach (_ :: _) _))) _ _ _); k_dflt (refine callWith_bKw ?_; k_whole)))
local macro_rules | `(tactic| walk_at "call ref") => `(tactic| (k_here; (with_reducible show wpAny _ _ (call (Value.ref _) (Value.bytes _ _ :: _) _) _ _ _); kfb_any; k_dflt (first
  | (refine fb_call2 (by k_asm) (by k_mem) (picked_tail (by assumption)) (by kfb_size) ?_)
  | (refine fb_call0 (by k_asm) (by k_mem) (by kba_ints2) (by kfb_size) ?_)
  | (refine fb_call1 (by k_asm) (by k_mem) (by kba_ints2) (by kfb_size) ?_)
  | (refine fb_call2 (by k_asm) (by k_mem) (by kba_ints2) (by kfb_size) ?_)); intro _ _))
local macro_rules | `(tactic| walk_at "subscriptTail") => `(tactic| (k_here; (with_reducible show wpAny _ _ (subscriptTail _ _ (Value.bytes _ _) (Value.int _ _)) _ _ _); (with_unfolding_all refine' bytes_item0 ?k1 ?k2 ?_; (case k1 => assumption); (case k2 => exact Nat.le_of_ble_eq_true rfl); k_whole); intro _ _ _ _))
local macro_rules | `(tactic| walk_at "binaryOp LShift int int") => `(tactic| (k_here; (with_reducible show wpAny _ _ (binaryOp _ (Value.int (Builtin.bitAnd _ _) _) _) _ _ _); k_dflt (refine' lshift_int_small ?k1 ?k2 ?k3 ?_; (case k1 => omega); (case k2 => omega); (case k3 => exact mask_small _); k_whole)))
local macro_rules | `(tactic| walk_at "call type:bytes") => `(tactic| (k_here; (with_reducible show wpAny _ _ (call (Value.type "bytes") [Value.bytes _ _]) _ _ _); (refine bytes_of_bytes ?_)))
local macro_rules | `(tactic| walk_at "call builtin:int.to_bytes") => `(tactic| (k_here; k_dflt (first
  | (refine' tb_32 ?h0 ?h1 ?_; (case h0 => first | assumption | omega); (case h1 => first | assumption | omega); k_whole)
  | (refine' tb_32s ?h0 ?h1 ?_; (case h0 => first | assumption | omega); (case h1 => first | assumption | omega); k_whole)
  | (refine' tb_3s ?h0 ?h1 ?_; (case h0 => first | assumption | omega); (case h1 => first | assumption | omega); k_whole; intro _)); intro _ _))
local macro_rules | `(tactic| walk_at "binaryOp Add bytes bytes") => `(tactic| (k_here; k_dflt (refine' bytes_cons_add ?h0 ?h1 ?hb ?hl ?_; (case h0 => omega); (case h1 => omega); (case hb => assumption); (case hl => exact little3_len); k_whole); intro _ _))
local macro_rules | `(tactic| k_mem) => `(tactic| first | with_reducible assumption | exact List.Mem.head _ | assumption | (refine' List.Mem.tail _ ?_; k_mem))
local macro_rules | `(tactic| walk_at "call ref") => `(tactic| (k_here; k_dflt (show wpAny _ _ (call (Value.ref _) [Value.int _ _]) _ _ _); k_dflt (refine' ctn_use (ct_draw _ _ _ _ _ _ _ _ ?k0 ?k1 ?k6 ?k7) ?k2 ?k3 ?k4 ?k5 ?hp ?hh ?kd ?ku ?_; (case k0 => first | assumption | omega); (case k1 => first | assumption | omega); (case k6 => assumption); (case k7 => assumption); (case hp => exact ⟨FnIn.on2 (by assumption) (by k_asm) (by (intro _ h9; repeat (first | exact h9 | refine List.Mem.tail _ ?_ | refine List.mem_append_right _ ?_))), isl_keep (by assumption) (Fr.keep (by k_asm)), _, _, rfl, cell_on2 (by k_asm) (by k_mem), by assumption⟩); (case k2 => k_asm); (case k3 => k_asm); (case k4 => k_asm); (case k5 => k_asm); (case hh => exact rfl); (case kd => ktr_room); (case ku => ktr_units); intro t9 h9 tk9 F9 N9; (try dsimp only); (try k_fold))))
local macro_rules | `(tactic| walk_at "binaryOp FloorDiv int int") => `(tactic| (k_here; k_dflt (refine' floordiv_int ?hb ?_ (Or.inl (PyProof.noPylong_of_log2 (log2_small ?h0 ?h1))); (case hb => omega); (case h0 => omega); (case h1 => assumption); k_whole)))
local macro_rules | `(tactic| walk_at "call ref") => `(tactic| (k_here; k_dflt (show wpAny _ _ (call (Value.ref 101) [Value.bytes (be32 _) _]) _ _ _); k_dflt (refine' ctn_use (ct_bftv _ _ _ ?h0 ?h1) ?k2 ?k3 ?k4 ?k5 ?hp ?hh ?kd ?ku ?_; (case h0 => first | assumption | omega); (case h1 => first | assumption | omega); (case hp => exact True.intro); (case k2 => k_asm); (case k3 => k_asm); (case k4 => k_asm); (case k5 => k_asm); (case hh => exact rfl); (case kd => ktr_room); (case ku => ktr_units); intro t9 h9 tk9 F9 N9; (try dsimp only); (try k_fold))))
set_option maxHeartbeats 4000000 in
theorem seg5 (w : World) (p : Program) (loose : List Str) (mean : ExcName → Option Value) (mg mb : Str → Option Value) (h₀ : Heap) (L fa fd fs ff l : Addr) (vs : List Value) (ns : List Int) (tw : Tok) (m : Str → Option Value) (news : List (Addr × Obj)) (s : Shared) (Q : Flow → Shared → Prop) (E : Value → Shared → Prop)
    (hx : Ctx w p loose mean mg mb h₀ L fd fs ff l vs ns tw news) (F : Fr h₀ L s.heap m) (N : News h₀ L s.heap news) (v : Int) (tv : Tok) (hv0 : 2 ^ 20 ≤ v) (hv1 : v ≤ LIM) (hm : m (Str.ofString "target") = some (.int v tv))
    (hQ : ∀ (t : Tok) (h' : Heap) (tk' : Nat), Fr h₀ L h' (fun z => if z = Str.ofString "start" then some (.bytes (cb v) t) else m z) → News h₀ L h' news → Q .next { s with heap := h', toks := tk' }) :
    wpAny (model PySem.Challenge.rw_fc0027_01.row.prog w) (callerA.deeper (envOfC (Str.ofString "law") lawScope L fa (.ref 134))) (exec (stm 5) (envOfC (Str.ofString "law") lawScope L fa (.ref 134))) Q E s := by
  have X9 := hx.X
  revert X9
  k_fill
  intro X9
  clear X9
  obtain ⟨X, T, B, C, hl, hi, hlen, hbits, ⟨oS, hS, hSd⟩, ⟨oD, hD, hDd⟩, ⟨oW, hW, hWd⟩, hfd, hfs, hff⟩ := hx
  have hfd2 := hfd
  have hfs2 := hfs
  have hff2 := hff
  obtain ⟨dq, ddc, dpm, dcc, dct, doc, dvs, dt, d1, d2, d3, d4⟩ := hfd2
  obtain ⟨sq, sdc, spm, scc, sct, soc, svs, st, s1, s2, s3, s4⟩ := hfs2
  obtain ⟨fq, fdc, fpm, fcc, fct, foc, fvs, ft, f1, f2, f3, f4⟩ := hff2
  rw [names_at (m := m) [(Str.ofString "target", .int v tv)] (List.forall_mem_cons.mpr ⟨hm, fun _ h => nomatch h⟩)] at F hQ
  have p20 : (0 : Int) < 2 ^ 20 := by decide
  have hv2 : 0 < v := Int.lt_of_lt_of_le p20 hv0
  have hv3 := Int.le_of_lt hv2
  have hv4 := lt240 hv1
  have hv5 := lt256 hv1
  conv in stm _ => whnf
  k_steps
  exact hQ _ _ _ (by k_asm) (by k_asm)
set_option maxHeartbeats 4000000 in
theorem seg6 (w : World) (p : Program) (loose : List Str) (mean : ExcName → Option Value) (mg mb : Str → Option Value) (h₀ : Heap) (L fa fd fs ff l : Addr) (vs : List Value) (ns : List Int) (tw : Tok) (m : Str → Option Value) (news : List (Addr × Obj)) (s : Shared) (Q : Flow → Shared → Prop) (E : Value → Shared → Prop)
    (hx : Ctx w p loose mean mg mb h₀ L fd fs ff l vs ns tw news) (F : Fr h₀ L s.heap m) (N : News h₀ L s.heap news) (v : Int) (tv : Tok) (hv0 : 2 ^ 20 ≤ v) (hv1 : v ≤ LIM) (hm : m (Str.ofString "target") = some (.int v tv))
    (hQ : ∀ (u : Int) (t : Tok) (h' : Heap) (tk' : Nat), 2 ^ 19 ≤ u → u ≤ v → Fr h₀ L h' (fun z => if z = Str.ofString "lesser" then some (.bytes (cb u) t) else m z) → News h₀ L h' news → Q .next { s with heap := h', toks := tk' }) :
    wpAny (model PySem.Challenge.rw_fc0027_01.row.prog w) (callerA.deeper (envOfC (Str.ofString "law") lawScope L fa (.ref 134))) (exec (stm 6) (envOfC (Str.ofString "law") lawScope L fa (.ref 134))) Q E s := by
  have X9 := hx.X
  revert X9
  k_fill
  intro X9
  clear X9
  obtain ⟨X, T, B, C, hl, hi, hlen, hbits, ⟨oS, hS, hSd⟩, ⟨oD, hD, hDd⟩, ⟨oW, hW, hWd⟩, hfd, hfs, hff⟩ := hx
  have hfd2 := hfd
  have hfs2 := hfs
  have hff2 := hff
  obtain ⟨dq, ddc, dpm, dcc, dct, doc, dvs, dt, d1, d2, d3, d4⟩ := hfd2
  obtain ⟨sq, sdc, spm, scc, sct, soc, svs, st, s1, s2, s3, s4⟩ := hfs2
  obtain ⟨fq, fdc, fpm, fcc, fct, foc, fvs, ft, f1, f2, f3, f4⟩ := hff2
  rw [names_at (m := m) [(Str.ofString "target", .int v tv)] (List.forall_mem_cons.mpr ⟨hm, fun _ h => nomatch h⟩)] at F hQ
  have p20 : (0 : Int) < 2 ^ 20 := by decide
  have hv2 : 0 < v := Int.lt_of_lt_of_le p20 hv0
  have hv3 := Int.le_of_lt hv2
  have hv4 := lt240 hv1
  have hv5 := lt256 hv1
  have r0 := Int.fmod_nonneg_of_pos (dr ns 4) (show (0 : Int) < 5 by decide)
  have r1 := Int.fmod_lt_of_pos (dr ns 4) (show (0 : Int) < 5 by decide)
  have hu := les (v := v) (r := 2 + (dr ns 4).fmod 5) (by omega) hv0
  have hu0 : 0 < v - v.fdiv (2 + (dr ns 4).fmod 5) := Int.lt_of_lt_of_le (by decide) hu.1
  have hu1 := Int.le_of_lt hu0
  have hu2 := Int.le_trans hu.2 hv1
  have hu3 := lt240 hu2
  have hu4 := lt256 hu2
  have hv6 : v < 2 ^ 300 := Int.lt_of_lt_of_le hv4 (by decide)
  conv in stm _ => whnf
  k_steps
  exact hQ _ _ _ _ hu.1 hu.2 (by k_asm) (by k_asm)
end Mine
namespace Mine
local macro_rules | `(tactic| walk_at "MINE pad") => `(tactic| fail)
theorem top_off_L7 : True := by
  w_top off
  exact True.intro
local macro_rules | `(tactic| k_room) => `(tactic| ktr_room)
local macro_rules | `(tactic| walk_at "MINE enter") => `(tactic| (refine wpAny_call ?_; k_dflt (refine' code_n ?k3 ?k5 ?k6 ?k7 ?k8 ?k9 ?kB ?_ ?c2 ?c3 ?c4 ?c5; (case k3 => k_asm); (case k5 => k_asm); (case k6 => k_is); (case k7 => k_is); (case k8 => ktr_room); (case k9 => first | exact BindsTo.of_eq rfl | exact binds_K (by k_in) rfl (by k_is) rfl rfl rfl | (refine' kp_binds ?kx ?ke; (case kx => k_in); (case ke => exact fun _ => rfl))); (case c5 => decide); (case kB => exact locs rfl); (case c2 => exact rfl); (case c3 => exact rfl); (case c4 => exact rfl); k_whole; intro L' h' F' N'; (try dsimp only); (try k_fold))))
local macro_rules | `(tactic| walk_at "LeaveN") => `(tactic| (k_dflt (refine' leaveN_ ?k1 ?k2 ?_; (case k1 => k_asm); (case k2 => k_asm); k_whole); intro kK kN; (try dsimp only)))
local macro_rules | `(tactic| walk_at "callWith ref") => `(tactic| (k_here; (with_reducible show wpAny _ _ (callWith _ (Value.ref _) [] (backTo _ (starEach (_ :: _) _)) (backToKw _ (keywordEach (_ :: _) _))) _ _ _); kfb_any; k_dflt (refine' callWith_fbKw ?k1 ?_; (case k1 => exact rfl); k_whole)))
local macro_rules | `(tactic| walk_at "callWith") => `(tactic| (k_here; (with_reducible show wpAny _ _ (callWith _ (Value.builtin _) [_] (backTo _ (starEach (_ :: _) _)) (backToKw _ (keywordEach (_ :: _) _))) _ _ _); k_dflt (refine callWith_bKw ?_; k_whole)))
local macro_rules | `(tactic| walk_at "call ref") => `(tactic| (k_here; (with_reducible show wpAny _ _ (call (Value.ref _) (Value.bytes _ _ :: _) _) _ _ _); kfb_any; k_dflt (first
  | (refine fb_call2 (by k_asm) (by k_mem) (picked_tail (by assumption)) (by kfb_size) ?_)
  | (refine fb_call0 (by k_asm) (by k_mem) (by kba_ints2) (by kfb_size) ?_)
  | (refine fb_call1 (by k_asm) (by k_mem) (by kba_ints2) (by kfb_size) ?_)
  | (refine fb_call2 (by k_asm) (by k_mem) (by kba_ints2) (by kfb_size) ?_)); intro _ _))
local macro_rules | `(tactic| walk_at "subscriptTail") => `(tactic| (k_here; (with_reducible show wpAny _ _ (subscriptTail _ _ (Value.bytes _ _) (Value.int _ _)) _ _ _); (with_unfolding_all refine' bytes_item0 ?k1 ?k2 ?_; (case k1 => assumption); (case k2 => exact Nat.le_of_ble_eq_true rfl); k_whole); intro _ _ _ _))
local macro_rules | `(tactic| walk_at "binaryOp LShift int int") => `(tactic| (k_here; (with_reducible show wpAny _ _ (binaryOp _ (Value.int (Builtin.bitAnd _ _) _) _) _ _ _); k_dflt (refine' lshift_int_small ?k1 ?k2 ?k3 ?_; (case k1 => omega); (case k2 => omega); (case k3 => exact mask_small _); k_whole)))
local macro_rules | `(tactic| walk_at "call type:bytes") => `(tactic| (k_here; (with_reducible show wpAny _ _ (call (Value.type "bytes") [Value.bytes _ _]) _ _ _); (refine bytes_of_bytes ?_)))
local macro_rules | `(tactic| walk_at "call builtin:int.to_bytes") => `(tactic| (k_here; k_dflt (first
  | (refine' tb_32 ?h0 ?h1 ?_; (case h0 => first | assumption | omega); (case h1 => first | assumption | omega); k_whole)
  | (refine' tb_32s ?h0 ?h1 ?_; (case h0 => first | assumption | omega); (case h1 => first | assumption | omega); k_whole)
  | (refine' tb_3s ?h0 ?h1 ?_; (case h0 => first | assumption | omega); (case h1 => first | assumption | omega); k_whole; intro _)); intro _ _))
local macro_rules | `(tactic| walk_at "binaryOp Add bytes bytes") => `(tactic| (k_here; k_dflt (refine' bytes_cons_add ?h0 ?h1 ?hb ?hl ?_; (case h0 => omega); (case h1 => omega); (case hb => assumption); (case hl => exact little3_len); k_whole); intro _ _))
local macro_rules | `(tactic| k_mem) => `(tactic| first | with_reducible assumption | exact List.Mem.head _ | assumption | (refine' List.Mem.tail _ ?_; k_mem))
local macro_rules | `(tactic| walk_at "call ref") => `(tactic| (k_here; k_dflt (show wpAny _ _ (call (Value.ref _) [Value.int _ _]) _ _ _); k_dflt (refine' ctn_use (ct_draw _ _ _ _ _ _ _ _ ?k0 ?k1 ?k6 ?k7) ?k2 ?k3 ?k4 ?k5 ?hp ?hh ?kd ?ku ?_; (case k0 => first | assumption | omega); (case k1 => first | assumption | omega); (case k6 => assumption); (case k7 => assumption); (case hp => exact ⟨FnIn.on2 (by assumption) (by k_asm) (by (intro _ h9; repeat (first | exact h9 | refine List.Mem.tail _ ?_ | refine List.mem_append_right _ ?_))), isl_keep (by assumption) (Fr.keep (by k_asm)), _, _, rfl, cell_on2 (by k_asm) (by k_mem), by assumption⟩); (case k2 => k_asm); (case k3 => k_asm); (case k4 => k_asm); (case k5 => k_asm); (case hh => exact rfl); (case kd => ktr_room); (case ku => ktr_units); intro t9 h9 tk9 F9 N9; (try dsimp only); (try k_fold))))
local macro_rules | `(tactic| walk_at "exec Assign cons ListComp") => `(tactic| (k_here; k_dflt (refine LCg.Assign_ListComp_U (F₀ := by k_asm) (by rfl) (by with_unfolding_all rfl) (by with_unfolding_all rfl) (by decide) (by rfl) (by decide) (by rfl) (by rfl) (by rfl) ?_)))
local macro_rules | `(tactic| walk_at "CompSrc") => `(tactic| (refine Stop.mk ?_))
local macro_rules | `(tactic| walk_at "CompEnd") => `(tactic| (refine Stop.mk ?_))
set_option maxHeartbeats 4000000 in
theorem seg7 (w : World) (p : Program) (loose : List Str) (mean : ExcName → Option Value) (mg mb : Str → Option Value) (h₀ : Heap) (L fa fd fs ff l : Addr) (vs : List Value) (ns : List Int) (tw : Tok) (m : Str → Option Value) (news : List (Addr × Obj)) (s : Shared) (Q : Flow → Shared → Prop) (E : Value → Shared → Prop)
    (hx : Ctx w p loose mean mg mb h₀ L fd fs ff l vs ns tw news) (F : Fr h₀ L s.heap m) (N : News h₀ L s.heap news)
    (hQ : ∀ (a : Addr) (us : List Value) (n' : Nat) (ds : List Int) (h' : Heap) (tk' : Nat), IntsAre us ds → ds.length ≤ 5 → Fr h₀ L h' (fun z => if z = Str.ofString "slow" then some (.ref a) else m z) → News h₀ L h' ((a, listOf us.toArray n') :: news) → Q .next { s with heap := h', toks := tk' }) :
    wpAny (model PySem.Challenge.rw_fc0027_01.row.prog w) (callerA.deeper (envOfC (Str.ofString "law") lawScope L fa (.ref 134))) (exec (stm 7) (envOfC (Str.ofString "law") lawScope L fa (.ref 134))) Q E s := by
  have X9 := hx.X
  revert X9
  k_fill
  intro X9
  clear X9
  obtain ⟨X, T, B, C, hl, hi, hlen, hbits, ⟨oS, hS, hSd⟩, ⟨oD, hD, hDd⟩, ⟨oW, hW, hWd⟩, hfd, hfs, hff⟩ := hx
  have hfd2 := hfd
  have hfs2 := hfs
  have hff2 := hff
  obtain ⟨dq, ddc, dpm, dcc, dct, doc, dvs, dt, d1, d2, d3, d4⟩ := hfd2
  obtain ⟨sq, sdc, spm, scc, sct, soc, svs, st, s1, s2, s3, s4⟩ := hfs2
  obtain ⟨fq, fdc, fpm, fcc, fct, foc, fvs, ft, f1, f2, f3, f4⟩ := hff2
  have r0 := Int.fmod_nonneg_of_pos (dr ns 15) (show (0 : Int) < 5 by decide)
  have r1 := Int.fmod_lt_of_pos (dr ns 15) (show (0 : Int) < 5 by decide)
  conv in stm _ => whnf
  k_steps
  refine Stop.out ?_
  refine LCg.CompSrc.range (by rfl) (by k_asm) (by k_asm) (by assumption) (small_one (by omega) (by omega) (by omega) (by omega)) (rangeSize_nat _ _) (by rw [PySem.sizeLine_eq]; omega) ?_
  intro g'
  refine comp_rest (fun i ys => ∃ ds, IntsAre ys ds ∧ ds.length = i) ⟨[], .nil, rfl⟩ ?_ trivial ?_
  · intro i v I oI C oC D m₂ ys h tk E' hin hv hJ hC hx F N off hS
    obtain ⟨tt, rfl⟩ := hv
    have hk0 : (0 : Int) ≤ 0 + i := by omega
    have hk1 : (0 : Int) + i < 5 := by omega
    k_steps
    refine Stop.out ?_
    obtain ⟨ds, hds, hdl⟩ := hJ
    refine comp_end (by k_asm) (by k_asm) (by (refine List.forall_mem_cons.mpr ⟨by k_mem, List.forall_mem_cons.mpr ⟨by k_mem, List.forall_mem_cons.mpr ⟨by k_mem, ?_⟩⟩⟩; (intro _ h9; repeat (first | exact h9 | refine List.Mem.tail _ ?_ | refine List.mem_append_right _ ?_)))) off hS ⟨rfl, ds ++ [_], IntsAre.append hds (.cons _ _ .nil), ?_⟩
    rw [List.length_append, List.length_singleton, hdl]
  · intro ys hJ
    obtain ⟨ds, hds, hdl⟩ := hJ
    k_steps
    exact hQ _ ys _ ds _ _ hds (by omega) (by k_asm) (by k_asm)
end Mine
namespace Mine
theorem top_off_L8 : True := by
  w_top off
  exact True.intro
local macro_rules | `(tactic| k_room) => `(tactic| ktr_room)
local macro_rules | `(tactic| walk_at "MINE enter") => `(tactic| (refine wpAny_call ?_; k_dflt (refine' code_n ?k3 ?k5 ?k6 ?k7 ?k8 ?k9 ?kB ?_ ?c2 ?c3 ?c4 ?c5; (case k3 => k_asm); (case k5 => k_asm); (case k6 => k_is); (case k7 => k_is); (case k8 => ktr_room); (case k9 => first | exact BindsTo.of_eq rfl | exact binds_K (by k_in) rfl (by k_is) rfl rfl rfl | (refine' kp_binds ?kx ?ke; (case kx => k_in); (case ke => exact fun _ => rfl))); (case c5 => decide); (case kB => exact locs rfl); (case c2 => exact rfl); (case c3 => exact rfl); (case c4 => exact rfl); k_whole; intro L' h' F' N'; (try dsimp only); (try k_fold))))
local macro_rules | `(tactic| walk_at "LeaveN") => `(tactic| (k_dflt (refine' leaveN_ ?k1 ?k2 ?_; (case k1 => k_asm); (case k2 => k_asm); k_whole); intro kK kN; (try dsimp only)))
local macro_rules | `(tactic| walk_at "callWith ref") => `(tactic| (k_here; (with_reducible show wpAny _ _ (callWith _ (Value.ref _) [] (backTo _ (starEach (_ :: _) _)) (backToKw _ (keywordEach (_ :: _) _))) _ _ _); kfb_any; k_dflt (refine' callWith_fbKw ?k1 ?_; (case k1 => exact rfl); k_whole)))
local macro_rules | `(tactic| walk_at "callWith") => `(tactic| (k_here; (with_reducible show wpAny _ _ (callWith _ (Value.builtin _) [_] (backTo _ (starEach (_ :: _) _)) (backToKw _ (keywordEach (_ :: _) _))) _ _ _); k_dflt (refine callWith_bKw ?_; k_whole)))
local macro_rules | `(tactic| walk_at "call ref") => `(tactic| (k_here; (with_reducible show wpAny _ _ (call (Value.ref _) (Value.bytes _ _ :: _) _) _ _ _); kfb_any; k_dflt (first
  | (refine fb_call2 (by k_asm) (by k_mem) (picked_tail (by assumption)) (by kfb_size) ?_)
  | (refine fb_call0 (by k_asm) (by k_mem) (by kba_ints2) (by kfb_size) ?_)
  | (refine fb_call1 (by k_asm) (by k_mem) (by kba_ints2) (by kfb_size) ?_)
  | (refine fb_call2 (by k_asm) (by k_mem) (by kba_ints2) (by kfb_size) ?_)); intro _ _))
local macro_rules | `(tactic| walk_at "subscriptTail") => `(tactic| (k_here; (with_reducible show wpAny _ _ (subscriptTail _ _ (Value.bytes _ _) (Value.int _ _)) _ _ _); (with_unfolding_all refine' bytes_item0 ?k1 ?k2 ?_; (case k1 => assumption); (case k2 => exact Nat.le_of_ble_eq_true rfl); k_whole); intro _ _ _ _))
local macro_rules | `(tactic| walk_at "binaryOp LShift int int") => `(tactic| (k_here; (with_reducible show wpAny _ _ (binaryOp _ (Value.int (Builtin.bitAnd _ _) _) _) _ _ _); k_dflt (refine' lshift_int_small ?k1 ?k2 ?k3 ?_; (case k1 => omega); (case k2 => omega); (case k3 => exact mask_small _); k_whole)))
local macro_rules | `(tactic| walk_at "call type:bytes") => `(tactic| (k_here; (with_reducible show wpAny _ _ (call (Value.type "bytes") [Value.bytes _ _]) _ _ _); (refine bytes_of_bytes ?_)))
local macro_rules | `(tactic| walk_at "call builtin:int.to_bytes") => `(tactic| (k_here; k_dflt (first
  | (refine' tb_32 ?h0 ?h1 ?_; (case h0 => first | assumption | omega); (case h1 => first | assumption | omega); k_whole)
  | (refine' tb_32s ?h0 ?h1 ?_; (case h0 => first | assumption | omega); (case h1 => first | assumption | omega); k_whole)
  | (refine' tb_3s ?h0 ?h1 ?_; (case h0 => first | assumption | omega); (case h1 => first | assumption | omega); k_whole; intro _)); intro _ _))
local macro_rules | `(tactic| walk_at "binaryOp Add bytes bytes") => `(tactic| (k_here; k_dflt (refine' bytes_cons_add ?h0 ?h1 ?hb ?hl ?_; (case h0 => omega); (case h1 => omega); (case hb => assumption); (case hl => exact little3_len); k_whole); intro _ _))
local macro_rules | `(tactic| k_mem) => `(tactic| first | with_reducible assumption | exact List.Mem.head _ | assumption | (refine' List.Mem.tail _ ?_; k_mem))
local macro_rules | `(tactic| walk_at "call ref") => `(tactic| (k_here; k_dflt (show wpAny _ _ (call (Value.ref _) [Value.int _ _]) _ _ _); k_dflt (refine' ctn_use (ct_draw _ _ _ _ _ _ _ _ ?k0 ?k1 ?k6 ?k7) ?k2 ?k3 ?k4 ?k5 ?hp ?hh ?kd ?ku ?_; (case k0 => first | assumption | omega); (case k1 => first | assumption | omega); (case k6 => assumption); (case k7 => assumption); (case hp => exact ⟨FnIn.on2 (by assumption) (by k_asm) (by (intro _ h9; repeat (first | exact h9 | refine List.Mem.tail _ ?_ | refine List.mem_append_right _ ?_))), isl_keep (by assumption) (Fr.keep (by k_asm)), _, _, rfl, cell_on2 (by k_asm) (by k_mem), by assumption⟩); (case k2 => k_asm); (case k3 => k_asm); (case k4 => k_asm); (case k5 => k_asm); (case hh => exact rfl); (case kd => ktr_room); (case ku => ktr_units); intro t9 h9 tk9 F9 N9; (try dsimp only); (try k_fold))))
local macro_rules | `(tactic| walk_at "exec Assign cons ListComp") => `(tactic| (k_here; k_dflt (refine LCg.Assign_ListComp_U (F₀ := by k_asm) (by rfl) (by with_unfolding_all rfl) (by with_unfolding_all rfl) (by decide) (by rfl) (by decide) (by rfl) (by rfl) (by rfl) ?_)))
local macro_rules | `(tactic| walk_at "CompSrc") => `(tactic| (refine Stop.mk ?_))
local macro_rules | `(tactic| walk_at "CompEnd") => `(tactic| (refine Stop.mk ?_))
local macro_rules | `(tactic| walk_at "exec Assign cons ListComp") => `(tactic| (k_here; k_dflt (refine Assign_E (h₀ := ?hh0) (L := ?hL) (m := ?hmm) (by rfl) (by with_unfolding_all rfl) (by with_unfolding_all rfl) (by decide) (by rfl) (by decide) (by rfl) (by rfl) (by decide) (by rfl) (by rfl) (by rfl) ?_)))
local macro_rules | `(tactic| walk_at "call type:enumerate") => `(tactic| (refine Stop.mk ?_))
local macro_rules | `(tactic| walk_at "exists") => `(tactic| (refine Stop.mk ?_))
local macro_rules | `(tactic| walk_at "Exists") => `(tactic| (refine Stop.mk ?_))
/-- spans never longer -/
inductive Dom : List Int → List Int → Prop where
  | nil : Dom [] []
  | cons {a b : Int} {r s : List Int} : a ≤ b → Dom r s → Dom (a :: r) (b :: s)
theorem Dom.snoc {a b : Int} (h : a ≤ b) : ∀ {r s : List Int}, Dom r s → Dom (r ++ [a]) (s ++ [b])
  | _, _, .nil => .cons h .nil
  | _, _, .cons h1 h2 => .cons h1 (h2.snoc h)
theorem Dom.length : ∀ {r s : List Int}, Dom r s → r.length = s.length
  | _, _, .nil => rfl
  | _, _, .cons _ h2 => by rw [List.length_cons, List.length_cons, h2.length]
theorem menu_nn {a b : Int} (k : Nat) (ha : 0 ≤ a) (hb : 0 ≤ b) : 0 ≤ [a, 1, b, 0].getD k 0 := by
  match k with
  | 0 => exact ha
  | 1 => exact Int.one_nonneg
  | 2 => exact hb
  | 3 => exact Int.le_refl 0
  | k + 4 => exact Int.le_refl 0
set_option maxHeartbeats 4000000 in
theorem seg8 (w : World) (p : Program) (loose : List Str) (mean : ExcName → Option Value) (mg mb : Str → Option Value) (h₀ : Heap) (L fa fd fs ff l : Addr) (vs : List Value) (ns : List Int) (tw : Tok) (m : Str → Option Value) (news : List (Addr × Obj)) (s : Shared) (Q : Flow → Shared → Prop) (E : Value → Shared → Prop)
    (hx : Ctx w p loose mean mg mb h₀ L fd fs ff l vs ns tw news) (F : Fr h₀ L s.heap m) (N : News h₀ L s.heap news) (a : Addr) (us : List Value) (na : Nat) (ds : List Int) (hds : IntsAre us ds) (hdl : ds.length ≤ 5) (ham : (a, listOf us.toArray na) ∈ news) (hm : m (Str.ofString "slow") = some (.ref a))
    (hQ : ∀ (b : Addr) (ws : List Value) (n' : Nat) (qs : List Int) (h' : Heap) (tk' : Nat), IntsAre ws qs → Dom qs ds → Fr h₀ L h' (fun z => if z = Str.ofString "quick" then some (.ref b) else m z) → News h₀ L h' ((b, listOf ws.toArray n') :: news) → Q .next { s with heap := h', toks := tk' }) :
    wpAny (model PySem.Challenge.rw_fc0027_01.row.prog w) (callerA.deeper (envOfC (Str.ofString "law") lawScope L fa (.ref 134))) (exec (stm 8) (envOfC (Str.ofString "law") lawScope L fa (.ref 134))) Q E s := by
  have X9 := hx.X
  revert X9
  k_fill
  intro X9
  clear X9
  obtain ⟨X, T, B, C, hl, hi, hlen, hbits, ⟨oS, hS, hSd⟩, ⟨oD, hD, hDd⟩, ⟨oW, hW, hWd⟩, hfd, hfs, hff⟩ := hx
  have hfd2 := hfd
  have hfs2 := hfs
  have hff2 := hff
  obtain ⟨dq, ddc, dpm, dcc, dct, doc, dvs, dt, d1, d2, d3, d4⟩ := hfd2
  obtain ⟨sq, sdc, spm, scc, sct, soc, svs, st, s1, s2, s3, s4⟩ := hfs2
  obtain ⟨fq, fdc, fpm, fcc, fct, foc, fvs, ft, f1, f2, f3, f4⟩ := hff2
  rw [names_at (m := m) [(Str.ofString "slow", .ref a)] (List.forall_mem_cons.mpr ⟨hm, fun _ h => nomatch h⟩)] at F hQ
  conv in stm _ => whnf
  refine Assign_E (h₀ := h₀) (L := L) (m := chainM [(Str.ofString "slow", .ref a)] m) (by rfl) (by with_unfolding_all rfl) (by with_unfolding_all rfl) (by decide) (by rfl) (by decide) (by rfl) (by rfl) (by decide) (by rfl) (by rfl) (by rfl) ?_
  k_steps
  refine Stop.out ?_
  have hls : s.heap.IsList a us.toArray := ⟨_, (N _ ham).1, rfl, na, rfl⟩
  refine call_enumerate_list hls fun h5 hen hit hsz5 hk5 => ?_
  have hfr : ∀ z, s.heap.objs.size ≤ z → h₀.get? z = none := fun z hz => by
    cases q : h₀.get? z with
    | none => rfl
    | some o' => exact absurd (Heap.lt_size (F.keep z o' q)) (Nat.not_lt.mpr hz)
  have hLlt := F.ns.lt
  have hoff : ∀ p ∈ news, p.1 ≠ s.heap.objs.size + 1 ∧ p.1 ≠ s.heap.objs.size := fun p hp => by
    have := Heap.lt_size (N p hp).1
    exact ⟨Nat.ne_of_lt (Nat.lt_succ_of_lt this), Nat.ne_of_lt this⟩
  refine ⟨s.heap.objs.size + 1, s.heap.objs.size, a, us.toArray, na, news, fun i ys => ∃ qs, IntsAre ys qs ∧ Dom qs (ds.take i), rfl, by rw [PySem.sizeLine_eq, List.size_toArray, hds.length]; omega, ham, Nat.succ_ne_self _, hen, hit, F.keeps hk5, N.grown hk5, Nat.ne_of_lt (Nat.lt_succ_of_lt hLlt), Nat.ne_of_lt hLlt, hfr _ (Nat.le_succ _), hfr _ (Nat.le_refl _), hoff, ⟨[], .nil, .nil⟩, ?_, ?_⟩
  · intro i t v e it C1 D oE oI oC m₂ ys h tk E' hv hJ hC hx1 hx2 F5 N5
    obtain ⟨kk, tt, rfl, hkk⟩ := IntsAre.at hds i v (by simpa using hv)
    have hi5 : i < 5 := Nat.lt_of_lt_of_le (List.getElem?_eq_some_iff.mp hkk).1 hdl
    clear hen hit hsz5 hk5 hoff hls
    k_steps
    refine Stop.out ?_
    obtain ⟨qs, hq1, hq2⟩ := hJ
    refine ⟨_, _, rfl, by k_asm, news_sub (by k_asm) (by (intro _ h9; repeat (first | exact h9 | refine List.Mem.tail _ ?_ | refine List.mem_append_right _ ?_))), qs ++ [_], IntsAre.append hq1 (.cons _ _ .nil), ?_⟩
    have htk : ds.take (i + 1) = ds.take i ++ [kk] := by rw [List.take_add_one, hkk]; rfl
    rw [htk]
    refine Dom.snoc ?_ hq2
    have := menu_nn (((dr ns (21 + (i : Int))).fmod 4).toNat) (Int.fmod_nonneg_of_pos (dr ns (16 + (i : Int)) * 7919) (show (0 : Int) < Int.fdiv 1209600 8 by decide)) (Int.fmod_nonneg_of_pos (dr ns (16 + (i : Int)) * 104729) (show (0 : Int) < 1209600 by decide))
    omega
  · rintro ys ⟨qs, hq1, hq2⟩
    rw [List.size_toArray, hds.length, List.take_length] at hq2
    intro D h' tk' F5 N5 _
    exact hQ D ys _ qs h' tk' hq1 hq2 F5 N5
end Mine
namespace Mine
theorem chain_in : ∀ (r : List Int) (v : Int) (k : Nat), (2 : Int) ^ (k + 2 * r.length) ≤ v → v ≤ LIM → ∀ x ∈ chain v r, (2 : Int) ^ k ≤ x ∧ x ≤ LIM
  | [], _, _, _, _, _, hx => nomatch hx
  | e :: r, v, k, h, h1, x, hx => by
    have hv : 0 < v := Int.lt_of_lt_of_le (pow_pos2 _) h
    rw [List.length_cons, show k + 2 * (r.length + 1) = (k + 2 * r.length) + 2 by omega] at h
    have hs := stp_low e _ h h1
    have hs1 := stp_le e hv h1
    rcases List.mem_cons.mp hx with rfl | hx
    · exact ⟨Int.le_trans (pow_mono2 (by omega)) hs, hs1⟩
    · exact chain_in r (stp v e) k hs hs1 x hx
theorem chain_mono : ∀ {qs ds : List Int}, Dom qs ds → ∀ {v y : Int}, (2 : Int) ^ (2 * qs.length) ≤ v → v ≤ y → y ≤ LIM → ∀ {i : Nat} {x z : Int}, (chain v qs)[i]? = some x → (chain y ds)[i]? = some z → x ≤ z
  | _, _, .nil, _, _, _, _, _, _, _, _, hx, _ => nomatch hx
  | _, _, .cons (a := e) (b := d) (r := r) (s := t) hde hr, v, y, h, hvy, hy, i, x, z, hx, hz => by
    have hv : 0 < v := Int.lt_of_lt_of_le (pow_pos2 _) h
    rw [List.length_cons, show 2 * (r.length + 1) = (2 * r.length) + 2 by omega] at h
    have hs := stp_low e _ h (Int.le_trans hvy hy)
    have hm := stp_mono hv hvy hy hde
    have hl := stp_le d (Int.lt_of_lt_of_le hv hvy) hy
    cases i with
    | zero =>
      cases hx
      cases hz
      exact hm
    | succ i => exact chain_mono hr hs hm hl hx hz
theorem Dom.refl : ∀ (r : List Int), Dom r r
  | [] => .nil
  | _ :: r => .cons (Int.le_refl _) (Dom.refl r)
theorem chain_clamp : ∀ (r : List Int) (v : Int), chain v (r.map clampq) = chain v r
  | [], _ => rfl
  | e :: r, v => by
    show stp v (clampq e) :: chain (stp v (clampq e)) (r.map clampq) = stp v e :: chain (stp v e) r
    have : stp v (clampq e) = stp v e := nx_clamp _ _
    rw [this, chain_clamp]
theorem BL.at {vs : List Value} {ks : List Int} (h : BL vs ks) {i : Nat} (hi : i < ks.length) : ∃ x t, ks[i]? = some x ∧ vs[i]? = some (.bytes (cb x) t) := by
  have hl := h.length
  have hv : vs[i]? = some vs[i] := List.getElem?_eq_getElem (by omega)
  induction h generalizing i with
  | nil => exact absurd hi (Nat.not_lt_zero _)
  | cons h ih =>
    cases i with
    | zero => exact ⟨_, _, rfl, rfl⟩
    | succ i =>
      have hl' := h.length
      exact ih (i := i) (Nat.lt_of_succ_lt_succ hi) hl' (List.getElem?_eq_getElem _)
theorem chain_get {v : Int} {r : List Int} {i : Nat} (hi : i < r.length) : ∃ x, (chain v r)[i]? = some x :=
  ⟨_, List.getElem?_eq_getElem (by rw [chain_length]; exact hi)⟩
/-- the sum of works is no less where the targets are no greater -/
theorem wk_sum : ∀ {ks js : List Int}, ks.length = js.length → (∀ x ∈ ks, 0 < x) → (∀ (i : Nat) x z, ks[i]? = some x → js[i]? = some z → x ≤ z) → (js.map wk).sum ≤ (ks.map wk).sum
  | [], [], _, _, _ => Int.le_refl _
  | [], _ :: _, h, _, _ => by cases h
  | _ :: _, [], h, _, _ => by cases h
  | x :: ks, z :: js, h, hp, hm => by
    have h1 := wk_sum (Nat.succ.inj h) (fun y hy => hp y (.tail _ hy)) (fun i a b ha hb => hm (i + 1) a b ha hb)
    have h2 := wk_anti (hp x (.head _)) (hm 0 x z rfl rfl)
    simp only [List.map_cons, List.sum_cons]
    omega
end Mine
namespace Mine
theorem top_off_L9 : True := by
  w_top off
  exact True.intro
local macro_rules | `(tactic| k_room) => `(tactic| ktr_room)
local macro_rules | `(tactic| walk_at "MINE enter") => `(tactic| (refine wpAny_call ?_; k_dflt (refine' code_n ?k3 ?k5 ?k6 ?k7 ?k8 ?k9 ?kB ?_ ?c2 ?c3 ?c4 ?c5; (case k3 => k_asm); (case k5 => k_asm); (case k6 => k_is); (case k7 => k_is); (case k8 => ktr_room); (case k9 => first | exact BindsTo.of_eq rfl | exact binds_K (by k_in) rfl (by k_is) rfl rfl rfl | (refine' kp_binds ?kx ?ke; (case kx => k_in); (case ke => exact fun _ => rfl))); (case c5 => decide); (case kB => exact locs rfl); (case c2 => exact rfl); (case c3 => exact rfl); (case c4 => exact rfl); k_whole; intro L' h' F' N'; (try dsimp only); (try k_fold))))
local macro_rules | `(tactic| walk_at "LeaveN") => `(tactic| (k_dflt (refine' leaveN_ ?k1 ?k2 ?_; (case k1 => k_asm); (case k2 => k_asm); k_whole); intro kK kN; (try dsimp only)))
local macro_rules | `(tactic| walk_at "callWith ref") => `(tactic| (k_here; (with_reducible show wpAny _ _ (callWith _ (Value.ref _) [] (backTo _ (starEach (_ :: _) _)) (backToKw _ (keywordEach (_ :: _) _))) _ _ _); kfb_any; k_dflt (refine' callWith_fbKw ?k1 ?_; (case k1 => exact rfl); k_whole)))
local macro_rules | `(tactic| walk_at "callWith") => `(tactic| (k_here; (with_reducible show wpAny _ _ (callWith _ (Value.builtin _) [_] (backTo _ (starEach (_ :: _) _)) (backToKw _ (keywordEach (_ :: _) _))) _ _ _); k_dflt (refine callWith_bKw ?_; k_whole)))
local macro_rules | `(tactic| walk_at "call ref") => `(tactic| (k_here; (with_reducible show wpAny _ _ (call (Value.ref _) (Value.bytes _ _ :: _) _) _ _ _); kfb_any; k_dflt (first
  | (refine fb_call2 (by k_asm) (by k_mem) (picked_tail (by assumption)) (by kfb_size) ?_)
  | (refine fb_call0 (by k_asm) (by k_mem) (by kba_ints2) (by kfb_size) ?_)
  | (refine fb_call1 (by k_asm) (by k_mem) (by kba_ints2) (by kfb_size) ?_)
  | (refine fb_call2 (by k_asm) (by k_mem) (by kba_ints2) (by kfb_size) ?_)); intro _ _))
local macro_rules | `(tactic| walk_at "subscriptTail") => `(tactic| (k_here; (with_reducible show wpAny _ _ (subscriptTail _ _ (Value.bytes _ _) (Value.int _ _)) _ _ _); (with_unfolding_all refine' bytes_item0 ?k1 ?k2 ?_; (case k1 => assumption); (case k2 => exact Nat.le_of_ble_eq_true rfl); k_whole); intro _ _ _ _))
local macro_rules | `(tactic| walk_at "binaryOp LShift int int") => `(tactic| (k_here; (with_reducible show wpAny _ _ (binaryOp _ (Value.int (Builtin.bitAnd _ _) _) _) _ _ _); k_dflt (refine' lshift_int_small ?k1 ?k2 ?k3 ?_; (case k1 => omega); (case k2 => omega); (case k3 => exact mask_small _); k_whole)))
local macro_rules | `(tactic| walk_at "call type:bytes") => `(tactic| (k_here; (with_reducible show wpAny _ _ (call (Value.type "bytes") [Value.bytes _ _]) _ _ _); (refine bytes_of_bytes ?_)))
local macro_rules | `(tactic| walk_at "call builtin:int.to_bytes") => `(tactic| (k_here; k_dflt (first
  | (refine' tb_32 ?h0 ?h1 ?_; (case h0 => first | assumption | omega); (case h1 => first | assumption | omega); k_whole)
  | (refine' tb_32s ?h0 ?h1 ?_; (case h0 => first | assumption | omega); (case h1 => first | assumption | omega); k_whole)
  | (refine' tb_3s ?h0 ?h1 ?_; (case h0 => first | assumption | omega); (case h1 => first | assumption | omega); k_whole; intro _)); intro _ _))
local macro_rules | `(tactic| walk_at "binaryOp Add bytes bytes") => `(tactic| (k_here; k_dflt (refine' bytes_cons_add ?h0 ?h1 ?hb ?hl ?_; (case h0 => omega); (case h1 => omega); (case hb => assumption); (case hl => exact little3_len); k_whole); intro _ _))
local macro_rules | `(tactic| k_mem) => `(tactic| first | with_reducible assumption | exact List.Mem.head _ | assumption | (refine' List.Mem.tail _ ?_; k_mem))
local macro_rules | `(tactic| walk_at "call ref") => `(tactic| (k_here; k_dflt (show wpAny _ _ (call (Value.ref _) [Value.bytes (cb _) _, Value.ref _]) _ _ _); k_dflt (refine' ctf_use (ct_follow _ _ _ _ _ _ _ ?hi ?h63 ?hv ?h1) ?k2 ?k3 ?k4 ?k5 ?hp ?hh ?kd ?ku ?_; (case k2 => k_asm); (case k3 => k_asm); (case k4 => k_asm); (case k5 => k_asm); (case hp => exact ⟨FnIn.on2 (by assumption) (by k_asm) (by (intro _ h9; repeat (first | exact h9 | refine List.Mem.tail _ ?_ | refine List.mem_append_right _ ?_))), isl_of (by k_asm) (by k_mem)⟩); (case hi => assumption); (case h63 => omega); (case hv => assumption); (case h1 => assumption); (case hh => exact rfl); (case kd => ktr_room); (case ku => ktr_units); intro l9 us9 n9 h9 tk9 F9 N9 hB9; (try dsimp only); (try k_fold))))
set_option maxHeartbeats 4000000 in
theorem seg9 (w : World) (p : Program) (loose : List Str) (mean : ExcName → Option Value) (mg mb : Str → Option Value) (h₀ : Heap) (L fa fd fs ff l : Addr) (vs : List Value) (ns : List Int) (tw : Tok) (m : Str → Option Value) (news : List (Addr × Obj)) (s : Shared) (Q : Flow → Shared → Prop) (E : Value → Shared → Prop)
    (hx : Ctx w p loose mean mg mb h₀ L fd fs ff l vs ns tw news) (F : Fr h₀ L s.heap m) (N : News h₀ L s.heap news) (v u : Int) (tv tu : Tok) (hv0 : 2 ^ 20 ≤ v) (hv1 : v ≤ LIM) (hu0 : 2 ^ 19 ≤ u) (huv : u ≤ v) (a : Addr) (us : List Value) (na : Nat) (ds : List Int) (hds : IntsAre us ds) (hdl : ds.length ≤ 5) (ham : (a, listOf us.toArray na) ∈ news) (b : Addr) (ws : List Value) (nb : Nat) (qs : List Int) (hqs : IntsAre ws qs) (hql : qs.length ≤ 5) (hbm : (b, listOf ws.toArray nb) ∈ news)
    (hm1 : m (Str.ofString "slow") = some (.ref a)) (hm2 : m (Str.ofString "quick") = some (.ref b)) (hm3 : m (Str.ofString "start") = some (.bytes (cb v) tv)) (hm4 : m (Str.ofString "lesser") = some (.bytes (cb u) tu)) (hm5 : m (Str.ofString "follow") = some (.ref ff))
    (hQ : ∀ (a1 a2 a3 : Addr) (u1 u2 u3 : List Value) (n1 n2 n3 : Nat) (h' : Heap) (tk' : Nat), BL u1 (chain v ds) → BL u2 (chain v qs) → BL u3 (chain u ds) → Fr h₀ L h' (fun z => if z = Str.ofString "first" then some (.ref a1) else if z = Str.ofString "second" then some (.ref a2) else if z = Str.ofString "third" then some (.ref a3) else m z) →
      News h₀ L h' ((a3, listOf u3.toArray n3) :: (a2, listOf u2.toArray n2) :: (a1, listOf u1.toArray n1) :: news) → Q .next { s with heap := h', toks := tk' }) :
    wpAny (model PySem.Challenge.rw_fc0027_01.row.prog w) (callerA.deeper (envOfC (Str.ofString "law") lawScope L fa (.ref 134))) (exec (stm 9) (envOfC (Str.ofString "law") lawScope L fa (.ref 134))) Q E s := by
  have X9 := hx.X
  revert X9
  k_fill
  intro X9
  clear X9
  obtain ⟨X, T, B, C, hl, hi, hlen, hbits, ⟨oS, hS, hSd⟩, ⟨oD, hD, hDd⟩, ⟨oW, hW, hWd⟩, hfd, hfs, hff⟩ := hx
  have hfd2 := hfd
  have hfs2 := hfs
  have hff2 := hff
  obtain ⟨dq, ddc, dpm, dcc, dct, doc, dvs, dt, d1, d2, d3, d4⟩ := hfd2
  obtain ⟨sq, sdc, spm, scc, sct, soc, svs, st, s1, s2, s3, s4⟩ := hfs2
  obtain ⟨fq, fdc, fpm, fcc, fct, foc, fvs, ft, f1, f2, f3, f4⟩ := hff2
  rw [names_at (m := m) [(Str.ofString "slow", .ref a), (Str.ofString "quick", .ref b), (Str.ofString "start", .bytes (cb v) tv), (Str.ofString "lesser", .bytes (cb u) tu), (Str.ofString "follow", .ref ff)] (List.forall_mem_cons.mpr ⟨hm1, List.forall_mem_cons.mpr ⟨hm2, List.forall_mem_cons.mpr ⟨hm3, List.forall_mem_cons.mpr ⟨hm4, List.forall_mem_cons.mpr ⟨hm5, fun _ h => nomatch h⟩⟩⟩⟩⟩)] at F hQ
  have p12 : (2 : Int) ^ 12 ≤ 2 ^ 19 := by decide
  have p19 : (2 : Int) ^ 19 ≤ 2 ^ 20 := by decide
  have hw1 : (2 : Int) ^ (2 + 2 * ds.length) ≤ v := Int.le_trans (pow_mono2 (show 2 + 2 * ds.length ≤ 12 by omega)) (Int.le_trans p12 (Int.le_trans p19 hv0))
  have hw2 : (2 : Int) ^ (2 + 2 * qs.length) ≤ v := Int.le_trans (pow_mono2 (show 2 + 2 * qs.length ≤ 12 by omega)) (Int.le_trans p12 (Int.le_trans p19 hv0))
  have hw3 : (2 : Int) ^ (2 + 2 * ds.length) ≤ u := Int.le_trans (pow_mono2 (show 2 + 2 * ds.length ≤ 12 by omega)) (Int.le_trans p12 hu0)
  have hu1 : u ≤ LIM := Int.le_trans huv hv1
  conv in stm _ => whnf
  k_steps
  exact hQ _ _ _ _ _ _ _ _ _ _ _ (by assumption) (by assumption) (by assumption) (by k_asm) (news_sub (by k_asm) (by (intro _ h9; repeat (first | exact h9 | refine List.Mem.tail _ ?_ | refine List.mem_append_right _ ?_))))
end Mine
namespace Mine
local macro_rules | `(tactic| walk_at "MINE pad") => `(tactic| fail)
theorem top_off_L10 : True := by
  w_top off
  exact True.intro
local macro_rules | `(tactic| k_room) => `(tactic| ktr_room)
local macro_rules | `(tactic| walk_at "MINE enter") => `(tactic| (refine wpAny_call ?_; k_dflt (refine' code_n ?k3 ?k5 ?k6 ?k7 ?k8 ?k9 ?kB ?_ ?c2 ?c3 ?c4 ?c5; (case k3 => k_asm); (case k5 => k_asm); (case k6 => k_is); (case k7 => k_is); (case k8 => ktr_room); (case k9 => first | exact BindsTo.of_eq rfl | exact binds_K (by k_in) rfl (by k_is) rfl rfl rfl | (refine' kp_binds ?kx ?ke; (case kx => k_in); (case ke => exact fun _ => rfl))); (case c5 => decide); (case kB => exact locs rfl); (case c2 => exact rfl); (case c3 => exact rfl); (case c4 => exact rfl); k_whole; intro L' h' F' N'; (try dsimp only); (try k_fold))))
local macro_rules | `(tactic| walk_at "LeaveN") => `(tactic| (k_dflt (refine' leaveN_ ?k1 ?k2 ?_; (case k1 => k_asm); (case k2 => k_asm); k_whole); intro kK kN; (try dsimp only)))
local macro_rules | `(tactic| walk_at "callWith ref") => `(tactic| (k_here; (with_reducible show wpAny _ _ (callWith _ (Value.ref _) [] (backTo _ (starEach (_ :: _) _)) (backToKw _ (keywordEach (_ :: _) _))) _ _ _); kfb_any; k_dflt (refine' callWith_fbKw ?k1 ?_; (case k1 => exact rfl); k_whole)))
local macro_rules | `(tactic| walk_at "callWith") => `(tactic| (k_here; (with_reducible show wpAny _ _ (callWith _ (Value.builtin _) [_] (backTo _ (starEach (_ :: _) _)) (backToKw _ (keywordEach (_ :: _) _))) _ _ _); k_dflt (refine callWith_bKw ?_; k_whole)))
local macro_rules | `(tactic| walk_at "call ref") => `(tactic| (k_here; (with_reducible show wpAny _ _ (call (Value.ref _) (Value.bytes _ _ :: _) _) _ _ _); kfb_any; k_dflt (first
  | (refine fb_call2 (by k_asm) (by k_mem) (picked_tail (by assumption)) (by kfb_size) ?_)
  | (refine fb_call0 (by k_asm) (by k_mem) (by kba_ints2) (by kfb_size) ?_)
  | (refine fb_call1 (by k_asm) (by k_mem) (by kba_ints2) (by kfb_size) ?_)
  | (refine fb_call2 (by k_asm) (by k_mem) (by kba_ints2) (by kfb_size) ?_)); intro _ _))
local macro_rules | `(tactic| walk_at "subscriptTail") => `(tactic| (k_here; (with_reducible show wpAny _ _ (subscriptTail _ _ (Value.bytes _ _) (Value.int _ _)) _ _ _); (with_unfolding_all refine' bytes_item0 ?k1 ?k2 ?_; (case k1 => assumption); (case k2 => exact Nat.le_of_ble_eq_true rfl); k_whole); intro _ _ _ _))
local macro_rules | `(tactic| walk_at "binaryOp LShift int int") => `(tactic| (k_here; (with_reducible show wpAny _ _ (binaryOp _ (Value.int (Builtin.bitAnd _ _) _) _) _ _ _); k_dflt (refine' lshift_int_small ?k1 ?k2 ?k3 ?_; (case k1 => omega); (case k2 => omega); (case k3 => exact mask_small _); k_whole)))
local macro_rules | `(tactic| walk_at "call type:bytes") => `(tactic| (k_here; (with_reducible show wpAny _ _ (call (Value.type "bytes") [Value.bytes _ _]) _ _ _); (refine bytes_of_bytes ?_)))
local macro_rules | `(tactic| walk_at "call builtin:int.to_bytes") => `(tactic| (k_here; k_dflt (first
  | (refine' tb_32 ?h0 ?h1 ?_; (case h0 => first | assumption | omega); (case h1 => first | assumption | omega); k_whole)
  | (refine' tb_32s ?h0 ?h1 ?_; (case h0 => first | assumption | omega); (case h1 => first | assumption | omega); k_whole)
  | (refine' tb_3s ?h0 ?h1 ?_; (case h0 => first | assumption | omega); (case h1 => first | assumption | omega); k_whole; intro _)); intro _ _))
local macro_rules | `(tactic| walk_at "binaryOp Add bytes bytes") => `(tactic| (k_here; k_dflt (refine' bytes_cons_add ?h0 ?h1 ?hb ?hl ?_; (case h0 => omega); (case h1 => omega); (case hb => assumption); (case hl => exact little3_len); k_whole); intro _ _))
local macro_rules | `(tactic| k_mem) => `(tactic| first | with_reducible assumption | exact List.Mem.head _ | assumption | (refine' List.Mem.tail _ ?_; k_mem) | (refine' List.mem_append_right _ ?_; k_mem))
local macro_rules | `(tactic| walk_at "call ref") => `(tactic| (k_here; k_dflt (show wpAny _ _ (call (Value.ref _) [Value.bytes (cb _) _]) _ _ _); k_dflt (refine' ctn_use (ct_size _ _ _ _ ?h0 ?h1) ?k2 ?k3 ?k4 ?k5 ?hp ?hh ?kd ?ku ?_; (case h0 => first | assumption | omega); (case h1 => first | assumption | omega); (case hp => exact ⟨FnIn.on2 (by assumption) (by k_asm) (by (intro _ h9; repeat (first | exact h9 | refine List.Mem.tail _ ?_ | refine List.mem_append_right _ ?_))), True.intro⟩); (case k2 => k_asm); (case k3 => k_asm); (case k4 => k_asm); (case k5 => k_asm); (case hh => exact rfl); (case kd => ktr_room); (case ku => ktr_units); intro t9 h9 tk9 F9 N9; (try dsimp only); (try k_fold))))
local macro_rules | `(tactic| walk_at "call ref") => `(tactic| (k_here; k_dflt (show wpAny _ _ (call (Value.ref 116) [Value.bytes (cb _) _]) _ _ _); k_dflt (refine' ctn_use (ct_work _ _ _ ?h0 ?h1) ?k2 ?k3 ?k4 ?k5 ?hp ?hh ?kd ?ku ?_; (case h0 => first | assumption | omega); (case h1 => first | assumption | omega); (case hp => exact True.intro); (case k2 => k_asm); (case k3 => k_asm); (case k4 => k_asm); (case k5 => k_asm); (case hh => exact rfl); (case kd => ktr_room); (case ku => ktr_units); intro t9 h9 tk9 F9 N9; (try dsimp only); (try k_fold))))
local macro_rules | `(tactic| walk_at "subscriptTail") => `(tactic| (k_here; k_dflt (refine' PyProof.Rows.item_list (isl_of (by k_asm) (by k_mem)) ?h0 ?h1 ?hx ?_ ?hs ?hg; (case h0 => omega); (case h1 => omega); (case hx => assumption); (case hs => with_unfolding_all rfl); (case hg => (intro _; with_unfolding_all rfl)); k_whole)))
local macro_rules | `(tactic| walk_at "call builtin:len") => `(tactic| (k_here; k_dflt (refine' PyProof.Rows.len_list (isl_of (by k_asm) (by k_mem)) ?hf ?_; (case hf => assumption); k_whole)))
local macro_rules | `(tactic| walk_at "exec For Name Call cons nil") => `(tactic| (k_here; (rename Fr _ _ _ _ => lF'); (with_unfolding_all refine' For_invVF lF' ?k1 ?k2 ?_; (case k1 => exact rfl); (case k2 => exact rfl); k_whole)))
local macro_rules | `(tactic| walk_at "pyIter ref") => `(tactic| (refine Stop.mk ?_))
local macro_rules | `(tactic| walk_at "TurnPost") => `(tactic| (refine Stop.mk ?_))
local macro_rules | `(tactic| walk_at "TurnEnd") => `(tactic| (refine Stop.mk ?_))
set_option maxHeartbeats 8000000 in
theorem seg10 (w : World) (p : Program) (loose : List Str) (mean : ExcName → Option Value) (mg mb : Str → Option Value) (h₀ : Heap) (L fa fd fs ff l : Addr) (vs : List Value) (ns : List Int) (tw : Tok) (m : Str → Option Value) (news : List (Addr × Obj)) (s : Shared) (Q : Flow → Shared → Prop) (E : Value → Shared → Prop)
    (hx : Ctx w p loose mean mg mb h₀ L fd fs ff l vs ns tw news) (F : Fr h₀ L s.heap m) (N : News h₀ L s.heap news) (v u : Int) (hv0 : 2 ^ 20 ≤ v) (hv1 : v ≤ LIM) (hu0 : 2 ^ 19 ≤ u) (huv : u ≤ v) (a : Addr) (us : List Value) (na : Nat) (ds qs : List Int) (hds : IntsAre us ds) (hdl : ds.length ≤ 5) (hdom : Dom qs ds) (ham : (a, listOf us.toArray na) ∈ news)
    (a1 a2 a3 : Addr) (u1 u2 u3 : List Value) (n1 n2 n3 : Nat) (hb1 : BL u1 (chain v ds)) (hb2 : BL u2 (chain v qs)) (hb3 : BL u3 (chain u ds)) (hc1 : (a1, listOf u1.toArray n1) ∈ news) (hc2 : (a2, listOf u2.toArray n2) ∈ news) (hc3 : (a3, listOf u3.toArray n3) ∈ news)
    (hE : PassesOwn (model PySem.Challenge.rw_fc0027_01.row.prog w) (callerA.deeper (envOfC (Str.ofString "law") lawScope L fa (.ref 134))) (envOfC (Str.ofString "law") lawScope L fa (.ref 134)) E) (hm1 : m (Str.ofString "slow") = some (.ref a)) (hm2 : m (Str.ofString "first") = some (.ref a1)) (hm3 : m (Str.ofString "second") = some (.ref a2)) (hm4 : m (Str.ofString "third") = some (.ref a3)) (hm5 : m (Str.ofString "size") = some (.ref fs))
    (hQ : ∀ (mk : Option Value) (h' : Heap) (tk' : Nat), Fr h₀ L h' (fun z => if z = Str.ofString "k" then mk else m z) → News h₀ L h' news → Q .next { s with heap := h', toks := tk' }) :
    wpAny (model PySem.Challenge.rw_fc0027_01.row.prog w) (callerA.deeper (envOfC (Str.ofString "law") lawScope L fa (.ref 134))) (exec (stm 10) (envOfC (Str.ofString "law") lawScope L fa (.ref 134))) Q E s := by
  have X9 := hx.X
  revert X9
  k_fill
  intro X9
  clear X9
  obtain ⟨X, T, B, C, hl, hi, hlen, hbits, ⟨oS, hS, hSd⟩, ⟨oD, hD, hDd⟩, ⟨oW, hW, hWd⟩, hfd, hfs, hff⟩ := hx
  have hfd2 := hfd
  have hfs2 := hfs
  have hff2 := hff
  obtain ⟨dq, ddc, dpm, dcc, dct, doc, dvs, dt, d1, d2, d3, d4⟩ := hfd2
  obtain ⟨sq, sdc, spm, scc, sct, soc, svs, st, s1, s2, s3, s4⟩ := hfs2
  obtain ⟨fq, fdc, fpm, fcc, fct, foc, fvs, ft, f1, f2, f3, f4⟩ := hff2
  rw [names_at (m := m) [(Str.ofString "slow", .ref a), (Str.ofString "first", .ref a1), (Str.ofString "second", .ref a2), (Str.ofString "third", .ref a3), (Str.ofString "size", .ref fs)] (List.forall_mem_cons.mpr ⟨hm1, List.forall_mem_cons.mpr ⟨hm2, List.forall_mem_cons.mpr ⟨hm3, List.forall_mem_cons.mpr ⟨hm4, List.forall_mem_cons.mpr ⟨hm5, fun _ h => nomatch h⟩⟩⟩⟩⟩)] at F hQ
  have hul := hds.length
  have hsz : us.toArray.size = ds.length := by rw [List.size_toArray, hul]
  have hql : qs.length ≤ 5 := by rw [hdom.length]; exact hdl
  have p12 : (2 : Int) ^ 12 ≤ 2 ^ 19 := by decide
  have p19 : (2 : Int) ^ 19 ≤ 2 ^ 20 := by decide
  have hw1 : (2 : Int) ^ (2 + 2 * ds.length) ≤ v := Int.le_trans (pow_mono2 (show 2 + 2 * ds.length ≤ 12 by omega)) (Int.le_trans p12 (Int.le_trans p19 hv0))
  have hw2 : (2 : Int) ^ (2 + 2 * qs.length) ≤ v := Int.le_trans (pow_mono2 (show 2 + 2 * qs.length ≤ 12 by omega)) (Int.le_trans p12 (Int.le_trans p19 hv0))
  have hw3 : (2 : Int) ^ (2 + 2 * ds.length) ≤ u := Int.le_trans (pow_mono2 (show 2 + 2 * ds.length ≤ 12 by omega)) (Int.le_trans p12 hu0)
  have hu1 : u ≤ LIM := Int.le_trans huv hv1
  have hszf : ((us.toArray.size : Nat) : Int) < 2 ^ 63 := by omega
  have hdlS : Stop (ds.length ≤ 5) := hdl
  clear hdl hql
  conv in stm _ => whnf
  k_steps
  refine Stop.out ?_
  replace hdl : ds.length ≤ 5 := hdlS
  have hql : qs.length ≤ 5 := by rw [hdom.length]; exact hdl
  (with_unfolding_all refine' iter_rangeLaw [] ?r1 ?r2 ?r3 (rangeSize_nat _ _) ?r5 ?r6 ?r7 ?r8)
  case r1 => rfl
  case r2 => assumption
  case r5 => k_asm
  case r6 => k_asm
  case r3 => exact small_one (by omega) (by omega) (by omega) (by omega)
  · intro k t uu h tk own hk0 hk1 F5 N5
    have hkd : k.toNat < ds.length := by omega
    have hkq : k.toNat < qs.length := by rw [hdom.length]; exact hkd
    obtain ⟨x1, t1, e1, g1⟩ := hb1.at (i := k.toNat) (by rw [chain_length]; exact hkd)
    obtain ⟨x2, t2, e2, g2⟩ := hb2.at (i := k.toNat) (by rw [chain_length]; exact hkq)
    obtain ⟨x3, t3, e3, g3⟩ := hb3.at (i := k.toNat) (by rw [chain_length]; exact hkd)
    have i1 := chain_in ds v 2 hw1 hv1 x1 (List.mem_of_getElem? e1)
    have i2 := chain_in qs v 2 hw2 hv1 x2 (List.mem_of_getElem? e2)
    have i3 := chain_in ds u 2 hw3 hu1 x3 (List.mem_of_getElem? e3)
    have p4 : (0 : Int) < 2 ^ 2 := by decide
    have y1 := Int.lt_of_lt_of_le p4 i1.1
    have y2 := Int.lt_of_lt_of_le p4 i2.1
    have y3 := Int.lt_of_lt_of_le p4 i3.1
    have z1 := i1.2
    have z2 := i2.2
    have z3 := i3.2
    have c21 : x2 ≤ x1 := chain_mono hdom (Int.le_trans (pow_mono2 (by omega)) hw2) (Int.le_refl _) hv1 e2 e1
    have c31 : x3 ≤ x1 := chain_mono (Dom.refl ds) (Int.le_trans (pow_mono2 (by omega)) hw3) huv hv1 e3 e1
    have s21 := tr_mono y2 c21
    have s31 := tr_mono y3 c31
    have w21 := wk_anti y2 c21
    have w31 := wk_anti y3 c31
    have q1 : u1.toArray[k.toNat]? = some (.bytes (cb x1) t1) := by simpa using g1
    have q2 : u2.toArray[k.toNat]? = some (.bytes (cb x2) t2) := by simpa using g2
    have q3 : u3.toArray[k.toNat]? = some (.bytes (cb x3) t3) := by simpa using g3
    clear i1 i2 i3 e1 e2 e3 g1 g2 g3
    simp only [List.contains_nil, Bool.false_eq_true, if_false] at F5
    k_steps
    refine Stop.out ?_
    exact TurnEnd.intro (by k_asm) (by k_asm) (fun _ h => h) (fun z h1 _ => by simp [h1])
  · intro uu h tk F5 N5
    simp only [List.contains_nil, Bool.false_eq_true, if_false] at F5
    refine hQ (uu (Str.ofString "k")) h tk ?_ N5
    have e : (fun z => if z = Str.ofString "k" then uu (Str.ofString "k") else chainM [(Str.ofString "slow", Value.ref a), (Str.ofString "first", .ref a1), (Str.ofString "second", .ref a2), (Str.ofString "third", .ref a3), (Str.ofString "size", .ref fs)] m z) = (fun z => if z = Str.ofString "k" then uu z else chainM [(Str.ofString "slow", Value.ref a), (Str.ofString "first", .ref a1), (Str.ofString "second", .ref a2), (Str.ofString "third", .ref a3), (Str.ofString "size", .ref fs)] m z) := by
      funext z
      by_cases h1 : z = Str.ofString "k"
      · rw [h1]
      · rw [if_neg h1, if_neg h1]
    rw [e]
    exact F5
end Mine
namespace Mine
theorem top_off_L12 : True := by
  w_top off
  exact True.intro
local macro_rules | `(tactic| k_room) => `(tactic| ktr_room)
local macro_rules | `(tactic| walk_at "MINE enter") => `(tactic| (refine wpAny_call ?_; k_dflt (refine' code_n ?k3 ?k5 ?k6 ?k7 ?k8 ?k9 ?kB ?_ ?c2 ?c3 ?c4 ?c5; (case k3 => k_asm); (case k5 => k_asm); (case k6 => k_is); (case k7 => k_is); (case k8 => ktr_room); (case k9 => first | exact BindsTo.of_eq rfl | exact binds_K (by k_in) rfl (by k_is) rfl rfl rfl | (refine' kp_binds ?kx ?ke; (case kx => k_in); (case ke => exact fun _ => rfl))); (case c5 => decide); (case kB => exact locs rfl); (case c2 => exact rfl); (case c3 => exact rfl); (case c4 => exact rfl); k_whole; intro L' h' F' N'; (try dsimp only); (try k_fold))))
local macro_rules | `(tactic| walk_at "LeaveN") => `(tactic| (k_dflt (refine' leaveN_ ?k1 ?k2 ?_; (case k1 => k_asm); (case k2 => k_asm); k_whole); intro kK kN; (try dsimp only)))
local macro_rules | `(tactic| walk_at "callWith ref") => `(tactic| (k_here; (with_reducible show wpAny _ _ (callWith _ (Value.ref _) [] (backTo _ (starEach (_ :: _) _)) (backToKw _ (keywordEach (_ :: _) _))) _ _ _); kfb_any; k_dflt (refine' callWith_fbKw ?k1 ?_; (case k1 => exact rfl); k_whole)))
local macro_rules | `(tactic| walk_at "callWith") => `(tactic| (k_here; (with_reducible show wpAny _ _ (callWith _ (Value.builtin _) [_] (backTo _ (starEach (_ :: _) _)) (backToKw _ (keywordEach (_ :: _) _))) _ _ _); k_dflt (refine callWith_bKw ?_; k_whole)))
local macro_rules | `(tactic| walk_at "call ref") => `(tactic| (k_here; (with_reducible show wpAny _ _ (call (Value.ref _) (Value.bytes _ _ :: _) _) _ _ _); kfb_any; k_dflt (first
  | (refine fb_call2 (by k_asm) (by k_mem) (picked_tail (by assumption)) (by kfb_size) ?_)
  | (refine fb_call0 (by k_asm) (by k_mem) (by kba_ints2) (by kfb_size) ?_)
  | (refine fb_call1 (by k_asm) (by k_mem) (by kba_ints2) (by kfb_size) ?_)
  | (refine fb_call2 (by k_asm) (by k_mem) (by kba_ints2) (by kfb_size) ?_)); intro _ _))
local macro_rules | `(tactic| walk_at "subscriptTail") => `(tactic| (k_here; (with_reducible show wpAny _ _ (subscriptTail _ _ (Value.bytes _ _) (Value.int _ _)) _ _ _); (with_unfolding_all refine' bytes_item0 ?k1 ?k2 ?_; (case k1 => assumption); (case k2 => exact Nat.le_of_ble_eq_true rfl); k_whole); intro _ _ _ _))
local macro_rules | `(tactic| walk_at "binaryOp LShift int int") => `(tactic| (k_here; (with_reducible show wpAny _ _ (binaryOp _ (Value.int (Builtin.bitAnd _ _) _) _) _ _ _); k_dflt (refine' lshift_int_small ?k1 ?k2 ?k3 ?_; (case k1 => omega); (case k2 => omega); (case k3 => exact mask_small _); k_whole)))
local macro_rules | `(tactic| walk_at "call type:bytes") => `(tactic| (k_here; (with_reducible show wpAny _ _ (call (Value.type "bytes") [Value.bytes _ _]) _ _ _); (refine bytes_of_bytes ?_)))
local macro_rules | `(tactic| walk_at "call builtin:int.to_bytes") => `(tactic| (k_here; k_dflt (first
  | (refine' tb_32 ?h0 ?h1 ?_; (case h0 => first | assumption | omega); (case h1 => first | assumption | omega); k_whole)
  | (refine' tb_32s ?h0 ?h1 ?_; (case h0 => first | assumption | omega); (case h1 => first | assumption | omega); k_whole)
  | (refine' tb_3s ?h0 ?h1 ?_; (case h0 => first | assumption | omega); (case h1 => first | assumption | omega); k_whole; intro _)); intro _ _))
local macro_rules | `(tactic| walk_at "binaryOp Add bytes bytes") => `(tactic| (k_here; k_dflt (refine' bytes_cons_add ?h0 ?h1 ?hb ?hl ?_; (case h0 => omega); (case h1 => omega); (case hb => assumption); (case hl => exact little3_len); k_whole); intro _ _))
local macro_rules | `(tactic| k_mem) => `(tactic| first | with_reducible assumption | exact List.Mem.head _ | assumption | (refine' List.Mem.tail _ ?_; k_mem))
local macro_rules | `(tactic| walk_at "exec Assign cons ListComp") => `(tactic| (k_here; k_dflt (refine LCg.Assign_ListComp_U (F₀ := by k_asm) (by rfl) (by with_unfolding_all rfl) (by with_unfolding_all rfl) (by decide) (by rfl) (by decide) (by rfl) (by rfl) (by rfl) ?_)))
local macro_rules | `(tactic| walk_at "CompSrc") => `(tactic| (refine Stop.mk ?_))
local macro_rules | `(tactic| walk_at "CompEnd") => `(tactic| (refine Stop.mk ?_))
theorem clampq2 (d : Int) : (if 4 * 1209600 < (if Int.fdiv 1209600 4 > d then Int.fdiv 1209600 4 else d) then 4 * 1209600 else (if Int.fdiv 1209600 4 > d then Int.fdiv 1209600 4 else d)) = clampq d := by
  unfold clampq
  rw [show (1209600 * 4 : Int) = 4 * 1209600 by decide]
set_option maxHeartbeats 4000000 in
theorem seg12 (w : World) (p : Program) (loose : List Str) (mean : ExcName → Option Value) (mg mb : Str → Option Value) (h₀ : Heap) (L fa fd fs ff l : Addr) (vs : List Value) (ns : List Int) (tw : Tok) (m : Str → Option Value) (news : List (Addr × Obj)) (s : Shared) (Q : Flow → Shared → Prop) (E : Value → Shared → Prop)
    (hx : Ctx w p loose mean mg mb h₀ L fd fs ff l vs ns tw news) (F : Fr h₀ L s.heap m) (N : News h₀ L s.heap news) (a : Addr) (us : List Value) (na : Nat) (ds : List Int) (hds : IntsAre us ds) (hdl : ds.length ≤ 5) (ham : (a, listOf us.toArray na) ∈ news) (hm : m (Str.ofString "slow") = some (.ref a))
    (hQ : ∀ (b : Addr) (ws : List Value) (n' : Nat) (h' : Heap) (tk' : Nat), IntsAre ws (ds.map clampq) → Fr h₀ L h' (fun z => if z = Str.ofString "bounded" then some (.ref b) else m z) → News h₀ L h' ((b, listOf ws.toArray n') :: news) → Q .next { s with heap := h', toks := tk' }) :
    wpAny (model PySem.Challenge.rw_fc0027_01.row.prog w) (callerA.deeper (envOfC (Str.ofString "law") lawScope L fa (.ref 134))) (exec (stm 12) (envOfC (Str.ofString "law") lawScope L fa (.ref 134))) Q E s := by
  have X9 := hx.X
  revert X9
  k_fill
  intro X9
  clear X9
  obtain ⟨X, T, B, C, hl, hi, hlen, hbits, ⟨oS, hS, hSd⟩, ⟨oD, hD, hDd⟩, ⟨oW, hW, hWd⟩, hfd, hfs, hff⟩ := hx
  have hfd2 := hfd
  have hfs2 := hfs
  have hff2 := hff
  obtain ⟨dq, ddc, dpm, dcc, dct, doc, dvs, dt, d1, d2, d3, d4⟩ := hfd2
  obtain ⟨sq, sdc, spm, scc, sct, soc, svs, st, s1, s2, s3, s4⟩ := hfs2
  obtain ⟨fq, fdc, fpm, fcc, fct, foc, fvs, ft, f1, f2, f3, f4⟩ := hff2
  rw [names_at (m := m) [(Str.ofString "slow", .ref a)] (List.forall_mem_cons.mpr ⟨hm, fun _ h => nomatch h⟩)] at F hQ
  conv in stm _ => whnf
  k_steps
  refine Stop.out ?_
  refine LCg.CompSrc.ledger (by rfl) (by k_asm) (by k_asm) (show (a, ({ cls := .type "list", data := .seq us.toArray na } : Obj)) ∈ news from ham) (by rw [PySem.sizeLine_eq, List.size_toArray, hds.length]; omega) ?_
  intro g'
  refine comp_rest (fun i ys => IntsAre ys ((ds.take i).map clampq)) .nil ?_ (.inr ⟨_, ham, rfl, _, rfl⟩) ?_
  · intro i v I oI C1 oC D m₂ ys h tk E' hin hv hJ hC hx1 F5 N5 off hS
    obtain ⟨kk, tt, rfl, hkk⟩ := IntsAre.at hds i v (by simpa using hv)
    have htk : ds.take (i + 1) = ds.take i ++ [kk] := by rw [List.take_add_one, hkk]; rfl
    k_steps
    all_goals (
      refine Stop.out ?_
      refine comp_end (by k_asm) (by k_asm) (by (refine List.forall_mem_cons.mpr ⟨by k_mem, List.forall_mem_cons.mpr ⟨by k_mem, List.forall_mem_cons.mpr ⟨by k_mem, ?_⟩⟩⟩; (intro _ h9; repeat (first | exact h9 | refine List.Mem.tail _ ?_ | refine List.mem_append_right _ ?_)))) off hS ⟨rfl, ?_⟩
      rw [htk, List.map_append]
      refine IntsAre.append hJ ?_)
    rw [show [kk].map clampq = [clampq kk] from rfl, ← clampq2]
    exact .cons _ _ .nil
  · intro ys hJ
    rw [List.size_toArray, hds.length, List.take_length] at hJ
    k_steps
    exact hQ _ ys _ _ _ hJ (by k_asm) (by k_asm)
end Mine
namespace Mine
theorem top_off_G2 : True := by
  w_top off
  exact True.intro
local macro_rules | `(tactic| k_room) => `(tactic| ktr_room)
local macro_rules | `(tactic| walk_at "MINE enter") => `(tactic| (refine wpAny_call ?_; k_dflt (refine' code_n ?k3 ?k5 ?k6 ?k7 ?k8 ?k9 ?kB ?_ ?c2 ?c3 ?c4 ?c5; (case k3 => k_asm); (case k5 => k_asm); (case k6 => k_is); (case k7 => k_is); (case k8 => ktr_room); (case k9 => first | exact BindsTo.of_eq rfl | exact binds_K (by k_in) rfl (by k_is) rfl rfl rfl | (refine' kp_binds ?kx ?ke; (case kx => k_in); (case ke => exact fun _ => rfl))); (case c5 => decide); (case kB => exact locs rfl); (case c2 => exact rfl); (case c3 => exact rfl); (case c4 => exact rfl); k_whole; intro L' h' F' N'; (try dsimp only); (try k_fold))))
local macro_rules | `(tactic| walk_at "LeaveN") => `(tactic| (k_dflt (refine' leaveN_ ?k1 ?k2 ?_; (case k1 => k_asm); (case k2 => k_asm); k_whole); intro kK kN; (try dsimp only)))
local macro_rules | `(tactic| walk_at "callWith ref") => `(tactic| (k_here; (with_reducible show wpAny _ _ (callWith _ (Value.ref _) [] (backTo _ (starEach (_ :: _) _)) (backToKw _ (keywordEach (_ :: _) _))) _ _ _); kfb_any; k_dflt (refine' callWith_fbKw ?k1 ?_; (case k1 => exact rfl); k_whole)))
local macro_rules | `(tactic| walk_at "callWith") => `(tactic| (k_here; (with_reducible show wpAny _ _ (callWith _ (Value.builtin _) [_] (backTo _ (starEach (_ :: _) _)) (backToKw _ (keywordEach (_ :: _) _))) _ _ _); k_dflt (refine callWith_bKw ?_; k_whole)))
local macro_rules | `(tactic| walk_at "call ref") => `(tactic| (k_here; (with_reducible show wpAny _ _ (call (Value.ref _) (Value.bytes _ _ :: _) _) _ _ _); kfb_any; k_dflt (first
  | (refine fb_call2 (by k_asm) (by k_mem) (picked_tail (by assumption)) (by kfb_size) ?_)
  | (refine fb_call0 (by k_asm) (by k_mem) (by kba_ints2) (by kfb_size) ?_)
  | (refine fb_call1 (by k_asm) (by k_mem) (by kba_ints2) (by kfb_size) ?_)
  | (refine fb_call2 (by k_asm) (by k_mem) (by kba_ints2) (by kfb_size) ?_)); intro _ _))
local macro_rules | `(tactic| walk_at "subscriptTail") => `(tactic| (k_here; (with_reducible show wpAny _ _ (subscriptTail _ _ (Value.bytes _ _) (Value.int _ _)) _ _ _); (with_unfolding_all refine' bytes_item0 ?k1 ?k2 ?_; (case k1 => assumption); (case k2 => exact Nat.le_of_ble_eq_true rfl); k_whole); intro _ _ _ _))
local macro_rules | `(tactic| walk_at "binaryOp LShift int int") => `(tactic| (k_here; (with_reducible show wpAny _ _ (binaryOp _ (Value.int (Builtin.bitAnd _ _) _) _) _ _ _); k_dflt (refine' lshift_int_small ?k1 ?k2 ?k3 ?_; (case k1 => omega); (case k2 => omega); (case k3 => exact mask_small _); k_whole)))
local macro_rules | `(tactic| walk_at "call type:bytes") => `(tactic| (k_here; (with_reducible show wpAny _ _ (call (Value.type "bytes") [Value.bytes _ _]) _ _ _); (refine bytes_of_bytes ?_)))
local macro_rules | `(tactic| walk_at "call builtin:int.to_bytes") => `(tactic| (k_here; k_dflt (first
  | (refine' tb_32 ?h0 ?h1 ?_; (case h0 => first | assumption | omega); (case h1 => first | assumption | omega); k_whole)
  | (refine' tb_32s ?h0 ?h1 ?_; (case h0 => first | assumption | omega); (case h1 => first | assumption | omega); k_whole)
  | (refine' tb_3s ?h0 ?h1 ?_; (case h0 => first | assumption | omega); (case h1 => first | assumption | omega); k_whole; intro _)); intro _ _))
local macro_rules | `(tactic| walk_at "binaryOp Add bytes bytes") => `(tactic| (k_here; k_dflt (refine' bytes_cons_add ?h0 ?h1 ?hb ?hl ?_; (case h0 => omega); (case h1 => omega); (case hb => assumption); (case hl => exact little3_len); k_whole); intro _ _))
local macro_rules | `(tactic| walk_at "call ref") => `(tactic| (k_here; k_dflt (show wpAny _ _ (call (Value.ref 80) [Value.ref _]) _ _ _); k_dflt (refine' ctn_use (ct_isoct _ _ _) ?k2 ?k3 ?k4 ?k5 ?hp ?hh ?kd ?ku ?_; (case hp => exact isl_keep (by assumption) (Fr.keep (by assumption))); (case k2 => k_asm); (case k3 => k_asm); (case k4 => k_asm); (case k5 => k_asm); (case hh => exact rfl); (case kd => ktr_room); (case ku => ktr_units); intro t9 h9 tk9 F9 N9; (try dsimp only); (try k_fold))))
local macro_rules | `(tactic| walk_at "eval GeneratorExp") => `(tactic| (refine Stop.mk ?_))
local macro_rules | `(tactic| walk_at "call builtin:sum") => `(tactic| (refine Stop.mk ?_))
local macro_rules | `(tactic| walk_at "eval Name") => `(tactic| (k_here; (with_reducible show wpAny _ _ (eval (Expr.Name _ _) (genEnv _ _ _ _ _ _)) _ _ _); k_dflt (first
  | (refine' wpAny_Name (wpAny_loadName_local ?k4 ?k5 (Fr.ns ?k1) ?k2 ?_) ?k7; (case k1 => assumption); (case k4 => rfl); (case k5 => rfl); (case k7 => decide); (case k2 => assumption); k_whole)
  | (refine' nameG_K ?k1 ?k2 ?k3 ?k8 ?_ ?k4 ?k5 ?k6 ?k7; (case k4 => rfl); (case k5 => rfl); (case k6 => rfl); (case k7 => decide); (case k1 => assumption); (case k2 => k_asm); (case k3 => k_asm); (case k8 => k_is); k_whole))))
local macro_rules | `(tactic| walk_at "call ref") => `(tactic| (k_here; k_dflt (show wpAny _ _ (call (Value.ref 116) [Value.bytes (cb _) _]) _ _ _); refine Stop.mk ?_))
theorem ctn_at {w : World} {d : Nat} {pre : Heap → Prop} {f : Addr} {vs : List Value} {kw : List (Str × Value)} {R : Tok → Value} (C : CtN w d pre f vs kw R) {p : Program} {loose : List Str} {mean : ExcName → Option Value} {mg mb : Str → Option Value} {A : Around}
    {h₀ : Heap} {s : Shared} {Q E : Value → Shared → Prop}
    (X : (hd.heap_39 w.params).In h₀) (T : Top p loose mean mg mb h₀) (k : ∀ b o, h₀.get? b = some o → s.heap.get? b = some o) (hp : pre s.heap) (hh : A.handled = none)
    (hd : A.depth + d < recursionLimit) (hu : A.units + 20 * d < cLine) (hret : ∀ (t : Tok) (h' : Heap) (tk' : Nat), (∀ b o, s.heap.get? b = some o → h'.get? b = some o) → Q (R t) { s with heap := h', toks := tk' }) :
    wpAny (model PySem.Challenge.rw_fc0027_01.row.prog w) A (call (.ref f) vs kw) Q E s := by
  obtain ⟨hd', dp, fr, gd, un⟩ := A
  dsimp only at hh
  subst hh
  exact C _ _ _ _ _ _ _ _ _ _ _ _ (X.keeps k) (T.keeps k) hp hd hu hret
theorem BL.get {v : Value} : ∀ {vs : List Value} {ks : List Int} (i : Nat), BL vs ks → vs[i]? = some v → ∃ k t, ks[i]? = some k ∧ v = .bytes (cb k) t
  | _, _, 0, .cons h, e => by
    cases e
    exact ⟨_, _, rfl, rfl⟩
  | _, _, i + 1, .cons h, e => BL.get i h e
def genPos : Pos := ⟨99, 15, 99, 59⟩
/-- what chain_work asks and hands back -/
abbrev CtC (w : World) (l : Addr) (vs : List Value) (ks : List Int) : Prop :=
  ∀ (p : Program) (loose : List Str) (mean : ExcName → Option Value) (mg mb : Str → Option Value) (dp un : Nat) (fr : Option (List Env)) (gd : Option (List Code)) (g : Heap) (ps : Array Value) (s : Shared) (Q E : Value → Shared → Prop),
    (hd.heap_39 w.params).In g → Top p loose mean mg mb g → g.get? 118 = none → (∀ b o, g.get? b = some o → s.heap.get? b = some o) → s.heap.get? 118 = some (tabObj ps) → CwTab genPos ps → s.heap.IsList l vs.toArray → AllBare s.gens →
    dp + 20 < recursionLimit → un + 400 < cLine →
    (∀ (t : Tok) (ps' : Array Value) (s' : Shared), AllBare s'.gens → s'.os = s.os → (∀ b o, b ≠ 118 → s.heap.get? b = some o → s'.heap.get? b = some o) → s'.heap.get? 118 = some (tabObj ps') → CwTab genPos ps' → Q (.int (ks.map wk).sum t) s') →
    wpAny (model PySem.Challenge.rw_fc0027_01.row.prog w) { handled := none, depth := dp, frames := fr, guards := gd, units := un } (call (.ref 123) [.ref l]) Q E s
set_option maxHeartbeats 4000000 in
theorem ct_chain (w : World) (l : Addr) (vs : List Value) (ks : List Int) (hb : BL vs ks) (hks : ∀ k ∈ ks, 0 < k ∧ k ≤ 65535 * 256 ^ 26) : CtC w l vs ks := by
  unfold CtC
  k_fill
  intro p loose mean mg mb dp un fr gd g ps s Q E Xg Tg hg hgk hP hps hl hG hd hu hret
  have X := (Xg.keeps hgk)
  have T := (Tg.keeps hgk)
  refine wpAny_call ?_
  k_dflt (refine' code_c ?k3 ?k5 ?k6 ?k7 ?k8 ?k9 ?kB ?_ ?c2 ?c3 ?c4 ?c5; (case k3 => exact X); (case k5 => exact T); (case k6 => k_is); (case k7 => k_is); (case k8 => ktr_room); (case k9 => first | exact BindsTo.of_eq rfl | exact binds_K (by k_in) rfl (by k_is) rfl rfl rfl); (case c5 => decide); (case kB => exact locs rfl); (case c2 => exact rfl); (case c3 => exact rfl); (case c4 => exact rfl); k_whole)
  intro L' h' F0 _
  have F' := ghost_frame (P := 118) F0
  have N' := ghost_tab F0 hP
  have X' := (Xg.keeps (ghost_keep hg hgk))
  have T' := (Tg.keeps (ghost_keep hg hgk))
  have hl' := ghost_isl hP hl
  clear X T Xg Tg F0
  (try dsimp only)
  (try k_fold)
  k_steps
  refine Stop.out ?_
  rename Fr _ _ _ _ => F5
  rename News _ _ _ _ => N5
  have hgl := isl_keep hl' F5.keep
  have hP5 := (N5 _ (.head _)).1
  obtain ⟨bm, ob, M⟩ := bmod_of_top T'
  refine gen_blocks (c := 122) (P := 118) (l := l) rfl rfl rfl (by decide +kernel) rfl rfl rfl ?_ rfl (codeHd_of_K (c := 122) (P := 118) X' (by kernel_rfl)) (hideAll_none _ (.head _)) M T'.nolimit F5 hP5 hps hgl hG ?_ (fun i => (ks.map wk).getD i 0) ?_ ?_ (fun _ => rfl)
  · ktr_room
  · intro Q' hQ'
    k_steps
    exact hQ'
  · intro code CL A' E' i v s₂ m₂ hA hdp hun hv hk2 hab hn hm
    have Fb : Fr (ghost s.heap 118) CL s₂.heap m₂ := ⟨hn, hk2, hab⟩
    have Nb : News (ghost s.heap 118) CL s₂.heap [] := News.nil
    rw [List.getElem?_toArray] at hv
    obtain ⟨kk, tt, hkk, rfl⟩ := hb.get i hv
    clear F5 N5 F' N'
    have hkm : kk ∈ ks := List.mem_of_getElem? hkk
    obtain ⟨hk0, hk1⟩ := hks kk hkm
    k_steps
    refine Stop.out ?_
    have hval : (ks.map wk).getD i 0 = wk kk := by
      rw [List.getD_eq_getElem?_getD, List.getElem?_map, hkk]
      rfl
    have hdp' : A'.depth ≤ dp + 2 := hdp
    have hun' : A'.units ≤ un + 40 := by
      have h8 := hun
      simp only [Around.deeper] at h8
      omega
    refine ctn_at (ct_work w kk tt hk0 hk1) X' T' hk2 True.intro hA (by omega) (by omega) fun t h'' tk'' hk => ?_
    rw [hval]
    exact ⟨.inl ⟨t, rfl⟩, h'', tk'', rfl, hk⟩
  · intro a s₅ ps' X5 F6 G6 hos hk5 hP6 hps6
    have N6 : News (ghost s.heap 118) L' s₅.heap [] := News.nil
    have hLlt := F5.ns.lt
    have h118 := Heap.lt_size hP5
    have hgF := F5.keep
    clear F5 N5 F' N'
    k_steps
    refine Stop.out ?_
    have hsz : vs.toArray.size = (ks.map wk).length := by rw [List.size_toArray, hb.length, List.length_map]
    rw [hsz] at X5
    refine sum_blocks F6 G6 (Nat.le_sub_one_of_lt hLlt) X5 fun s' t' F7 G7 hos7 hk7 => ?_
    refine hret t' ps' s' G7 (hos7.trans hos) (fun b o hbne e => ?_) (hk7 _ _ (Nat.le_sub_one_of_lt h118) hP6) hps6
    have e9 := hgF b o (hideAll_get _ e fun q => hbne (List.mem_singleton.mp q))
    exact hk7 b o (Nat.le_sub_one_of_lt (Heap.lt_size e9)) (hk5 b o hbne e9)
end Mine
namespace Mine
theorem cw_use {w : World} {l : Addr} {vs : List Value} {ks : List Int} (C : CtC w l vs ks) {p : Program} {loose : List Str} {mean : ExcName → Option Value} {mg mb : Str → Option Value} {A : Around} {h₀ : Heap} {L : Addr} {m : Str → Option Value} {ps : Array Value} {n : Nat} {rest : List (Addr × Obj)} {s : Shared} {Q E : Value → Shared → Prop}
    (F : Fr h₀ L s.heap m) (X : (hd.heap_39 w.params).In h₀) (N : News h₀ L s.heap ((118, tabObj ps) :: rest)) (T : Top p loose mean mg mb h₀) (hps : CwTab genPos ps) (hr : ∀ x ∈ rest, x.1 ≠ 118) (hl : (l, listOf vs.toArray n) ∈ rest) (hG : AllBare s.gens) (hh : A.handled = none)
    (hd : A.depth + 20 < recursionLimit) (hu : A.units + 400 < cLine)
    (hret : ∀ (t : Tok) (ps' : Array Value) (s' : Shared), AllBare s'.gens → s'.os = s.os → Fr h₀ L s'.heap m → News h₀ L s'.heap ((118, tabObj ps') :: rest) → CwTab genPos ps' → Q (.int (ks.map wk).sum t) s') :
    wpAny (model PySem.Challenge.rw_fc0027_01.row.prog w) A (call (.ref 123) [.ref l]) Q E s := by
  obtain ⟨hd', dp, fr, gd, un⟩ := A
  dsimp only at hh
  subst hh
  have z := N _ (.head _)
  refine C _ _ _ _ _ _ _ _ _ _ _ _ _ _ X T z.2.2 F.keep z.1 hps (isl_of N (.tail _ hl)) hG hd hu fun t ps' s' hb ho hk hP hps' => ?_
  refine hret t ps' s' hb ho ⟨F.ns.at fun o e => hk L o (Ne.symm z.2.1) e, fun b o e => hk b o (fun q => by rw [q, z.2.2] at e; cases e) (F.keep b o e), F.above⟩ (fun x hx => ?_) hps'
  rcases List.mem_cons.mp hx with rfl | hx
  · exact ⟨hP, z.2⟩
  · exact ⟨hk _ _ (hr x hx) (N x (.tail _ hx)).1, (N x (.tail _ hx)).2⟩
end Mine
namespace Mine
open PySem.SeqAt
section
variable {prog : Program} {w : World} {A : Around} {E : Value → Shared → Prop} {s : Shared}
theorem eqAt_bytes (b : Array UInt8) (t u : Tok) : EqAt A s (.bytes b t) (.bytes b u) true := fun prog w E Q h => by
  unfold eqBool
  refine wpAny_holding ?_
  refine wpAny_ite_split (fun _ => ?_) (fun _ => ?_)
  · exact wpAny_bind (wpAny_rule (wpAny_pure h))
  · refine wpAny_bind (show wpAny _ _ (compareOp .Eq (.bytes b t) (.bytes b u)) _ _ _ from eq_bytes ?_)
    have e : (b.toList == b.toList) = true := by simp
    rw [e]
    exact wpAny_truthy_bool h
theorem ne_bl {a b : Addr} {vs us : List Value} {ks : List Int} {Q : Value → Shared → Prop} (hl : s.heap.IsList a vs.toArray) (h1 : BL vs ks) (hl2 : s.heap.IsList b us.toArray) (h2 : BL us ks) (hu : A.units < cLine) (h : Q (.bool false) s) :
    wpAny (model prog w) A (compareOp .NotEq (.ref a) (.ref b)) Q E s := by
  have hsz : vs.toArray.size = us.toArray.size := by rw [List.size_toArray, List.size_toArray, h1.length, h2.length]
  have := RcNeAt.lists (A := A) (s := s) (e := fun _ => true) hl hl2 hsz hu (fun j j1 j2 => by
    have i1 : j < ks.length := by rw [← h1.length]; simpa using j1
    obtain ⟨x, t, e1, g1⟩ := h1.at i1
    obtain ⟨y, u, e2, g2⟩ := h2.at i1
    rw [e1] at e2
    cases e2
    have q1 : vs.toArray[j] = .bytes (cb x) t := by
      have := (List.getElem?_eq_some_iff.mp g1).2
      simpa using this
    have q2 : us.toArray[j] = .bytes (cb x) u := by
      have := (List.getElem?_eq_some_iff.mp g2).2
      simpa using this
    rw [q1, q2]
    exact eqAt_bytes _ _ _)
  refine this prog w E Q ?_
  have e : (!(List.range vs.toArray.size).all fun _ => true) = false := by simp
  rw [e]
  exact h
end
end Mine
namespace Mine
local macro_rules | `(tactic| walk_at "MINE pad") => `(tactic| fail)
local macro_rules | `(tactic| walk_at "MINE pad") => `(tactic| fail)
theorem top_off_L13 : True := by
  w_top off
  exact True.intro
local macro_rules | `(tactic| k_room) => `(tactic| ktr_room)
local macro_rules | `(tactic| walk_at "MINE enter") => `(tactic| (refine wpAny_call ?_; k_dflt (refine' code_n ?k3 ?k5 ?k6 ?k7 ?k8 ?k9 ?kB ?_ ?c2 ?c3 ?c4 ?c5; (case k3 => k_asm); (case k5 => k_asm); (case k6 => k_is); (case k7 => k_is); (case k8 => ktr_room); (case k9 => first | exact BindsTo.of_eq rfl | exact binds_K (by k_in) rfl (by k_is) rfl rfl rfl | (refine' kp_binds ?kx ?ke; (case kx => k_in); (case ke => exact fun _ => rfl))); (case c5 => decide); (case kB => exact locs rfl); (case c2 => exact rfl); (case c3 => exact rfl); (case c4 => exact rfl); k_whole; intro L' h' F' N'; (try dsimp only); (try k_fold))))
local macro_rules | `(tactic| walk_at "LeaveN") => `(tactic| (k_dflt (refine' leaveN_ ?k1 ?k2 ?_; (case k1 => k_asm); (case k2 => k_asm); k_whole); intro kK kN; (try dsimp only)))
local macro_rules | `(tactic| walk_at "callWith ref") => `(tactic| (k_here; (with_reducible show wpAny _ _ (callWith _ (Value.ref _) [] (backTo _ (starEach (_ :: _) _)) (backToKw _ (keywordEach (_ :: _) _))) _ _ _); kfb_any; k_dflt (refine' callWith_fbKw ?k1 ?_; (case k1 => exact rfl); k_whole)))
local macro_rules | `(tactic| walk_at "callWith") => `(tactic| (k_here; (with_reducible show wpAny _ _ (callWith _ (Value.builtin _) [_] (backTo _ (starEach (_ :: _) _)) (backToKw _ (keywordEach (_ :: _) _))) _ _ _); k_dflt (refine callWith_bKw ?_; k_whole)))
local macro_rules | `(tactic| walk_at "call ref") => `(tactic| (k_here; (with_reducible show wpAny _ _ (call (Value.ref _) (Value.bytes _ _ :: _) _) _ _ _); kfb_any; k_dflt (first
  | (refine fb_call2 (by k_asm) (by k_mem) (picked_tail (by assumption)) (by kfb_size) ?_)
  | (refine fb_call0 (by k_asm) (by k_mem) (by kba_ints2) (by kfb_size) ?_)
  | (refine fb_call1 (by k_asm) (by k_mem) (by kba_ints2) (by kfb_size) ?_)
  | (refine fb_call2 (by k_asm) (by k_mem) (by kba_ints2) (by kfb_size) ?_)); intro _ _))
local macro_rules | `(tactic| walk_at "subscriptTail") => `(tactic| (k_here; (with_reducible show wpAny _ _ (subscriptTail _ _ (Value.bytes _ _) (Value.int _ _)) _ _ _); (with_unfolding_all refine' bytes_item0 ?k1 ?k2 ?_; (case k1 => assumption); (case k2 => exact Nat.le_of_ble_eq_true rfl); k_whole); intro _ _ _ _))
local macro_rules | `(tactic| walk_at "binaryOp LShift int int") => `(tactic| (k_here; (with_reducible show wpAny _ _ (binaryOp _ (Value.int (Builtin.bitAnd _ _) _) _) _ _ _); k_dflt (refine' lshift_int_small ?k1 ?k2 ?k3 ?_; (case k1 => omega); (case k2 => omega); (case k3 => exact mask_small _); k_whole)))
local macro_rules | `(tactic| walk_at "call type:bytes") => `(tactic| (k_here; (with_reducible show wpAny _ _ (call (Value.type "bytes") [Value.bytes _ _]) _ _ _); (refine bytes_of_bytes ?_)))
local macro_rules | `(tactic| walk_at "call builtin:int.to_bytes") => `(tactic| (k_here; k_dflt (first
  | (refine' tb_32 ?h0 ?h1 ?_; (case h0 => first | assumption | omega); (case h1 => first | assumption | omega); k_whole)
  | (refine' tb_32s ?h0 ?h1 ?_; (case h0 => first | assumption | omega); (case h1 => first | assumption | omega); k_whole)
  | (refine' tb_3s ?h0 ?h1 ?_; (case h0 => first | assumption | omega); (case h1 => first | assumption | omega); k_whole; intro _)); intro _ _))
local macro_rules | `(tactic| walk_at "binaryOp Add bytes bytes") => `(tactic| (k_here; k_dflt (refine' bytes_cons_add ?h0 ?h1 ?hb ?hl ?_; (case h0 => omega); (case h1 => omega); (case hb => assumption); (case hl => exact little3_len); k_whole); intro _ _))
local macro_rules | `(tactic| k_mem) => `(tactic| first | with_reducible assumption | exact List.Mem.head _ | assumption | (refine' List.Mem.tail _ ?_; k_mem))
local macro_rules | `(tactic| walk_at "call ref") => `(tactic| (k_here; k_dflt (show wpAny _ _ (call (Value.ref _) [Value.bytes (cb _) _, Value.ref _]) _ _ _); k_dflt (refine' ctf_use (ct_follow _ _ _ _ _ _ _ ?hi ?h63 ?hv ?h1) ?k2 ?k3 ?k4 ?k5 ?hp ?hh ?kd ?ku ?_; (case k2 => k_asm); (case k3 => k_asm); (case k4 => k_asm); (case k5 => k_asm); (case hp => exact ⟨FnIn.on2 (by assumption) (by k_asm) (by (intro _ h9; repeat (first | exact h9 | refine List.Mem.tail _ ?_ | refine List.mem_append_right _ ?_))), isl_of (by k_asm) (by k_mem)⟩); (case hi => assumption); (case h63 => omega); (case hv => assumption); (case h1 => assumption); (case hh => exact rfl); (case kd => ktr_room); (case ku => ktr_units); intro l9 us9 n9 h9 tk9 F9 N9 hB9; (try dsimp only); (try k_fold))))
local macro_rules | `(tactic| walk_at "call ref") => `(tactic| (k_here; k_dflt (show wpAny _ _ (call (Value.ref 116) [Value.bytes (cb _) _]) _ _ _); k_dflt (refine' ctn_use (ct_work _ _ _ ?h0 ?h1) ?k2 ?k3 ?k4 ?k5 ?hp ?hh ?kd ?ku ?_; (case h0 => first | assumption | omega); (case h1 => first | assumption | omega); (case hp => exact True.intro); (case k2 => k_asm); (case k3 => k_asm); (case k4 => k_asm); (case k5 => k_asm); (case hh => exact rfl); (case kd => ktr_room); (case ku => ktr_units); intro t9 h9 tk9 F9 N9; (try dsimp only); (try k_fold))))
local macro_rules | `(tactic| walk_at "eval ListComp") => `(tactic| (k_here; k_dflt (refine LCg.ListComp_U (F₀ := by k_asm) (by with_unfolding_all rfl) (by decide) (by rfl) (by decide) (by rfl) ?_)))
local macro_rules | `(tactic| walk_at "CompSrc") => `(tactic| (refine Stop.mk ?_))
local macro_rules | `(tactic| walk_at "CompEnd") => `(tactic| (refine Stop.mk ?_))
theorem ne_tab {h₀ h : Heap} {L D : Addr} {vs ps : Array Value} {n : Nat} {news : List (Addr × Obj)} (N : News h₀ L h news) (h1 : (D, listOf vs n) ∈ news) (h2 : (118, tabObj ps) ∈ news) : D ≠ 118 := fun e => by
  have e1 := (N _ h1).1
  have e2 := (N _ h2).1
  dsimp only at e1 e2
  rw [e, e2] at e1
  cases e1
theorem add_bl {prog : Program} {w : World} {A : Around} {E : Value → Shared → Prop} {s : Shared} {h₀ : Heap} {L a b : Addr} {m : Str → Option Value} {news : List (Addr × Obj)} {vs us : List Value} {Q : Value → Shared → Prop} (F : Fr h₀ L s.heap m) (N : News h₀ L s.heap news) (hl : s.heap.IsList a vs.toArray) (hb : s.heap.IsList b us.toArray)
    (hz : vs.length + us.length ≤ sizeLine) (h : ∀ D h', Fr h₀ L h' m → News h₀ L h' ((D, listOf (vs ++ us).toArray 0) :: news) → Q (.ref D) { s with heap := h' }) : wpAny (model prog w) A (binaryOp .Add (.ref a) (.ref b)) Q E s :=
  add_lists F N hl hb (fun h' F' N' => h _ h' F' N') hz
local macro_rules | `(tactic| walk_at "compareOp NotEq ref ref") => `(tactic| (k_here; k_dflt (refine' ne_bl (isl_of (by k_asm) (by k_mem)) ?h1 (isl_of (by k_asm) (by k_mem)) ?h2 ?hu ?_; (case h1 => assumption); (case h2 => assumption); (case hu => ktr_units); k_whole)))
local macro_rules | `(tactic| walk_at "binaryOp Add ref ref") => `(tactic| (k_here; k_dflt (refine' add_bl ?F ?N (isl_of ?N2 ?m2) (isl_of ?N3 ?m3) ?z ?_; (case F => k_asm); (case N => k_asm); (case N2 => k_asm); (case m2 => k_mem); (case N3 => k_asm); (case m3 => k_mem); (case z => (rw [PySem.sizeLine_eq]; simp only [List.length_cons, List.length_nil]; omega)); k_whole); intro l9 h9 F9 N9))
local macro_rules | `(tactic| walk_at "call ref") => `(tactic| (k_here; k_dflt (show wpAny _ _ (call (Value.ref 123) [Value.ref _]) _ _ _); refine Stop.mk ?_))
set_option maxHeartbeats 4000000 in
theorem seg13 (w : World) (p : Program) (loose : List Str) (mean : ExcName → Option Value) (mg mb : Str → Option Value) (h₀ : Heap) (L fa fd fs ff l : Addr) (vs : List Value) (ns : List Int) (tw : Tok) (m : Str → Option Value) (rest : List (Addr × Obj)) (ps : Array Value) (s : Shared) (Q : Flow → Shared → Prop) (E : Value → Shared → Prop)
    (hx : Ctx w p loose mean mg mb h₀ L fd fs ff l vs ns tw rest) (F : Fr h₀ L s.heap m) (N : News h₀ L s.heap ((118, tabObj ps) :: rest)) (hps : CwTab genPos ps) (hG : AllBare s.gens) (hr : ∀ x ∈ rest, x.1 ≠ 118) (v : Int) (tv : Tok) (hv0 : 2 ^ 20 ≤ v) (hv1 : v ≤ LIM) (ds : List Int) (hdl : ds.length ≤ 5) (c : Addr) (ws : List Value) (nc : Nat) (hws : IntsAre ws (ds.map clampq)) (hcm : (c, listOf ws.toArray nc) ∈ rest)
    (a1 : Addr) (u1 : List Value) (n1 : Nat) (hb1 : BL u1 (chain v ds)) (hc1 : (a1, listOf u1.toArray n1) ∈ rest)
    (hm1 : m (Str.ofString "bounded") = some (.ref c)) (hm2 : m (Str.ofString "first") = some (.ref a1)) (hm3 : m (Str.ofString "start") = some (.bytes (cb v) tv)) (hm4 : m (Str.ofString "follow") = some (.ref ff))
    (hQ : ∀ (ps' : Array Value) (s' : Shared), AllBare s'.gens → s'.os = s.os → Fr h₀ L s'.heap m → News h₀ L s'.heap ((118, tabObj ps') :: rest) → CwTab genPos ps' → Q .next s') :
    wpAny (model PySem.Challenge.rw_fc0027_01.row.prog w) (callerA.deeper (envOfC (Str.ofString "law") lawScope L fa (.ref 134))) (exec (stm 13) (envOfC (Str.ofString "law") lawScope L fa (.ref 134))) Q E s := by
  have X9 := hx.X
  revert X9
  k_fill
  intro X9
  clear X9
  obtain ⟨X, T, B, C, hl, hi, hlen, hbits, ⟨oS, hS, hSd⟩, ⟨oD, hD, hDd⟩, ⟨oW, hW, hWd⟩, hfd, hfs, hff⟩ := hx
  have hfd2 := hfd
  have hfs2 := hfs
  have hff2 := hff
  obtain ⟨dq, ddc, dpm, dcc, dct, doc, dvs, dt, d1, d2, d3, d4⟩ := hfd2
  obtain ⟨sq, sdc, spm, scc, sct, soc, svs, st, s1, s2, s3, s4⟩ := hfs2
  obtain ⟨fq, fdc, fpm, fcc, fct, foc, fvs, ft, f1, f2, f3, f4⟩ := hff2
  rw [names_at (m := m) [(Str.ofString "bounded", .ref c), (Str.ofString "first", .ref a1), (Str.ofString "start", .bytes (cb v) tv), (Str.ofString "follow", .ref ff)] (List.forall_mem_cons.mpr ⟨hm1, List.forall_mem_cons.mpr ⟨hm2, List.forall_mem_cons.mpr ⟨hm3, List.forall_mem_cons.mpr ⟨hm4, fun _ h => nomatch h⟩⟩⟩⟩)] at F hQ
  have hcl : (ds.map clampq).length ≤ 5 := by rw [List.length_map]; exact hdl
  have p12 : (2 : Int) ^ 12 ≤ 2 ^ 19 := by decide
  have p19 : (2 : Int) ^ 19 ≤ 2 ^ 20 := by decide
  have hw1 : (2 : Int) ^ (2 + 2 * ds.length) ≤ v := Int.le_trans (pow_mono2 (show 2 + 2 * ds.length ≤ 12 by omega)) (Int.le_trans p12 (Int.le_trans p19 hv0))
  have hw2 : (2 : Int) ^ (2 + 2 * (ds.map clampq).length) ≤ v := by rw [List.length_map]; exact hw1
  have hv2 : 0 < v := Int.lt_of_lt_of_le (pow_pos2 20) hv0
  have p4 : (0 : Int) < 2 ^ 2 := by decide
  have k1 : ∀ x ∈ chain v ds, 0 < x ∧ x ≤ 65535 * 256 ^ 26 := fun x hx => ⟨Int.lt_of_lt_of_le p4 (chain_in ds v 2 hw1 hv1 x hx).1, (chain_in ds v 2 hw1 hv1 x hx).2⟩
  have hb1c : BL u1 (chain v (ds.map clampq)) := by rw [chain_clamp]; exact hb1
  have hu1l : u1.length ≤ 5 := by rw [hb1.length, chain_length]; exact hdl
  conv in stm _ => whnf
  k_steps
  refine Stop.out ?_
  rename Fr _ _ _ _ => F5
  rename News _ _ _ _ => N5
  have hne := ne_tab N5 (.head _) (by k_mem : (118, tabObj ps) ∈ _)
  refine cw_use (ct_chain w _ _ (v :: chain v ds) (.cons hb1) (List.forall_mem_cons.mpr ⟨⟨hv2, hv1⟩, k1⟩)) F5 X (news_sub (news := (118, tabObj ps) :: (_, listOf ([Value.bytes (cb v) tv] ++ u1).toArray 0) :: rest) N5 ?_) T hps (List.forall_mem_cons.mpr ⟨hne, hr⟩) (.head _) hG rfl ?kd ?ku ?_
  case kd => ktr_room
  case ku => ktr_units
  · refine List.forall_mem_cons.mpr ⟨by k_mem, List.forall_mem_cons.mpr ⟨.head _, ?_⟩⟩
    intro p hp
    exact .tail _ (.tail _ (.tail _ (.tail _ hp)))
  intro t9 ps9 s9 hb9 ho9 F6 N6 hc9
  clear F5 N5
  (try dsimp only)
  (try k_fold)
  k_steps
  refine Stop.out ?_
  have hu1z : u1.toArray.size ≤ sizeLine := by rw [PySem.sizeLine_eq, List.size_toArray]; omega
  have hc1' : (a1, ({ cls := .type "list", data := .seq u1.toArray n1 } : Obj)) ∈ rest := hc1
  rename News _ _ _ _ => N7
  refine LCg.CompSrc.ledger (by rfl) (by k_asm) N7 (.tail _ (.tail _ hc1')) hu1z ?_
  intro g'
  refine comp_rest (fun i ys => IntsAre ys (((chain v ds).take i).map wk)) .nil ?_ (.inr ⟨_, .tail _ (.tail _ hc1'), rfl, _, rfl⟩) ?_
  · intro i vv I oI C1 oC D m₂ ys h tk E' hin hvv hJ hC hx1 F8 N8 off hS
    rw [List.getElem?_toArray] at hvv
    obtain ⟨kk, tt, hkk, rfl⟩ := hb1.get i hvv
    obtain ⟨hk0, hk1⟩ := k1 kk (List.mem_of_getElem? hkk)
    have htk : (chain v ds).take (i + 1) = (chain v ds).take i ++ [kk] := by rw [List.take_add_one, hkk]; rfl
    k_steps
    refine Stop.out ?_
    refine comp_end (by k_asm) (by k_asm) (by (refine List.forall_mem_cons.mpr ⟨by k_mem, List.forall_mem_cons.mpr ⟨by k_mem, List.forall_mem_cons.mpr ⟨by k_mem, ?_⟩⟩⟩; (intro _ h9; repeat (first | exact h9 | refine List.Mem.tail _ ?_ | refine List.mem_append_right _ ?_)))) off hS ⟨rfl, ?_⟩
    rw [htk, List.map_append]
    exact IntsAre.append hJ (.cons _ _ .nil)
  · intro ys hJ
    rw [List.size_toArray, hb1.length, List.take_length] at hJ
    k_steps
    · rename _ ≠ _ => hbad
      exact absurd (by rw [List.map_cons, List.sum_cons]) hbad
    · refine hQ ps9 _ hb9 ho9 (by k_asm) (news_sub (by k_asm) (List.forall_mem_cons.mpr ⟨by k_mem, fun p hp => .tail _ (.tail _ (.tail _ hp))⟩)) hc9
end Mine
namespace Mine
theorem top_off_L14 : True := by
  w_top off
  exact True.intro
local macro_rules | `(tactic| k_room) => `(tactic| ktr_room)
local macro_rules | `(tactic| walk_at "MINE enter") => `(tactic| (refine wpAny_call ?_; k_dflt (refine' code_n ?k3 ?k5 ?k6 ?k7 ?k8 ?k9 ?kB ?_ ?c2 ?c3 ?c4 ?c5; (case k3 => k_asm); (case k5 => k_asm); (case k6 => k_is); (case k7 => k_is); (case k8 => ktr_room); (case k9 => first | exact BindsTo.of_eq rfl | exact binds_K (by k_in) rfl (by k_is) rfl rfl rfl | (refine' kp_binds ?kx ?ke; (case kx => k_in); (case ke => exact fun _ => rfl))); (case c5 => decide); (case kB => exact locs rfl); (case c2 => exact rfl); (case c3 => exact rfl); (case c4 => exact rfl); k_whole; intro L' h' F' N'; (try dsimp only); (try k_fold))))
local macro_rules | `(tactic| walk_at "LeaveN") => `(tactic| (k_dflt (refine' leaveN_ ?k1 ?k2 ?_; (case k1 => k_asm); (case k2 => k_asm); k_whole); intro kK kN; (try dsimp only)))
local macro_rules | `(tactic| walk_at "callWith ref") => `(tactic| (k_here; (with_reducible show wpAny _ _ (callWith _ (Value.ref _) [] (backTo _ (starEach (_ :: _) _)) (backToKw _ (keywordEach (_ :: _) _))) _ _ _); kfb_any; k_dflt (refine' callWith_fbKw ?k1 ?_; (case k1 => exact rfl); k_whole)))
local macro_rules | `(tactic| walk_at "callWith") => `(tactic| (k_here; (with_reducible show wpAny _ _ (callWith _ (Value.builtin _) [_] (backTo _ (starEach (_ :: _) _)) (backToKw _ (keywordEach (_ :: _) _))) _ _ _); k_dflt (refine callWith_bKw ?_; k_whole)))
local macro_rules | `(tactic| walk_at "call ref") => `(tactic| (k_here; (with_reducible show wpAny _ _ (call (Value.ref _) (Value.bytes _ _ :: _) _) _ _ _); kfb_any; k_dflt (first
  | (refine fb_call2 (by k_asm) (by k_mem) (picked_tail (by assumption)) (by kfb_size) ?_)
  | (refine fb_call0 (by k_asm) (by k_mem) (by kba_ints2) (by kfb_size) ?_)
  | (refine fb_call1 (by k_asm) (by k_mem) (by kba_ints2) (by kfb_size) ?_)
  | (refine fb_call2 (by k_asm) (by k_mem) (by kba_ints2) (by kfb_size) ?_)); intro _ _))
local macro_rules | `(tactic| walk_at "subscriptTail") => `(tactic| (k_here; (with_reducible show wpAny _ _ (subscriptTail _ _ (Value.bytes _ _) (Value.int _ _)) _ _ _); (with_unfolding_all refine' bytes_item0 ?k1 ?k2 ?_; (case k1 => assumption); (case k2 => exact Nat.le_of_ble_eq_true rfl); k_whole); intro _ _ _ _))
local macro_rules | `(tactic| walk_at "binaryOp LShift int int") => `(tactic| (k_here; (with_reducible show wpAny _ _ (binaryOp _ (Value.int (Builtin.bitAnd _ _) _) _) _ _ _); k_dflt (refine' lshift_int_small ?k1 ?k2 ?k3 ?_; (case k1 => omega); (case k2 => omega); (case k3 => exact mask_small _); k_whole)))
local macro_rules | `(tactic| walk_at "call type:bytes") => `(tactic| (k_here; (with_reducible show wpAny _ _ (call (Value.type "bytes") [Value.bytes _ _]) _ _ _); (refine bytes_of_bytes ?_)))
local macro_rules | `(tactic| walk_at "call builtin:int.to_bytes") => `(tactic| (k_here; k_dflt (first
  | (refine' tb_32 ?h0 ?h1 ?_; (case h0 => first | assumption | omega); (case h1 => first | assumption | omega); k_whole)
  | (refine' tb_32s ?h0 ?h1 ?_; (case h0 => first | assumption | omega); (case h1 => first | assumption | omega); k_whole)
  | (refine' tb_3s ?h0 ?h1 ?_; (case h0 => first | assumption | omega); (case h1 => first | assumption | omega); k_whole; intro _)); intro _ _))
local macro_rules | `(tactic| walk_at "binaryOp Add bytes bytes") => `(tactic| (k_here; k_dflt (refine' bytes_cons_add ?h0 ?h1 ?hb ?hl ?_; (case h0 => omega); (case h1 => omega); (case hb => assumption); (case hl => exact little3_len); k_whole); intro _ _))
local macro_rules | `(tactic| k_mem) => `(tactic| first | with_reducible assumption | exact List.Mem.head _ | assumption | (refine' List.Mem.tail _ ?_; k_mem))
local macro_rules | `(tactic| walk_at "call ref") => `(tactic| (k_here; k_dflt (show wpAny _ _ (call (Value.ref 123) [Value.ref _]) _ _ _); k_dflt (refine' cw_use (ct_chain _ _ _ _ ?hb ?hks) ?k2 ?k3 ?k4 ?k5 ?hps ?hr ?hl ?hG ?hh ?kd ?ku ?_; (case k2 => k_asm); (case k3 => k_asm); (case k4 => k_asm); (case k5 => k_asm); (case hps => assumption); (case hr => assumption); (case hl => assumption); (case hG => assumption); (case hb => assumption); (case hks => assumption); (case hh => exact rfl); (case kd => ktr_room); (case ku => ktr_units); intro t9 ps9 s9 hb9 ho9 F9 N9 hc9; (try dsimp only); (try k_fold))))
set_option maxHeartbeats 4000000 in
theorem seg14 (w : World) (p : Program) (loose : List Str) (mean : ExcName → Option Value) (mg mb : Str → Option Value) (h₀ : Heap) (L fa fd fs ff l : Addr) (vs : List Value) (ns : List Int) (tw : Tok) (m : Str → Option Value) (rest : List (Addr × Obj)) (ps : Array Value) (s : Shared) (Q : Flow → Shared → Prop) (E : Value → Shared → Prop)
    (hx : Ctx w p loose mean mg mb h₀ L fd fs ff l vs ns tw rest) (F : Fr h₀ L s.heap m) (N : News h₀ L s.heap ((118, tabObj ps) :: rest)) (hps : CwTab genPos ps) (hG : AllBare s.gens) (hr : ∀ x ∈ rest, x.1 ≠ 118) (v u : Int) (hv0 : 2 ^ 20 ≤ v) (hv1 : v ≤ LIM) (hu0 : 2 ^ 19 ≤ u) (huv : u ≤ v) (ds qs : List Int) (hdl : ds.length ≤ 5) (hdom : Dom qs ds)
    (a1 a2 a3 : Addr) (u1 u2 u3 : List Value) (n1 n2 n3 : Nat) (hb1 : BL u1 (chain v ds)) (hb2 : BL u2 (chain v qs)) (hb3 : BL u3 (chain u ds)) (hc1 : (a1, listOf u1.toArray n1) ∈ rest) (hc2 : (a2, listOf u2.toArray n2) ∈ rest) (hc3 : (a3, listOf u3.toArray n3) ∈ rest)
    (hm2 : m (Str.ofString "first") = some (.ref a1)) (hm3 : m (Str.ofString "second") = some (.ref a2)) (hm4 : m (Str.ofString "third") = some (.ref a3))
    (hQ : ∀ (ps' : Array Value) (s' : Shared), AllBare s'.gens → s'.os = s.os → Fr h₀ L s'.heap m → News h₀ L s'.heap ((118, tabObj ps') :: rest) → Q (.ret (.bool true)) s') :
    wpAny (model PySem.Challenge.rw_fc0027_01.row.prog w) (callerA.deeper (envOfC (Str.ofString "law") lawScope L fa (.ref 134))) (exec (stm 14) (envOfC (Str.ofString "law") lawScope L fa (.ref 134))) Q E s := by
  have X9 := hx.X
  revert X9
  k_fill
  intro X9
  clear X9
  obtain ⟨X, T, B, C, hl, hi, hlen, hbits, ⟨oS, hS, hSd⟩, ⟨oD, hD, hDd⟩, ⟨oW, hW, hWd⟩, hfd, hfs, hff⟩ := hx
  have hfd2 := hfd
  have hfs2 := hfs
  have hff2 := hff
  obtain ⟨dq, ddc, dpm, dcc, dct, doc, dvs, dt, d1, d2, d3, d4⟩ := hfd2
  obtain ⟨sq, sdc, spm, scc, sct, soc, svs, st, s1, s2, s3, s4⟩ := hfs2
  obtain ⟨fq, fdc, fpm, fcc, fct, foc, fvs, ft, f1, f2, f3, f4⟩ := hff2
  rw [names_at (m := m) [(Str.ofString "first", .ref a1), (Str.ofString "second", .ref a2), (Str.ofString "third", .ref a3)] (List.forall_mem_cons.mpr ⟨hm2, List.forall_mem_cons.mpr ⟨hm3, List.forall_mem_cons.mpr ⟨hm4, fun _ h => nomatch h⟩⟩⟩)] at F hQ
  have hql : qs.length ≤ 5 := by rw [hdom.length]; exact hdl
  have p12 : (2 : Int) ^ 12 ≤ 2 ^ 19 := by decide
  have p19 : (2 : Int) ^ 19 ≤ 2 ^ 20 := by decide
  have hw1 : (2 : Int) ^ (2 + 2 * ds.length) ≤ v := Int.le_trans (pow_mono2 (show 2 + 2 * ds.length ≤ 12 by omega)) (Int.le_trans p12 (Int.le_trans p19 hv0))
  have hw2 : (2 : Int) ^ (2 + 2 * qs.length) ≤ v := Int.le_trans (pow_mono2 (show 2 + 2 * qs.length ≤ 12 by omega)) (Int.le_trans p12 (Int.le_trans p19 hv0))
  have hw3 : (2 : Int) ^ (2 + 2 * ds.length) ≤ u := Int.le_trans (pow_mono2 (show 2 + 2 * ds.length ≤ 12 by omega)) (Int.le_trans p12 hu0)
  have hu1 : u ≤ LIM := Int.le_trans huv hv1
  have p4 : (0 : Int) < 2 ^ 2 := by decide
  have k1 : ∀ x ∈ chain v ds, 0 < x ∧ x ≤ 65535 * 256 ^ 26 := fun x hx => ⟨Int.lt_of_lt_of_le p4 (chain_in ds v 2 hw1 hv1 x hx).1, (chain_in ds v 2 hw1 hv1 x hx).2⟩
  have k2 : ∀ x ∈ chain v qs, 0 < x ∧ x ≤ 65535 * 256 ^ 26 := fun x hx => ⟨Int.lt_of_lt_of_le p4 (chain_in qs v 2 hw2 hv1 x hx).1, (chain_in qs v 2 hw2 hv1 x hx).2⟩
  have k3 : ∀ x ∈ chain u ds, 0 < x ∧ x ≤ 65535 * 256 ^ 26 := fun x hx => ⟨Int.lt_of_lt_of_le p4 (chain_in ds u 2 hw3 hu1 x hx).1, (chain_in ds u 2 hw3 hu1 x hx).2⟩
  have s21 : ((chain v ds).map wk).sum ≤ ((chain v qs).map wk).sum := wk_sum (by rw [chain_length, chain_length, hdom.length]) (fun x hx => (k2 x hx).1) fun i x z hx hz => chain_mono hdom (Int.le_trans (pow_mono2 (by omega)) hw2) (Int.le_refl _) hv1 hx hz
  have s31 : ((chain v ds).map wk).sum ≤ ((chain u ds).map wk).sum := wk_sum (by rw [chain_length, chain_length]) (fun x hx => (k3 x hx).1) fun i x z hx hz => chain_mono (Dom.refl ds) (Int.le_trans (pow_mono2 (by omega)) hw3) huv hv1 hx hz
  clear hw1 hw2 hw3 p12 p19 p4
  conv in stm _ => whnf
  k_steps
  rw [decide_eq_true s31]
  exact hQ _ _ (by assumption) (by repeat (first | rfl | assumption | refine Eq.trans (by assumption) ?_)) (by k_asm) (by k_asm)
end Mine
namespace Mine
/-- zip of three lists, as a machine state -/
abbrev IsTri (h : Heap) (T : Addr) (a b c : Value) : Prop := h.get? T = some { cls := .type "tuple", data := .seq #[a, b, c] }
structure Z3 (z TI TO i1 i2 i3 l1 l2 l3 : Addr) : Prop where
  TIz : TI ≠ z
  TOz : TO ≠ z
  i1z : i1 ≠ z
  i2z : i2 ≠ z
  i3z : i3 ≠ z
  TITO : TI ≠ TO
  TIi1 : TI ≠ i1
  TIi2 : TI ≠ i2
  TIi3 : TI ≠ i3
  TOi1 : TO ≠ i1
  TOi2 : TO ≠ i2
  TOi3 : TO ≠ i3
  i12 : i1 ≠ i2
  i13 : i1 ≠ i3
  i23 : i2 ≠ i3
  l1z : l1 ≠ z
  l1TO : l1 ≠ TO
  l1i1 : l1 ≠ i1
  l1i2 : l1 ≠ i2
  l1i3 : l1 ≠ i3
  l2z : l2 ≠ z
  l2TO : l2 ≠ TO
  l2i1 : l2 ≠ i1
  l2i2 : l2 ≠ i2
  l2i3 : l2 ≠ i3
  l3z : l3 ≠ z
  l3TO : l3 ≠ TO
  l3i1 : l3 ≠ i1
  l3i2 : l3 ≠ i2
  l3i3 : l3 ≠ i3
section
variable {prog : Program} {w : World} {A : Around} {E : Value → Shared → Prop} {s : Shared}
theorem upd_tri {T : Addr} {a b c x : Value} {k : Nat} {Q : Unit → Shared → Prop} (hT : IsTri s.heap T a b c)
    (h : ∀ h', h'.get? T = some { cls := .type "tuple", data := .seq ((#[a, b, c] : Array Value).setIfInBounds k x) } → Heap.SameBut T s.heap h' → Q () { s with heap := h' }) :
    wpAny (model prog w) A (updateSeq T (·.setIfInBounds k x)) Q E s := by
  refine wpAny_updateSeq hT rfl (h _ ?_ (Heap.SameBut.update ..))
  rw [Heap.get?_update_self _ hT rfl]
  simp [Obj.mapSeq]
theorem z3_item {z TI TO i1 i2 i3 l1 l2 l3 : Addr} {k : Nat} {xs ys zs : Array Value} {x y v a b c : Value} {Q : Value → Shared → Prop} (D : Z3 z TI TO i1 i2 i3 l1 l2 l3)
    (hz : IsZip s.heap z TI TO .none) (hTI : IsTri s.heap TI (.ref i1) (.ref i2) (.ref i3)) (hTO : IsTri s.heap TO a b c)
    (h1 : s.heap.IsListIter i1 l1 k) (h2 : s.heap.IsListIter i2 l2 k) (h3 : s.heap.IsListIter i3 l3 k) (hl1 : s.heap.IsList l1 xs) (hl2 : s.heap.IsList l2 ys) (hl3 : s.heap.IsList l3 zs) (hx : xs[k]? = some x) (hy : ys[k]? = some y) (hv : zs[k]? = some v)
    (hQ : ∀ h', IsZip h' z TI TO (rawInt s.heap.objs.size) → IsTri h' TO x y v → h'.IsListIter i1 l1 (k + 1) → h'.IsListIter i2 l2 (k + 1) → h'.IsListIter i3 l3 (k + 1) → IsTri h' s.heap.objs.size x y v → h'.objs.size = s.heap.objs.size + 1 →
      (∀ c o, c ≠ z → c ≠ TO → c ≠ i1 → c ≠ i2 → c ≠ i3 → s.heap.get? c = some o → h'.get? c = some o) → Q (.ref s.heap.objs.size) { s with heap := h' }) :
    wpAny (model prog w) A (Builtin.«zip.__next__» ⟨[.ref z], []⟩) (fun fin s' => ∃ v, fin = .done (.ret v) ∧ Q v s') E s := by
  show wpAny _ _ (field (.ref z) 2 >>= _) _ _ _
  refine wpAny_bind (wpAny_field hz rfl (x := .bool false) rfl ?_)
  show wpAny _ _ (field (.ref z) 3 >>= _) _ _ _
  refine wpAny_bind (wpAny_field hz rfl (x := .ref TI) rfl ?_)
  refine wpAny_bind (wpAny_seqItems hTI rfl ?_)
  show wpAny _ _ (Builtin.SmallTypes.ownedTupleIsFree (.ref z) >>= _) _ _ _
  refine wpAny_bind ?_
  unfold Builtin.SmallTypes.ownedTupleIsFree
  refine wpAny_bind (wpAny_field hz rfl (x := .none) rfl (wpAny_pure ?_))
  simp only [if_true]
  refine wpAny_bind (wpAny_rule ?_)
  refine wpAny_bind (wpAny_field hz rfl (x := .ref TO) rfl ?_)
  refine wpAny_bind (wpAny_setField_rec hz (by simp) fun h₁ hz₁ hs₁ => ?_)
  replace hz₁ : IsZip h₁ z TI TO .ellipsis := hz₁
  refine wpAny_bind ?_
  simp only [List.zipIdx_cons, List.zipIdx_nil, List.forIn_cons, List.forIn_nil]
  refine wpAny_bind (wpAny_bind (wpAny_onRaise ?_))
  show wpAny _ _ (Builtin.SmallTypes.nextOf (.ref i1) >>= _) _ _ _
  refine wpAny_bind (wpAny_nextOf_list_item (h1.extBut hs₁.extBut D.i1z) (hl1.extBut hs₁.extBut D.l1z) hx fun h₂ h1₂ hs₂ => wpAny_pure ?_)
  have hTO₂ : IsTri h₂ TO a b c := hs₂.extBut _ _ D.TOi1 (hs₁.extBut _ _ D.TOz hTO)
  refine wpAny_bind (wpAny_seqItems hTO₂ rfl ?_)
  refine wpAny_bind (upd_tri hTO₂ fun h₃ hTO₃ hs₃ => ?_)
  replace hTO₃ : IsTri h₃ TO x b c := hTO₃
  refine wpAny_bind (wpAny_letGo (wpAny_pure ?_))
  have k₃ : ∀ c o, c ≠ z → c ≠ TO → c ≠ i1 → s.heap.get? c = some o → h₃.get? c = some o := fun c o c1 c2 c3 e => hs₃.extBut _ _ c2 (hs₂.extBut _ _ c3 (hs₁.extBut _ _ c1 e))
  refine wpAny_bind (wpAny_bind (wpAny_onRaise ?_))
  show wpAny _ _ (Builtin.SmallTypes.nextOf (.ref i2) >>= _) _ _ _
  refine wpAny_bind (wpAny_nextOf_list_item (h2.at fun o e => k₃ _ o D.i2z D.TOi2.symm D.i12.symm e) (hl2.at fun o e => k₃ _ o D.l2z D.l2TO D.l2i1 e) hy fun h₄ h2₄ hs₄ => wpAny_pure ?_)
  have hTO₄ : IsTri h₄ TO x b c := hs₄.extBut _ _ D.TOi2 hTO₃
  refine wpAny_bind (wpAny_seqItems hTO₄ rfl ?_)
  refine wpAny_bind (upd_tri hTO₄ fun h₅ hTO₅ hs₅ => ?_)
  replace hTO₅ : IsTri h₅ TO x y c := hTO₅
  refine wpAny_bind (wpAny_letGo (wpAny_pure ?_))
  have k₅ : ∀ c o, c ≠ z → c ≠ TO → c ≠ i1 → c ≠ i2 → s.heap.get? c = some o → h₅.get? c = some o := fun c o c1 c2 c3 c4 e => hs₅.extBut _ _ c2 (hs₄.extBut _ _ c4 (k₃ c o c1 c2 c3 e))
  refine wpAny_bind (wpAny_bind (wpAny_onRaise ?_))
  show wpAny _ _ (Builtin.SmallTypes.nextOf (.ref i3) >>= _) _ _ _
  refine wpAny_bind (wpAny_nextOf_list_item (h3.at fun o e => k₅ _ o D.i3z D.TOi3.symm D.i13.symm D.i23.symm e) (hl3.at fun o e => k₅ _ o D.l3z D.l3TO D.l3i1 D.l3i2 e) hv fun h₆ h3₆ hs₆ => wpAny_pure ?_)
  have hTO₆ : IsTri h₆ TO x y c := hs₆.extBut _ _ D.TOi3 hTO₅
  refine wpAny_bind (wpAny_seqItems hTO₆ rfl ?_)
  refine wpAny_bind (upd_tri hTO₆ fun h₇ hTO₇ hs₇ => ?_)
  replace hTO₇ : IsTri h₇ TO x y v := hTO₇
  refine wpAny_bind (wpAny_letGo (wpAny_pure (wpAny_pure ?_)))
  refine wpAny_bind (wpAny_seqItems hTO₇ rfl ?_)
  refine wpAny_bind (wpAny_newTuple ?_)
  have hsz : h₇.objs.size = s.heap.objs.size := by rw [hs₇.1, hs₆.1, hs₅.1, hs₄.1, hs₃.1, hs₂.1, hs₁.1]
  have hz₇ : IsZip h₇ z TI TO .ellipsis := hs₇.extBut _ _ D.TOz.symm (hs₆.extBut _ _ D.i3z.symm (hs₅.extBut _ _ D.TOz.symm (hs₄.extBut _ _ D.i2z.symm (hs₃.extBut _ _ D.TOz.symm (hs₂.extBut _ _ D.i1z.symm hz₁)))))
  have k₇ : ∀ c o, c ≠ z → c ≠ TO → c ≠ i1 → c ≠ i2 → c ≠ i3 → s.heap.get? c = some o → h₇.get? c = some o := fun c o c1 c2 c3 c4 c5 e =>
    hs₇.extBut _ _ c2 (hs₆.extBut _ _ c5 (k₅ c o c1 c2 c3 c4 e))
  have h1₇ : h₇.IsListIter i1 l1 (k + 1) := ((((h1₂.extBut hs₃.extBut D.TOi1.symm).extBut hs₄.extBut D.i12).extBut hs₅.extBut D.TOi1.symm).extBut hs₆.extBut D.i13).extBut hs₇.extBut D.TOi1.symm
  have h2₇ : h₇.IsListIter i2 l2 (k + 1) := ((h2₄.extBut hs₅.extBut D.TOi2.symm).extBut hs₆.extBut D.i23).extBut hs₇.extBut D.TOi2.symm
  have h3₇ : h₇.IsListIter i3 l3 (k + 1) := h3₆.extBut hs₇.extBut D.TOi3.symm
  have hzlt : z < h₇.objs.size := Heap.lt_size hz₇
  show wpAny _ _ (Builtin.SmallTypes.ownedTupleHandOut (.ref z) (.ref h₇.objs.size) >>= _) _ _ _
  refine wpAny_bind ?_
  unfold Builtin.SmallTypes.ownedTupleHandOut
  have hz₈ : IsZip (h₇.push { cls := .type "tuple", data := .seq #[x, y, v] }) z TI TO .ellipsis := Heap.get?_push_of_some _ hz₇
  refine wpAny_bind (wpAny_setField_rec hz₈ (by simp) fun h₉ hz₉ hs₉ => ?_)
  replace hz₉ : IsZip h₉ z TI TO (rawInt h₇.objs.size) := hz₉
  refine wpAny_setField_rec hz₉ (by simp) fun h₁₀ hz₁₀ hs₁₀ => ?_
  replace hz₁₀ : IsZip h₁₀ z TI TO (rawInt h₇.objs.size) := hz₁₀
  have up : ∀ c o, c ≠ z → h₇.get? c = some o → h₁₀.get? c = some o := fun c o c1 e => hs₁₀.extBut _ _ c1 (hs₉.extBut _ _ c1 (Heap.get?_push_of_some _ e))
  have hT₈ : IsTri h₁₀ h₇.objs.size x y v := hs₁₀.extBut _ _ (Nat.ne_of_gt hzlt) (hs₉.extBut _ _ (Nat.ne_of_gt hzlt) (Heap.get?_push_size _ rfl))
  have hz8 : h₁₀.objs.size = h₇.objs.size + 1 := by rw [hs₁₀.1, hs₉.1, Heap.size_push]
  rw [hsz] at hz₁₀ hT₈ hz8
  refine wpAny_pure ⟨_, rfl, ?_⟩
  show Q (.ref h₇.objs.size) _
  rw [hsz]
  exact hQ h₁₀ hz₁₀ (up _ _ D.TOz hTO₇) (h1₇.at fun o e => up _ o D.i1z e) (h2₇.at fun o e => up _ o D.i2z e) (h3₇.at fun o e => up _ o D.i3z e) hT₈ hz8 fun c o c1 c2 c3 c4 c5 e => up c o c1 (k₇ c o c1 c2 c3 c4 c5 e)
theorem z3_end {z TI TO i1 i2 i3 l1 l2 l3 : Addr} {k : Nat} {xs ys : Array Value} {x a b c : Value} {Q : Fin → Shared → Prop} (hh : A.handled = none) (D : Z3 z TI TO i1 i2 i3 l1 l2 l3)
    (hz : IsZip s.heap z TI TO .none) (hTI : IsTri s.heap TI (.ref i1) (.ref i2) (.ref i3)) (hTO : IsTri s.heap TO a b c)
    (h1 : s.heap.IsListIter i1 l1 k) (h2 : s.heap.IsListIter i2 l2 k) (hl1 : s.heap.IsList l1 xs) (hl2 : s.heap.IsList l2 ys) (hx : xs[k]? = some x) (hy : ys[k]? = none)
    (hE : ∀ h' e, (∀ c o, c ≠ z → c ≠ TO → c ≠ i1 → c ≠ i2 → c ≠ i3 → s.heap.get? c = some o → h'.get? c = some o) → (∃ o, h'.get? e = some o ∧ o.cls = .type "StopIteration") → E (.ref e) { s with heap := h' }) :
    wpAny (model prog w) A (Builtin.«zip.__next__» ⟨[.ref z], []⟩) Q E s := by
  show wpAny _ _ (field (.ref z) 2 >>= _) _ _ _
  refine wpAny_bind (wpAny_field hz rfl (x := .bool false) rfl ?_)
  show wpAny _ _ (field (.ref z) 3 >>= _) _ _ _
  refine wpAny_bind (wpAny_field hz rfl (x := .ref TI) rfl ?_)
  refine wpAny_bind (wpAny_seqItems hTI rfl ?_)
  show wpAny _ _ (Builtin.SmallTypes.ownedTupleIsFree (.ref z) >>= _) _ _ _
  refine wpAny_bind ?_
  unfold Builtin.SmallTypes.ownedTupleIsFree
  refine wpAny_bind (wpAny_field hz rfl (x := .none) rfl (wpAny_pure ?_))
  simp only [if_true]
  refine wpAny_bind (wpAny_rule ?_)
  refine wpAny_bind (wpAny_field hz rfl (x := .ref TO) rfl ?_)
  refine wpAny_bind (wpAny_setField_rec hz (by simp) fun h₁ hz₁ hs₁ => ?_)
  replace hz₁ : IsZip h₁ z TI TO .ellipsis := hz₁
  refine wpAny_bind ?_
  simp only [List.zipIdx_cons, List.zipIdx_nil, List.forIn_cons, List.forIn_nil]
  refine wpAny_bind (wpAny_bind (wpAny_onRaise ?_))
  show wpAny _ _ (Builtin.SmallTypes.nextOf (.ref i1) >>= _) _ _ _
  refine wpAny_bind (wpAny_nextOf_list_item (h1.extBut hs₁.extBut D.i1z) (hl1.extBut hs₁.extBut D.l1z) hx fun h₂ h1₂ hs₂ => wpAny_pure ?_)
  have hTO₂ : IsTri h₂ TO a b c := hs₂.extBut _ _ D.TOi1 (hs₁.extBut _ _ D.TOz hTO)
  refine wpAny_bind (wpAny_seqItems hTO₂ rfl ?_)
  refine wpAny_bind (upd_tri hTO₂ fun h₃ hTO₃ hs₃ => ?_)
  refine wpAny_bind (wpAny_letGo (wpAny_pure ?_))
  have k₃ : ∀ c o, c ≠ z → c ≠ TO → c ≠ i1 → s.heap.get? c = some o → h₃.get? c = some o := fun c o c1 c2 c3 e => hs₃.extBut _ _ c2 (hs₂.extBut _ _ c3 (hs₁.extBut _ _ c1 e))
  refine wpAny_bind (wpAny_bind (wpAny_onRaise ?_))
  show wpAny _ _ (Builtin.SmallTypes.nextOf (.ref i2) >>= _) _ _ _
  refine wpAny_bind (wpAny_nextOf_list_end hh (h2.at fun o e => k₃ _ o D.i2z D.TOi2.symm D.i12.symm e) (hl2.at fun o e => k₃ _ o D.l2z D.l2TO D.l2i1 e) hy fun h₄ e hs₄ he => ?_)
  obtain ⟨oe, hoe, hce⟩ := he
  have hz₄ : IsZip h₄ z TI TO .ellipsis := hs₄ _ _ D.i2z.symm (hs₃.extBut _ _ D.TOz.symm (hs₂.extBut _ _ D.i1z.symm hz₁))
  have hez : e ≠ z := fun x => by subst x; rw [hz₄] at hoe; cases hoe; simp at hce
  refine wpAny_setField_rec hz₄ (by simp) fun h₅ _ hs₅ => hE h₅ e (fun c o c1 c2 c3 c4 _ x => hs₅.extBut _ _ c1 (hs₄ _ _ c4 (k₃ c o c1 c2 c3 x))) ⟨oe, hs₅.extBut _ _ hez hoe, hce⟩
abbrev z3H1 (h : Heap) (l1 : Addr) : Heap := h.push { cls := .type "list_iterator", data := .fields #[.ref l1, .int 0 0] }
abbrev z3H2 (h : Heap) (l1 l2 : Addr) : Heap := (z3H1 h l1).push { cls := .type "list_iterator", data := .fields #[.ref l2, .int 0 0] }
abbrev z3H3 (h : Heap) (l1 l2 l3 : Addr) : Heap := (z3H2 h l1 l2).push { cls := .type "list_iterator", data := .fields #[.ref l3, .int 0 0] }
abbrev z3H4 (h : Heap) (l1 l2 l3 : Addr) : Heap := (z3H3 h l1 l2 l3).push { cls := .type "tuple", data := .seq #[.ref h.objs.size, .ref (z3H1 h l1).objs.size, .ref (z3H2 h l1 l2).objs.size] }
abbrev z3H5 (h : Heap) (l1 l2 l3 : Addr) : Heap := (z3H4 h l1 l2 l3).push { cls := .type "tuple", data := .seq #[.none, .none, .none] }
abbrev z3H6 (h : Heap) (l1 l2 l3 : Addr) : Heap := (z3H5 h l1 l2 l3).push { cls := .type "zip", data := .fields #[.none, .bool false, .bool false, .ref (z3H3 h l1 l2 l3).objs.size, .ref (z3H4 h l1 l2 l3).objs.size] }
theorem z3_sub : isSubtype (.type "zip") (.type "zip") = pure true := by rw [isSubtype_type]; kernel_rfl
set_option maxHeartbeats 4000000 in
theorem z3_new (l1 l2 l3 : Addr) (xs ys zs : Array Value) :
    Meets (Builtin.«zip.__new__» ⟨[.type "zip", .ref l1, .ref l2, .ref l3], []⟩) (fun _ R s => s.heap.IsList l1 xs ∧ s.heap.IsList l2 ys ∧ s.heap.IsList l3 zs ∧
      R (.ok (.ret (.ref (z3H5 s.heap l1 l2 l3).objs.size))) { s with heap := z3H6 s.heap l1 l2 l3 }) :=
  .of_wp fun prog w A R s h => by
    obtain ⟨hp, g, d, tk, os⟩ := s; obtain ⟨hl1, hl2, hl3, h⟩ := h
    have hsub := z3_sub
    have hL1 : Heap.IsList (Shared.heap ⟨hp, g, d, tk, os⟩) l1 xs := hl1
    have hL2 : Heap.IsList (Shared.heap ⟨hp.push { cls := .type "list_iterator", data := .fields #[.ref l1, .int 0 0] }, g, d, tk, os⟩) l2 ys := Heap.IsList.push hl2 _
    have hL3 : Heap.IsList (Shared.heap ⟨(hp.push { cls := .type "list_iterator", data := .fields #[.ref l1, .int 0 0] }).push { cls := .type "list_iterator", data := .fields #[.ref l2, .int 0 0] }, g, d, tk, os⟩) l3 zs := Heap.IsList.push (Heap.IsList.push hl3 _) _
    wp_walk using wpAny_pyIter_list hL1, wpAny_pyIter_list hL2, wpAny_pyIter_list hL3
    exact ⟨_, rfl, h⟩
end
end Mine
namespace Mine
section
variable {prog : Program} {w : World} {A : Around} {E : Value → Shared → Prop} {s : Shared}
theorem z3_pyNext_item {z TI TO i1 i2 i3 l1 l2 l3 : Addr} {k : Nat} {xs ys zs : Array Value} {x y v a b c : Value} {Q : Option Value → Shared → Prop} (D : Z3 z TI TO i1 i2 i3 l1 l2 l3)
    (hz : IsZip s.heap z TI TO .none) (hTI : IsTri s.heap TI (.ref i1) (.ref i2) (.ref i3)) (hTO : IsTri s.heap TO a b c)
    (h1 : s.heap.IsListIter i1 l1 k) (h2 : s.heap.IsListIter i2 l2 k) (h3 : s.heap.IsListIter i3 l3 k) (hl1 : s.heap.IsList l1 xs) (hl2 : s.heap.IsList l2 ys) (hl3 : s.heap.IsList l3 zs) (hx : xs[k]? = some x) (hy : ys[k]? = some y) (hv : zs[k]? = some v)
    (hQ : ∀ h', IsZip h' z TI TO (rawInt s.heap.objs.size) → IsTri h' TO x y v → h'.IsListIter i1 l1 (k + 1) → h'.IsListIter i2 l2 (k + 1) → h'.IsListIter i3 l3 (k + 1) → IsTri h' s.heap.objs.size x y v → h'.objs.size = s.heap.objs.size + 1 →
      (∀ c o, c ≠ z → c ≠ TO → c ≠ i1 → c ≠ i2 → c ≠ i3 → s.heap.get? c = some o → h'.get? c = some o) → Q (some (.ref s.heap.objs.size)) { s with heap := h' }) :
    wpAny (model prog w) A (pyNext (.ref z)) Q E s := by
  have hT : s.TypeIs (.ref z) "zip" := ⟨_, hz, rfl⟩
  unfold pyNext
  exact wpAny_bind (wpAny_attempt (wpAny_callSpecial?_slot (name := Str.ofString "__next__") hT F.slot_zip_next
    (wpAny_call_entry F.slot_zip_next hT F.entry_zip_next
      (z3_item D hz hTI hTO h1 h2 h3 hl1 hl2 hl3 hx hy hv fun h' a1 a2 a3 a4 a5 a6 a7 a8 => wpAny_pure (hQ h' a1 a2 a3 a4 a5 a6 a7 a8)) (F.args_zip_next_1 _))))
theorem z3_pyNext_end {z TI TO i1 i2 i3 l1 l2 l3 : Addr} {k : Nat} {xs ys : Array Value} {x a b c : Value} {Q : Option Value → Shared → Prop} (hh : A.handled = none) (D : Z3 z TI TO i1 i2 i3 l1 l2 l3)
    (hz : IsZip s.heap z TI TO .none) (hTI : IsTri s.heap TI (.ref i1) (.ref i2) (.ref i3)) (hTO : IsTri s.heap TO a b c)
    (h1 : s.heap.IsListIter i1 l1 k) (h2 : s.heap.IsListIter i2 l2 k) (hl1 : s.heap.IsList l1 xs) (hl2 : s.heap.IsList l2 ys) (hx : xs[k]? = some x) (hy : ys[k]? = none)
    (hQ : ∀ h', (∀ c o, c ≠ z → c ≠ TO → c ≠ i1 → c ≠ i2 → c ≠ i3 → s.heap.get? c = some o → h'.get? c = some o) → Q none { s with heap := h' }) : wpAny (model prog w) A (pyNext (.ref z)) Q E s := by
  have hT : s.TypeIs (.ref z) "zip" := ⟨_, hz, rfl⟩
  unfold pyNext
  refine wpAny_bind (wpAny_attempt (wpAny_callSpecial?_slot (name := Str.ofString "__next__") hT F.slot_zip_next
    (wpAny_call_entry F.slot_zip_next hT F.entry_zip_next (z3_end hh D hz hTI hTO h1 h2 hl1 hl2 hx hy fun h' e hk he => ?_) (F.args_zip_next_1 _))))
  obtain ⟨o, ho, hc⟩ := he
  refine wpAny_bind (wpAny_isInstance (T := "StopIteration") (b := true) ⟨o, ho, hc⟩ isSubtype_stop ?_)
  exact wpAny_pure (hQ _ hk)
theorem z3_walks (hh : A.handled = none) (z TI TO i1 i2 i3 l1 l2 l3 : Addr) (D : Z3 z TI TO i1 i2 i3 l1 l2 l3) (xs ys zs : Array Value) (hxy : xs.size = ys.size + 1) (hzy : zs.size = ys.size) :
    WalksT prog w A z [z, TI, TO, i1, i2, i3, l1, l2, l3] [z, TO, i1, i2, i3] ys.size
      (fun i vals => ∃ x y v, xs[i]? = some x ∧ ys[i]? = some y ∧ zs[i]? = some v ∧ vals = #[x, y, v])
      (fun i h => IsZip h z TI TO .none ∧ IsTri h TI (.ref i1) (.ref i2) (.ref i3) ∧ (∃ a b c, IsTri h TO a b c) ∧ h.IsListIter i1 l1 i ∧ h.IsListIter i2 l2 i ∧ h.IsListIter i3 l3 i ∧ h.IsList l1 xs ∧ h.IsList l2 ys ∧ h.IsList l3 zs)
      (fun i T h => IsZip h z TI TO (rawInt T) ∧ IsTri h TI (.ref i1) (.ref i2) (.ref i3) ∧ (∃ a b c, IsTri h TO a b c) ∧ h.IsListIter i1 l1 (i + 1) ∧ h.IsListIter i2 l2 (i + 1) ∧ h.IsListIter i3 l3 (i + 1) ∧ h.IsList l1 xs ∧ h.IsList l2 ys ∧ h.IsList l3 zs ∧
        T ≠ z ∧ T ≠ TO ∧ T ≠ i1 ∧ T ≠ i2 ∧ T ≠ i3) where
  sub := fun c hc => by simp at hc ⊢; rcases hc with rfl | rfl | rfl | rfl | rfl <;> simp
  frame := fun i h h' hst hk => by
    obtain ⟨hz, hTI, ⟨a, b, c, hTO⟩, h1, h2, h3, hl1, hl2, hl3⟩ := hst
    exact ⟨hk z (by simp) _ hz, hk TI (by simp) _ hTI, ⟨a, b, c, hk TO (by simp) _ hTO⟩, h1.at fun o e => hk i1 (by simp) o e, h2.at fun o e => hk i2 (by simp) o e, h3.at fun o e => hk i3 (by simp) o e,
      hl1.at fun o e => hk l1 (by simp) o e, hl2.at fun o e => hk l2 (by simp) o e, hl3.at fun o e => hk l3 (by simp) o e⟩
  item := fun i s Q E hi hst hQ => by
    obtain ⟨hz, hTI, ⟨a, b, c, hTO⟩, h1, h2, h3, hl1, hl2, hl3⟩ := hst
    have hix : i < xs.size := by omega
    have hiz : i < zs.size := by omega
    refine z3_pyNext_item D hz hTI hTO h1 h2 h3 hl1 hl2 hl3 (Array.getElem?_eq_getElem hix) (Array.getElem?_eq_getElem hi) (Array.getElem?_eq_getElem hiz) fun h' a1 a2 a3 a4 a5 a6 a7 hk => ?_
    have lt : ∀ {c o}, s.heap.get? c = some o → s.heap.objs.size ≠ c := fun e => Nat.ne_of_gt (Heap.lt_size e)
    exact hQ s.heap.objs.size #[xs[i], ys[i], zs[i]] h' s.toks ⟨_, _, _, Array.getElem?_eq_getElem hix, Array.getElem?_eq_getElem hi, Array.getElem?_eq_getElem hiz, rfl⟩ (Nat.le_refl _) ⟨_, a6, rfl, _, rfl⟩
      ⟨a1, hk _ _ D.TIz D.TITO D.TIi1 D.TIi2 D.TIi3 hTI, ⟨_, _, _, a2⟩, a3, a4, a5, hl1.at fun o e => hk _ o D.l1z D.l1TO D.l1i1 D.l1i2 D.l1i3 e, hl2.at fun o e => hk _ o D.l2z D.l2TO D.l2i1 D.l2i2 D.l2i3 e, hl3.at fun o e => hk _ o D.l3z D.l3TO D.l3i1 D.l3i2 D.l3i3 e,
        lt hz, lt hTO, (by obtain ⟨_, e, _⟩ := h1; exact lt e), (by obtain ⟨_, e, _⟩ := h2; exact lt e), (by obtain ⟨_, e, _⟩ := h3; exact lt e)⟩
      fun c o hc e => hk c o (fun x => hc (by simp [x])) (fun x => hc (by simp [x])) (fun x => hc (by simp [x])) (fun x => hc (by simp [x])) (fun x => hc (by simp [x])) e
  go := fun elts k pos i T s Q E hm hQ => by
    obtain ⟨hz, hTI, ⟨a, b, c, hTO⟩, h1, h2, h3, hl1, hl2, hl3, _⟩ := hm
    refine wpAny_letOwnedTupleGo_zip hz fun h' hz' hs' => hQ h' ⟨hz', hs'.extBut _ _ D.TIz hTI, ⟨a, b, c, hs'.extBut _ _ D.TOz hTO⟩, h1.extBut hs'.extBut D.i1z, h2.extBut hs'.extBut D.i2z, h3.extBut hs'.extBut D.i3z,
      hl1.extBut hs'.extBut D.l1z, hl2.extBut hs'.extBut D.l2z, hl3.extBut hs'.extBut D.l3z⟩ fun c o hc e => hs'.extBut _ _ (fun x => hc (by simp [x])) e
  apart := fun i T h hm hT => by
    obtain ⟨_, _, _, _, _, _, _, _, _, t1, t2, t3, t4, t5⟩ := hm
    simp at hT
    rcases hT with rfl | rfl | rfl | rfl | rfl
    · exact t1 rfl
    · exact t2 rfl
    · exact t3 rfl
    · exact t4 rfl
    · exact t5 rfl
  done := fun s Q E hst hQ => by
    obtain ⟨hz, hTI, ⟨a, b, c, hTO⟩, h1, h2, h3, hl1, hl2, hl3⟩ := hst
    have hix : ys.size < xs.size := by omega
    exact z3_pyNext_end hh D hz hTI hTO h1 h2 hl1 hl2 (Array.getElem?_eq_getElem hix) (Array.getElem?_eq_none (Nat.le_refl _)) fun h' hk => hQ h' s.toks fun c o hc e =>
      hk c o (fun x => hc (by simp [x])) (fun x => hc (by simp [x])) (fun x => hc (by simp [x])) (fun x => hc (by simp [x])) (fun x => hc (by simp [x])) e
  self := fun i s Q E hst hQ => wpAny_pyIter_zip hst.1 hQ
theorem z3_typeCall (a b c : Value) : checkTypeCall "zip" ⟨[a, b, c], []⟩ = pure () := by kernel_rfl
theorem z3_newCall (a b c : Value) : checkBuiltinCall "zip.__new__" ⟨[.type "zip", a, b, c], []⟩ = pure () := by kernel_rfl
theorem z3_initArgs (a b c d : Value) : argsOk "object.__init__" ⟨[a, b, c, d], []⟩ := by
  unfold argsOk; rw [signature?_of (id := "object.__init__") (n := ['_', '_', 't', 'i', 'n', 'i', '_', '_']) (o := ['t', 'c', 'e', 'j', 'b', 'o']) (by kernel_rfl) F.owner_object]; kernel_rfl
theorem z3_call {l1 l2 l3 : Addr} {xs ys zs : Array Value} {Q : Value → Shared → Prop} (hl1 : s.heap.IsList l1 xs) (hl2 : s.heap.IsList l2 ys) (hl3 : s.heap.IsList l3 zs)
    (h : ∀ h', IsZip h' (s.heap.objs.size + 5) (s.heap.objs.size + 3) (s.heap.objs.size + 4) .none → IsTri h' (s.heap.objs.size + 3) (.ref s.heap.objs.size) (.ref (s.heap.objs.size + 1)) (.ref (s.heap.objs.size + 2)) →
      IsTri h' (s.heap.objs.size + 4) .none .none .none → h'.IsListIter s.heap.objs.size l1 0 → h'.IsListIter (s.heap.objs.size + 1) l2 0 → h'.IsListIter (s.heap.objs.size + 2) l3 0 → h'.objs.size = s.heap.objs.size + 6 →
      (∀ c o, s.heap.get? c = some o → h'.get? c = some o) → Q (.ref (s.heap.objs.size + 5)) { s with heap := h' }) :
    wpAny (model prog w) A (call (.type "zip") [.ref l1, .ref l2, .ref l3]) Q E s := by
  refine callType_new F.called_zip (by decide) (z3_typeCall _ _ _) (z3_newCall _ _ _) (fun obj => z3_initArgs obj _ _ _) F.entry_zip_new
    (z3_new l1 l2 l3 xs ys zs) ⟨hl1, hl2, hl3, ?_⟩
  have e1 : (z3H1 s.heap l1).objs.size = s.heap.objs.size + 1 := Heap.size_push ..
  have e2 : (z3H2 s.heap l1 l2).objs.size = s.heap.objs.size + 2 := by rw [Heap.size_push, e1]
  have e3 : (z3H3 s.heap l1 l2 l3).objs.size = s.heap.objs.size + 3 := by rw [Heap.size_push, e2]
  have e4 : (z3H4 s.heap l1 l2 l3).objs.size = s.heap.objs.size + 4 := by rw [Heap.size_push, e3]
  have e5 : (z3H5 s.heap l1 l2 l3).objs.size = s.heap.objs.size + 5 := by rw [Heap.size_push, e4]
  have e6 : (z3H6 s.heap l1 l2 l3).objs.size = s.heap.objs.size + 6 := by rw [Heap.size_push, e5]
  have g6 : (z3H6 s.heap l1 l2 l3).get? (z3H5 s.heap l1 l2 l3).objs.size = some _ := Heap.get?_push_size _ rfl
  have g5 : (z3H6 s.heap l1 l2 l3).get? (z3H4 s.heap l1 l2 l3).objs.size = some _ := Heap.get?_push_of_some _ (Heap.get?_push_size _ rfl)
  have g4 : (z3H6 s.heap l1 l2 l3).get? (z3H3 s.heap l1 l2 l3).objs.size = some _ := Heap.get?_push_of_some _ (Heap.get?_push_of_some _ (Heap.get?_push_size _ rfl))
  have g3 : (z3H6 s.heap l1 l2 l3).get? (z3H2 s.heap l1 l2).objs.size = some _ := Heap.get?_push_of_some _ (Heap.get?_push_of_some _ (Heap.get?_push_of_some _ (Heap.get?_push_size _ rfl)))
  have g2 : (z3H6 s.heap l1 l2 l3).get? (z3H1 s.heap l1).objs.size = some _ := Heap.get?_push_of_some _ (Heap.get?_push_of_some _ (Heap.get?_push_of_some _ (Heap.get?_push_of_some _ (Heap.get?_push_size _ rfl))))
  have g1 : (z3H6 s.heap l1 l2 l3).get? s.heap.objs.size = some _ := Heap.get?_push_of_some _ (Heap.get?_push_of_some _ (Heap.get?_push_of_some _ (Heap.get?_push_of_some _ (Heap.get?_push_of_some _ (Heap.get?_push_size _ rfl)))))
  show _ ∧ _
  rw [e3, e4, e5] at g6
  rw [e1, e2, e3] at g4
  rw [e4] at g5
  rw [e2] at g3
  rw [e1] at g2
  rw [e5]
  exact ⟨⟨_, g6, rfl⟩, h _ g6 g4 g5 ⟨_, g1, rfl, rfl⟩ ⟨_, g2, rfl, rfl⟩ ⟨_, g3, rfl, rfl⟩ e6 fun c o x =>
    Heap.get?_push_of_some _ (Heap.get?_push_of_some _ (Heap.get?_push_of_some _ (Heap.get?_push_of_some _ (Heap.get?_push_of_some _ (Heap.get?_push_of_some _ x)))))⟩
end
end Mine
namespace Mine
section
variable {prog : Program} {w : World} {A : Around} {E : Value → Shared → Prop} {s : Shared} {env : Env} {h₀ : Heap} {body : List Stmt} {Q : Flow → Shared → Prop}
/-- the names that the law's second loop stores -/
def loopNames : List Str := [Str.ofString "begin", Str.ofString "row", Str.ofString "spans", Str.ofString "bits", Str.ofString "after", Str.ofString "span", Str.ofString "due"]
/-- a turn's end -/
def ZipEnd (h₀ : Heap) (L : Addr) (own news : List (Addr × Obj)) (m₀ : Str → Option Value) (s₁ : Shared) (Q : Flow → Shared → Prop) (f : Flow) (s₂ : Shared) : Prop := match f with
  | .ret v => Q (.ret v) s₂
  | .brk => Q .next s₂
  | _ => ∃ h' tk m', s₂ = { s₁ with heap := h', toks := tk } ∧ Fr h₀ L h' m' ∧ News h₀ L h' (own ++ news) ∧ ∀ z, z ∉ loopNames → m' z = m₀ z
theorem z3_apart (I l1 l2 l3 : Nat) (h1 : l1 < I) (h2 : l2 < I) (h3 : l3 < I) : Z3 (I + 5) (I + 3) (I + 4) I (I + 1) (I + 2) l1 l2 l3 := by
  constructor <;> (refine neN ?_; omega)
theorem zip3_turns {elts : List PySem.Expr} {k : Nat} {pos : Pos} {l1 l2 l3 : Addr} {xs ys zs : List Value} {n1 n2 n3 : Nat} {m₀ : Str → Option Value} {news : List (Addr × Obj)}
    (hh : A.handled = none) (F : Fr h₀ env.locals s.heap m₀) (N : News h₀ env.locals s.heap news) (hm1 : (l1, listOf xs.toArray n1) ∈ news) (hm2 : (l2, listOf ys.toArray n2) ∈ news) (hm3 : (l3, listOf zs.toArray n3) ∈ news) (hxy : xs.length = ys.length + 1) (hzy : zs.length = ys.length)
    (turn : ∀ (i : Nat) (x y v : Value) (T : Addr) (m₁ : Str → Option Value) (h : Heap) (tk : Nat) (own : List (Addr × Obj)), xs[i]? = some x → ys[i]? = some y → zs[i]? = some v → IsTup h T #[x, y, v] → (∀ z, z ∉ loopNames → m₁ z = m₀ z) → Fr h₀ env.locals h m₁ → News h₀ env.locals h (own ++ news) →
      wpAny (model prog w) A (assign (.Tuple elts k pos) env (.ref T)) (fun _ s₃ => wpAny (model prog w) A (execs body env) (ZipEnd h₀ env.locals own news m₀ { s with heap := h, toks := tk } Q) E s₃) E { s with heap := h, toks := tk })
    (done : ∀ h tk m', (∀ z, z ∉ loopNames → m' z = m₀ z) → Fr h₀ env.locals h m' → News h₀ env.locals h news → Q .next { s with heap := h, toks := tk }) :
    wpAny (model prog w) A (call (.type "zip") [.ref l1, .ref l2, .ref l3]) (fun xv s₁ => wpAny (model prog w) A (pyIter xv) (fun it s₂ => TurnsAt prog w A h₀ env (.Tuple elts k pos) body Q E it s₂) E s₁) E s := by
  have hl1 := isl_of N hm1
  have hl2 := isl_of N hm2
  have hl3 := isl_of N hm3
  have hlt1 : l1 < s.heap.objs.size := Heap.lt_size (N _ hm1).1
  have hlt2 : l2 < s.heap.objs.size := Heap.lt_size (N _ hm2).1
  have hlt3 : l3 < s.heap.objs.size := Heap.lt_size (N _ hm3).1
  have hLs : env.locals < s.heap.objs.size := F.ns.lt
  have D := z3_apart _ _ _ _ hlt1 hlt2 hlt3
  refine z3_call hl1 hl2 hl3 fun h' hz hTI hTO hi1 hi2 hi3 hsz hk => ?_
  refine wpAny_pyIter_zip hz ?_
  have W := (z3_walks (prog := prog) (w := w) (A := A) hh _ _ _ _ _ _ _ _ _ D xs.toArray ys.toArray zs.toArray (by simp [hxy]) (by simp [hzy])).toU
  refine ⟨_, _, _, _, _, _, _, m₀, news, fun _ m nx => nx = news ∧ ∀ z, z ∉ loopNames → m z = m₀ z, rfl, KTurns.ofWalksU W, ?_, ?_, ?_, ⟨hz, hTI, ⟨_, _, _, hTO⟩, hi1, hi2, hi3, hl1.at fun o e => hk _ o e, hl2.at fun o e => hk _ o e, hl3.at fun o e => hk _ o e⟩, F.keeps hk, N.grown hk, ⟨rfl, fun _ _ => rfl⟩, ?_, ?_⟩
  · intro hI'
    have hb' : env.locals = s.heap.objs.size + 5 ∨ env.locals = s.heap.objs.size + 3 ∨ env.locals = s.heap.objs.size + 4 ∨ env.locals = s.heap.objs.size ∨ env.locals = s.heap.objs.size + 1 ∨ env.locals = s.heap.objs.size + 2 ∨ env.locals = l1 ∨ env.locals = l2 ∨ env.locals = l3 := by simpa using hI'
    rcases hb' with e | e | e | e | e | e | e | e | e
    · exact ktu_ne 5 hLs e
    · exact ktu_ne 3 hLs e
    · exact ktu_ne 4 hLs e
    · exact Nat.ne_of_lt hLs e
    · exact ktu_ne 1 hLs e
    · exact ktu_ne 2 hLs e
    · exact (N _ hm1).2.1 e.symm
    · exact (N _ hm2).2.1 e.symm
    · exact (N _ hm3).2.1 e.symm
  · intro b hb
    have hb' : b = s.heap.objs.size + 5 ∨ b = s.heap.objs.size + 4 ∨ b = s.heap.objs.size ∨ b = s.heap.objs.size + 1 ∨ b = s.heap.objs.size + 2 := by simpa using hb
    rcases hb' with rfl | rfl | rfl | rfl | rfl
    · exact ktu_new F (Nat.le_add_right _ _)
    · exact ktu_new F (Nat.le_add_right _ _)
    · exact ktu_new F (Nat.le_refl _)
    · exact ktu_new F (Nat.le_add_right _ _)
    · exact ktu_new F (Nat.le_add_right _ _)
  · intro p hp hI'
    have hb' : p.1 = s.heap.objs.size + 5 ∨ p.1 = s.heap.objs.size + 4 ∨ p.1 = s.heap.objs.size ∨ p.1 = s.heap.objs.size + 1 ∨ p.1 = s.heap.objs.size + 2 := by simpa using hI'
    have hlp := Heap.lt_size (N p hp).1
    rcases hb' with e | e | e | e | e
    · exact ktu_ne 5 hlp e
    · exact ktu_ne 4 hlp e
    · exact Nat.ne_of_lt hlp e
    · exact ktu_ne 1 hlp e
    · exact ktu_ne 2 hlp e
  · rintro i vv m₁ news₁ h₁ tk₁ own hi ⟨T, vals, rfl, ⟨x, y, v, hx, hy, hv, rfl⟩, hT⟩ ⟨rfl, hJ⟩ hoff _ _ _ _ F₁ N₁
    refine wpAny_mono (turn i x y v T m₁ h₁ tk₁ own (by simpa using hx) (by simpa using hy) (by simpa using hv) hT hJ F₁ N₁) (fun _ s₃ h₃ => wpAny_mono h₃ (fun f s₄ h₄ => ?_) fun _ _ e => e) fun _ _ e => e
    have fin : (∃ h' tk m', s₄ = { s with heap := h', toks := tk } ∧ Fr h₀ env.locals h' m' ∧ News h₀ env.locals h' (own ++ news₁) ∧ ∀ z, z ∉ loopNames → m' z = m₀ z) → LoopStepU h₀ env.locals [s.heap.objs.size + 5, s.heap.objs.size + 4, s.heap.objs.size, s.heap.objs.size + 1, s.heap.objs.size + 2] own (fun m nx => nx = news₁ ∧ ∀ z, z ∉ loopNames → m z = m₀ z) { s with heap := h₁, toks := tk₁ } .next s₄ := by
      rintro ⟨h', tk, m', rfl, F', N', hs⟩
      exact ⟨rfl, h', tk, m', news₁, rfl, F', N', hoff, rfl, hs⟩
    cases f with
    | ret v => exact h₄
    | brk => exact h₄
    | next => exact fin h₄
    | cont => exact fin h₄
  · rintro h'' tk m' news' F' N' _ ⟨rfl, hJ⟩
    exact done h'' tk m' hJ F' N'
theorem list_turns {target : PySem.Expr} {ax : Addr} {vs : List Value} {n : Nat} {m₀ : Str → Option Value} {news : List (Addr × Obj)}
    (hh : A.handled = none) (F : Fr h₀ env.locals s.heap m₀) (N : News h₀ env.locals s.heap news) (hm : (ax, listOf vs.toArray n) ∈ news)
    (turn : ∀ (i : Nat) (v : Value) (m₁ : Str → Option Value) (h : Heap) (tk : Nat) (own : List (Addr × Obj)), vs[i]? = some v → (∀ z, z ∉ loopNames → m₁ z = m₀ z) → Fr h₀ env.locals h m₁ → News h₀ env.locals h (own ++ news) →
      wpAny (model prog w) A (assign target env v) (fun _ s₃ => wpAny (model prog w) A (execs body env) (ZipEnd h₀ env.locals own news m₀ { s with heap := h, toks := tk } Q) E s₃) E { s with heap := h, toks := tk })
    (done : ∀ h tk m', (∀ z, z ∉ loopNames → m' z = m₀ z) → Fr h₀ env.locals h m' → News h₀ env.locals h news → Q .next { s with heap := h, toks := tk }) :
    wpAny (model prog w) A (pyIter (.ref ax)) (fun it s₂ => TurnsAt prog w A h₀ env target body Q E it s₂) E s := by
  have hl := isl_of N hm
  have hlt : ax < s.heap.objs.size := Heap.lt_size (N _ hm).1
  have hLs : env.locals < s.heap.objs.size := F.ns.lt
  refine wpAny_pyIter_list hl ?_
  refine ⟨_, _, _, _, _, _, _, m₀, news, fun _ m nx => nx = news ∧ ∀ z, z ∉ loopNames → m z = m₀ z, rfl, KTurns.ofWalks (Walks.list hh s.heap.objs.size ax (Nat.ne_of_lt hlt) vs.toArray) (fun i v s Q E st q => letGo_listiter st.1 q), ?_, ?_, ?_, ⟨⟨_, Heap.get?_push_size _ rfl, rfl, rfl⟩, hl.at fun o e => Heap.get?_push_of_some _ e⟩, F.push _, (fun p hp => ⟨Heap.get?_push_of_some _ (N p hp).1, (N p hp).2⟩), ⟨rfl, fun _ _ => rfl⟩, ?_, ?_⟩
  · intro hI'
    have hb' : env.locals = s.heap.objs.size ∨ env.locals = ax := by simpa using hI'
    rcases hb' with e | e
    · exact Nat.ne_of_lt hLs e
    · exact (N _ hm).2.1 e.symm
  · intro b hb
    rw [List.mem_singleton.mp hb]
    exact ktu_new F (Nat.le_refl _)
  · intro p hp hI'
    exact Nat.ne_of_lt (Heap.lt_size (N p hp).1) (List.mem_singleton.mp hI')
  · rintro i vv m₁ news₁ h₁ tk₁ own hi hv ⟨rfl, hJ⟩ hoff _ _ _ _ F₁ N₁
    have hv' : vs.toArray[i]? = some vv := hv
    refine wpAny_mono (turn i vv m₁ h₁ tk₁ own (by simpa using hv') hJ F₁ N₁) (fun _ s₃ h₃ => wpAny_mono h₃ (fun f s₄ h₄ => ?_) fun _ _ e => e) fun _ _ e => e
    have fin : (∃ h' tk m', s₄ = { s with heap := h', toks := tk } ∧ Fr h₀ env.locals h' m' ∧ News h₀ env.locals h' (own ++ news₁) ∧ ∀ z, z ∉ loopNames → m' z = m₀ z) → LoopStepU h₀ env.locals [s.heap.objs.size] own (fun m nx => nx = news₁ ∧ ∀ z, z ∉ loopNames → m z = m₀ z) { s with heap := h₁, toks := tk₁ } .next s₄ := by
      rintro ⟨h', tk, m', rfl, F', N', hs⟩
      exact ⟨rfl, h', tk, m', news₁, rfl, F', N', hoff, rfl, hs⟩
    cases f with
    | ret v => exact h₄
    | brk => exact h₄
    | next => exact fin h₄
    | cont => exact fin h₄
  · rintro h'' tk m' news' F' N' _ ⟨rfl, hJ⟩
    exact done h'' tk m' hJ F' N'
end
end Mine
namespace Mine
local macro_rules | `(tactic| walk_at "MINE pad") => `(tactic| fail)
theorem top_off_L11a : True := by
  w_top off
  exact True.intro
local macro_rules | `(tactic| k_room) => `(tactic| ktr_room)
local macro_rules | `(tactic| walk_at "MINE enter") => `(tactic| (refine wpAny_call ?_; k_dflt (refine' code_n ?k3 ?k5 ?k6 ?k7 ?k8 ?k9 ?kB ?_ ?c2 ?c3 ?c4 ?c5; (case k3 => k_asm); (case k5 => k_asm); (case k6 => k_is); (case k7 => k_is); (case k8 => ktr_room); (case k9 => first | exact BindsTo.of_eq rfl | exact binds_K (by k_in) rfl (by k_is) rfl rfl rfl | (refine' kp_binds ?kx ?ke; (case kx => k_in); (case ke => exact fun _ => rfl))); (case c5 => decide); (case kB => exact locs rfl); (case c2 => exact rfl); (case c3 => exact rfl); (case c4 => exact rfl); k_whole; intro L' h' F' N'; (try dsimp only); (try k_fold))))
local macro_rules | `(tactic| walk_at "LeaveN") => `(tactic| (k_dflt (refine' leaveN_ ?k1 ?k2 ?_; (case k1 => k_asm); (case k2 => k_asm); k_whole); intro kK kN; (try dsimp only)))
local macro_rules | `(tactic| walk_at "callWith ref") => `(tactic| (k_here; (with_reducible show wpAny _ _ (callWith _ (Value.ref _) [] (backTo _ (starEach (_ :: _) _)) (backToKw _ (keywordEach (_ :: _) _))) _ _ _); kfb_any; k_dflt (refine' callWith_fbKw ?k1 ?_; (case k1 => exact rfl); k_whole)))
local macro_rules | `(tactic| walk_at "callWith") => `(tactic| (k_here; (with_reducible show wpAny _ _ (callWith _ (Value.builtin _) [_] (backTo _ (starEach (_ :: _) _)) (backToKw _ (keywordEach (_ :: _) _))) _ _ _); k_dflt (refine callWith_bKw ?_; k_whole)))
local macro_rules | `(tactic| walk_at "call ref") => `(tactic| (k_here; (with_reducible show wpAny _ _ (call (Value.ref _) (Value.bytes _ _ :: _) _) _ _ _); kfb_any; k_dflt (first
  | (refine fb_call2 (by k_asm) (by k_mem) (picked_tail (by assumption)) (by kfb_size) ?_)
  | (refine fb_call0 (by k_asm) (by k_mem) (by kba_ints2) (by kfb_size) ?_)
  | (refine fb_call1 (by k_asm) (by k_mem) (by kba_ints2) (by kfb_size) ?_)
  | (refine fb_call2 (by k_asm) (by k_mem) (by kba_ints2) (by kfb_size) ?_)); intro _ _))
local macro_rules | `(tactic| walk_at "subscriptTail") => `(tactic| (k_here; (with_reducible show wpAny _ _ (subscriptTail _ _ (Value.bytes _ _) (Value.int _ _)) _ _ _); (with_unfolding_all refine' bytes_item0 ?k1 ?k2 ?_; (case k1 => assumption); (case k2 => exact Nat.le_of_ble_eq_true rfl); k_whole); intro _ _ _ _))
local macro_rules | `(tactic| walk_at "binaryOp LShift int int") => `(tactic| (k_here; (with_reducible show wpAny _ _ (binaryOp _ (Value.int (Builtin.bitAnd _ _) _) _) _ _ _); k_dflt (refine' lshift_int_small ?k1 ?k2 ?k3 ?_; (case k1 => omega); (case k2 => omega); (case k3 => exact mask_small _); k_whole)))
local macro_rules | `(tactic| walk_at "call type:bytes") => `(tactic| (k_here; (with_reducible show wpAny _ _ (call (Value.type "bytes") [Value.bytes _ _]) _ _ _); (refine bytes_of_bytes ?_)))
local macro_rules | `(tactic| walk_at "call builtin:int.to_bytes") => `(tactic| (k_here; k_dflt (first
  | (refine' tb_32 ?h0 ?h1 ?_; (case h0 => first | assumption | omega); (case h1 => first | assumption | omega); k_whole)
  | (refine' tb_32s ?h0 ?h1 ?_; (case h0 => first | assumption | omega); (case h1 => first | assumption | omega); k_whole)
  | (refine' tb_3s ?h0 ?h1 ?_; (case h0 => first | assumption | omega); (case h1 => first | assumption | omega); k_whole; intro _)); intro _ _))
local macro_rules | `(tactic| walk_at "binaryOp Add bytes bytes") => `(tactic| (k_here; k_dflt (refine' bytes_cons_add ?h0 ?h1 ?hb ?hl ?_; (case h0 => omega); (case h1 => omega); (case hb => assumption); (case hl => exact little3_len); k_whole); intro _ _))
local macro_rules | `(tactic| k_mem) => `(tactic| first | with_reducible assumption | exact List.Mem.head _ | assumption | (refine' List.Mem.tail _ ?_; k_mem) | (refine' List.mem_append_right _ ?_; k_mem))
local macro_rules | `(tactic| walk_at "call ref") => `(tactic| (k_here; k_dflt (show wpAny _ _ (call (Value.ref _) [Value.bytes (cb _) _]) _ _ _); k_dflt (refine' ctn_use (ct_size _ _ _ _ ?h0 ?h1) ?k2 ?k3 ?k4 ?k5 ?hp ?hh ?kd ?ku ?_; (case h0 => first | assumption | omega); (case h1 => first | assumption | omega); (case hp => exact ⟨FnIn.on2 (by assumption) (by k_asm) (by (intro _ h9; repeat (first | exact h9 | refine List.Mem.tail _ ?_ | refine List.mem_append_right _ ?_))), True.intro⟩); (case k2 => k_asm); (case k3 => k_asm); (case k4 => k_asm); (case k5 => k_asm); (case hh => exact rfl); (case kd => ktr_room); (case ku => ktr_units); intro t9 h9 tk9 F9 N9; (try dsimp only); (try k_fold))))
local macro_rules | `(tactic| walk_at "call ref") => `(tactic| (k_here; k_dflt (show wpAny _ _ (call (Value.ref 116) [Value.bytes (cb _) _]) _ _ _); k_dflt (refine' ctn_use (ct_work _ _ _ ?h0 ?h1) ?k2 ?k3 ?k4 ?k5 ?hp ?hh ?kd ?ku ?_; (case h0 => first | assumption | omega); (case h1 => first | assumption | omega); (case hp => exact True.intro); (case k2 => k_asm); (case k3 => k_asm); (case k4 => k_asm); (case k5 => k_asm); (case hh => exact rfl); (case kd => ktr_room); (case ku => ktr_units); intro t9 h9 tk9 F9 N9; (try dsimp only); (try k_fold))))
open PySem.Builtin.Int (intBits)
theorem chain_step : ∀ (es : List Int) (x0 : Int) (i : Nat) {x1 k : Int}, (x0 :: chain x0 es)[i]? = some x1 → es[i]? = some k → (chain x0 es)[i]? = some (stp x1 k)
  | [], _, _, _, _, _, h => nomatch h
  | e :: r, x0, 0, x1, k, h, h2 => by
    cases h
    cases h2
    rfl
  | e :: r, x0, i + 1, x1, k, h, h2 => chain_step r (stp x0 e) i h h2
theorem due_ok {x1 kk : Int} (h : 0 < x1) (h1 : x1 ≤ LIM) (h2 : 0 < stp x1 kk) :
    0 ≤ (if LIM < (tr x1 * (if 4 * 1209600 < (if Int.fdiv 1209600 4 > kk then Int.fdiv 1209600 4 else kk) then 4 * 1209600 else (if Int.fdiv 1209600 4 > kk then Int.fdiv 1209600 4 else kk))).fdiv 1209600 then LIM else (tr x1 * (if 4 * 1209600 < (if Int.fdiv 1209600 4 > kk then Int.fdiv 1209600 4 else kk) then 4 * 1209600 else (if Int.fdiv 1209600 4 > kk then Int.fdiv 1209600 4 else kk))).fdiv 1209600) - tr (stp x1 kk) ∧
    (if LIM < (tr x1 * (if 4 * 1209600 < (if Int.fdiv 1209600 4 > kk then Int.fdiv 1209600 4 else kk) then 4 * 1209600 else (if Int.fdiv 1209600 4 > kk then Int.fdiv 1209600 4 else kk))).fdiv 1209600 then LIM else (tr x1 * (if 4 * 1209600 < (if Int.fdiv 1209600 4 > kk then Int.fdiv 1209600 4 else kk) then 4 * 1209600 else (if Int.fdiv 1209600 4 > kk then Int.fdiv 1209600 4 else kk))).fdiv 1209600) - tr (stp x1 kk) ≤
      (if LIM < (tr x1 * (if 4 * 1209600 < (if Int.fdiv 1209600 4 > kk then Int.fdiv 1209600 4 else kk) then 4 * 1209600 else (if Int.fdiv 1209600 4 > kk then Int.fdiv 1209600 4 else kk))).fdiv 1209600 then LIM else (tr x1 * (if 4 * 1209600 < (if Int.fdiv 1209600 4 > kk then Int.fdiv 1209600 4 else kk) then 4 * 1209600 else (if Int.fdiv 1209600 4 > kk then Int.fdiv 1209600 4 else kk))).fdiv 1209600).fdiv (2 ^ Int.toNat 15) := by
  rw [clampq2]
  have e : (if LIM < (tr x1 * clampq kk).fdiv 1209600 then LIM else (tr x1 * clampq kk).fdiv 1209600) = stp x1 kk := by
    show _ = nx (tr x1) kk
    rw [nx_eq kk (tr_nonneg (Int.le_of_lt h)) (tr_lim h h1), Int.fdiv_eq_ediv_of_nonneg _ (by decide)]
    have : (65535 * 256 ^ 26 : Int) = LIM := rfl
    rw [this]
    omega
  rw [e]
  have hn := tr_near h2
  have hl := tr_le (Int.le_of_lt h2)
  rw [show (2 : Int) ^ Int.toNat 15 = 32768 by decide, Int.fdiv_eq_ediv_of_nonneg _ (by decide)]
  omega
theorem nx_due {x : Int} (h0 : 0 ≤ x) (h1 : x ≤ LIM) (d : Int) : min (x * clampq d / 1209600) LIM = nx x d := (nx_eq d h0 h1).symm
theorem add_bl2 {prog : Program} {w : World} {A : Around} {E : Value → Shared → Prop} {s : Shared} {h₀ : Heap} {L a b : Addr} {m : Str → Option Value} {news : List (Addr × Obj)} {vs us : List Value} {Q : Value → Shared → Prop} (F : Fr h₀ L s.heap m) (N : News h₀ L s.heap news) (hl : s.heap.IsList a vs.toArray) (hb : s.heap.IsList b us.toArray)
    (hz : vs.length + us.length ≤ sizeLine) (h : ∀ D h', Fr h₀ L h' m → News h₀ L h' ((D, listOf (vs ++ us).toArray 0) :: news) → Q (.ref D) { s with heap := h' }) : wpAny (model prog w) A (binaryOp .Add (.ref a) (.ref b)) Q E s :=
  add_lists F N hl hb (fun h' F' N' => h _ h' F' N') hz
local macro_rules | `(tactic| walk_at "binaryOp Add ref ref") => `(tactic| (k_here; k_dflt (refine' add_bl2 ?F ?N (isl_of ?N2 ?m2) (isl_of ?N3 ?m3) ?z ?_; (case F => k_asm); (case N => k_asm); (case N2 => k_asm); (case m2 => k_mem); (case N3 => k_asm); (case m3 => k_mem); (case z => (rw [PySem.sizeLine_eq]; simp only [List.length_cons, List.length_nil]; omega)); k_whole); intro l9 h9 F9 N9))
local macro_rules | `(tactic| walk_at "exec For Tuple List cons nil") => `(tactic| (k_here; (rename Fr _ _ _ _ => lF'); (with_unfolding_all refine' For_turns lF' ?_; k_whole)))
local macro_rules | `(tactic| walk_at "exec For Tuple Call cons nil") => `(tactic| (k_here; (rename Fr _ _ _ _ => lF'); (with_unfolding_all refine' For_turns lF' ?_; k_whole)))
local macro_rules | `(tactic| walk_at "pyIter ref") => `(tactic| (refine Stop.mk ?_))
local macro_rules | `(tactic| walk_at "call type:zip") => `(tactic| (refine Stop.mk ?_))
local macro_rules | `(tactic| walk_at "ZipEnd") => `(tactic| (refine Stop.mk ?_))
local macro_rules | `(tactic| walk_at "binaryOp FloorDiv int int") => `(tactic| (k_here; k_dflt (refine' floordiv_int ?hb ?_ (Or.inl (PyProof.noPylong_of_log2 (log2_small ?h0 ?h1))); (case hb => omega); (case h0 => omega); (case h1 => assumption); k_whole)))
local macro_rules | `(tactic| walk_at "binaryOp Mult int int") => `(tactic| (k_here; k_dflt (refine' mul_int ?_ ?hm; (case hm => exact imo_big (by first | assumption | decide) (by first | assumption | decide)); k_whole)))
def forBody : Stmt → List Stmt
  | .For _ _ b _ _ => b
  | _ => []
/-- the law's inner loop -/
def stmI : Stmt := (forBody (stm 11)).getD 0 (.Pass default)
set_option maxHeartbeats 8000000 in
theorem inner (w : World) (p : Program) (loose : List Str) (mean : ExcName → Option Value) (mg mb : Str → Option Value) (h₀ : Heap) (L fa fd fs ff l : Addr) (vs : List Value) (ns : List Int) (tw : Tok) (m : Str → Option Value) (news : List (Addr × Obj)) (s : Shared) (Q : Flow → Shared → Prop) (E : Value → Shared → Prop)
    (hx : Ctx w p loose mean mg mb h₀ L fd fs ff l vs ns tw news) (F : Fr h₀ L s.heap m) (N : News h₀ L s.heap news) (x0 : Int) (tb tl : Tok) (h0 : 2 ^ 19 ≤ x0) (h1 : x0 ≤ LIM) (ar as : Addr) (ur us : List Value) (nr na : Nat) (es : List Int) (hbr : BL ur (chain x0 es)) (hes : IntsAre us es) (hel : es.length ≤ 5) (hrm : (ar, listOf ur.toArray nr) ∈ news) (ham : (as, listOf us.toArray na) ∈ news)
    (hE : PassesOwn (model PySem.Challenge.rw_fc0027_01.row.prog w) (callerA.deeper (envOfC (Str.ofString "law") lawScope L fa (.ref 134))) (envOfC (Str.ofString "law") lawScope L fa (.ref 134)) E)
    (hm1 : m (Str.ofString "begin") = some (.bytes (cb x0) tb)) (hm2 : m (Str.ofString "row") = some (.ref ar)) (hm3 : m (Str.ofString "spans") = some (.ref as)) (hm4 : m (Str.ofString "size") = some (.ref fs)) (hm5 : m (Str.ofString "limit") = some (.int LIM tl))
    (hQ : ∀ (m' : Str → Option Value) (h' : Heap) (tk' : Nat), (∀ z, z ∉ loopNames → m' z = m z) → Fr h₀ L h' m' → News h₀ L h' news → Q .next { s with heap := h', toks := tk' }) :
    wpAny (model PySem.Challenge.rw_fc0027_01.row.prog w) (callerA.deeper (envOfC (Str.ofString "law") lawScope L fa (.ref 134))) (exec stmI (envOfC (Str.ofString "law") lawScope L fa (.ref 134))) Q E s := by
  have X9 := hx.X
  revert X9
  k_fill
  intro X9
  clear X9
  obtain ⟨X, T, B, C, hl, hi, hlen, hbits, ⟨oS, hS, hSd⟩, ⟨oD, hD, hDd⟩, ⟨oW, hW, hWd⟩, hfd, hfs, hff⟩ := hx
  have hfd2 := hfd
  have hfs2 := hfs
  have hff2 := hff
  obtain ⟨dq, ddc, dpm, dcc, dct, doc, dvs, dt, d1, d2, d3, d4⟩ := hfd2
  obtain ⟨sq, sdc, spm, scc, sct, soc, svs, st, s1, s2, s3, s4⟩ := hfs2
  obtain ⟨fq, fdc, fpm, fcc, fct, foc, fvs, ft, f1, f2, f3, f4⟩ := hff2
  conv in stmI => whnf
  rw [names_at (m := m) [(Str.ofString "begin", .bytes (cb x0) tb), (Str.ofString "row", .ref ar), (Str.ofString "spans", .ref as), (Str.ofString "size", .ref fs), (Str.ofString "limit", .int LIM tl)] (List.forall_mem_cons.mpr ⟨hm1, List.forall_mem_cons.mpr ⟨hm2, List.forall_mem_cons.mpr ⟨hm3, List.forall_mem_cons.mpr ⟨hm4, List.forall_mem_cons.mpr ⟨hm5, fun _ h => nomatch h⟩⟩⟩⟩⟩)] at F hQ
  have hul : ur.length = es.length := by rw [hbr.length, chain_length]
  have hurl : ur.length ≤ 5 := by omega
  k_steps
  refine Stop.out ?_
  rename Fr _ _ _ _ => F5
  rename News _ _ _ _ => N5
  (with_unfolding_all refine' zip3_turns ?r1 F5 N5 (.head _) ?m2 ?m3 ?hxy ?hzy ?turn ?done)
  case r1 => rfl
  case m2 => k_mem
  case m3 => k_mem
  case hxy => simp
  case hzy => rw [hes.length, hul]
  case done =>
    intro h tk m' hs F6 N6
    exact hQ m' h tk hs F6 (news_sub N6 (by (intro _ h9; repeat (first | exact h9 | refine List.Mem.tail _ ?_ | refine List.mem_append_right _ ?_))))
  case turn =>
    intro i x y vv T m₁ h tk own hx hy hv hT hs F6 N6
    obtain ⟨kk, tk1, rfl, hkk⟩ := IntsAre.at hes i vv hv
    obtain ⟨y1, ty, hy1, rfl⟩ := hbr.get i hy
    have hbb : BL ([Value.bytes (cb x0) tb] ++ ur) (x0 :: chain x0 es) := .cons hbr
    obtain ⟨x1, tx, hx1, rfl⟩ := hbb.get i hx
    have hw1 : (2 : Int) ^ (2 + 2 * es.length) ≤ x0 := Int.le_trans (pow_mono2 (show 2 + 2 * es.length ≤ 12 by omega)) (Int.le_trans (by decide) h0)
    have hin : ∀ z ∈ x0 :: chain x0 es, (2 : Int) ^ 2 ≤ z ∧ z ≤ LIM := List.forall_mem_cons.mpr ⟨⟨Int.le_trans (by decide) h0, h1⟩, chain_in es x0 2 hw1 h1⟩
    have p4 : (0 : Int) < 2 ^ 2 := by decide
    obtain ⟨b4, z1⟩ := hin x1 (List.mem_of_getElem? hx1)
    have y1p : 0 < x1 := Int.lt_of_lt_of_le p4 b4
    have hstep := chain_step es x0 i hx1 hkk
    rw [hy1] at hstep
    obtain rfl : y1 = stp x1 kk := Option.some.inj hstep
    obtain ⟨b5, z2⟩ := hin _ (.tail _ (List.mem_of_getElem? hy1))
    have y2p : 0 < stp x1 kk := Int.lt_of_lt_of_le p4 b5
    have hnear := tr_near y2p
    have hlo := wk_lo y2p
    have hhi := wk_hi y2p
    have hcl := clampq_in kk
    have htp := tr_pos y1p
    have htl := tr_lim y1p z1
    have htp2 := tr_pos y2p
    have htl2 := tr_lim y2p z2
    have hdue := nx_due (Int.le_of_lt htp) htl kk
    clear hin hx1 hy1 hstep
    have ms1 : m₁ (Str.ofString "size") = some (.ref fs) := (hs _ (by decide)).trans rfl
    have ms2 : m₁ (Str.ofString "limit") = some (.int LIM tl) := (hs _ (by decide)).trans rfl
    have heq := names_at (m := m₁) [(Str.ofString "size", .ref fs), (Str.ofString "limit", .int LIM tl)] (List.forall_mem_cons.mpr ⟨ms1, List.forall_mem_cons.mpr ⟨ms2, fun _ h => nomatch h⟩⟩)
    rw [heq] at F6
    have hb1 : intBits (tr x1) ≤ 2097152 := Nat.le_trans (bits_le_of (Int.le_of_lt htp) (lt240 htl)) (by decide)
    have hb2 : intBits (clampq kk) ≤ 2097152 := Nat.le_trans (intBits_le_64 (by omega) (by omega)) (by decide)
    rw [← clampq2] at hb2
    have hb3 : intBits (wk (stp x1 kk)) ≤ 2097152 := Nat.le_trans (bits_le_of (k := 257) (wk_nonneg y2p) (Int.lt_of_le_of_lt (wk_small y2p) (by decide))) (by decide)
    have hb4 : intBits (tr (stp x1 kk) + 1) ≤ 2097152 := Nat.le_trans (bits_le_of (k := 241) (by omega) (Int.lt_of_le_of_lt (Int.add_le_add_right htl2 1) (by decide))) (by decide)
    have hb5 : intBits (wk (stp x1 kk) + 1) ≤ 2097152 := Nat.le_trans (bits_le_of (k := 258) (Int.le_trans (wk_nonneg y2p) (by omega)) (Int.lt_of_le_of_lt (Int.add_le_add_right (wk_small y2p) 1) (by decide))) (by decide)
    have hp0 : 0 ≤ tr x1 * clampq kk := Int.mul_nonneg (Int.le_of_lt htp) (by omega)
    have hp1 : tr x1 * clampq kk < 2 ^ 300 := Int.lt_of_le_of_lt (Int.mul_le_mul_of_nonneg_left hcl.2 (Int.le_of_lt htp)) (Int.lt_of_le_of_lt (Int.mul_le_mul_of_nonneg_right htl (by decide)) (by decide))
    rw [← clampq2] at hp0 hp1
    have hd := due_ok (kk := kk) y1p z1 y2p
    clear hdue hnear
    k_steps
    all_goals (refine Stop.out ?_)
    all_goals first
      | exact absurd hlo (by assumption)
      | exact absurd hhi (by assumption)
      | exact absurd hd.1 (by assumption)
      | exact absurd hd.2 (by assumption)
      | skip
    refine ⟨_, _, _, rfl, by k_asm, by k_asm, fun z hz => ?_⟩
    have e1 : z ≠ Str.ofString "due" := fun e => hz (by rw [e]; decide)
    have e2 : z ≠ Str.ofString "span" := fun e => hz (by rw [e]; decide)
    have e3 : z ≠ Str.ofString "after" := fun e => hz (by rw [e]; decide)
    have e4 : z ≠ Str.ofString "bits" := fun e => hz (by rw [e]; decide)
    simp only [if_neg e1, if_neg e2, if_neg e3, if_neg e4]
    rw [← heq]
    exact hs z hz
end Mine
namespace Mine
theorem top_off_L11 : True := by
  w_top off
  exact True.intro
local macro_rules | `(tactic| k_room) => `(tactic| ktr_room)
local macro_rules | `(tactic| walk_at "MINE enter") => `(tactic| (refine wpAny_call ?_; k_dflt (refine' code_n ?k3 ?k5 ?k6 ?k7 ?k8 ?k9 ?kB ?_ ?c2 ?c3 ?c4 ?c5; (case k3 => k_asm); (case k5 => k_asm); (case k6 => k_is); (case k7 => k_is); (case k8 => ktr_room); (case k9 => first | exact BindsTo.of_eq rfl | exact binds_K (by k_in) rfl (by k_is) rfl rfl rfl | (refine' kp_binds ?kx ?ke; (case kx => k_in); (case ke => exact fun _ => rfl))); (case c5 => decide); (case kB => exact locs rfl); (case c2 => exact rfl); (case c3 => exact rfl); (case c4 => exact rfl); k_whole; intro L' h' F' N'; (try dsimp only); (try k_fold))))
local macro_rules | `(tactic| walk_at "LeaveN") => `(tactic| (k_dflt (refine' leaveN_ ?k1 ?k2 ?_; (case k1 => k_asm); (case k2 => k_asm); k_whole); intro kK kN; (try dsimp only)))
local macro_rules | `(tactic| walk_at "callWith ref") => `(tactic| (k_here; (with_reducible show wpAny _ _ (callWith _ (Value.ref _) [] (backTo _ (starEach (_ :: _) _)) (backToKw _ (keywordEach (_ :: _) _))) _ _ _); kfb_any; k_dflt (refine' callWith_fbKw ?k1 ?_; (case k1 => exact rfl); k_whole)))
local macro_rules | `(tactic| walk_at "callWith") => `(tactic| (k_here; (with_reducible show wpAny _ _ (callWith _ (Value.builtin _) [_] (backTo _ (starEach (_ :: _) _)) (backToKw _ (keywordEach (_ :: _) _))) _ _ _); k_dflt (refine callWith_bKw ?_; k_whole)))
local macro_rules | `(tactic| walk_at "call ref") => `(tactic| (k_here; (with_reducible show wpAny _ _ (call (Value.ref _) (Value.bytes _ _ :: _) _) _ _ _); kfb_any; k_dflt (first
  | (refine fb_call2 (by k_asm) (by k_mem) (picked_tail (by assumption)) (by kfb_size) ?_)
  | (refine fb_call0 (by k_asm) (by k_mem) (by kba_ints2) (by kfb_size) ?_)
  | (refine fb_call1 (by k_asm) (by k_mem) (by kba_ints2) (by kfb_size) ?_)
  | (refine fb_call2 (by k_asm) (by k_mem) (by kba_ints2) (by kfb_size) ?_)); intro _ _))
local macro_rules | `(tactic| walk_at "subscriptTail") => `(tactic| (k_here; (with_reducible show wpAny _ _ (subscriptTail _ _ (Value.bytes _ _) (Value.int _ _)) _ _ _); (with_unfolding_all refine' bytes_item0 ?k1 ?k2 ?_; (case k1 => assumption); (case k2 => exact Nat.le_of_ble_eq_true rfl); k_whole); intro _ _ _ _))
local macro_rules | `(tactic| walk_at "binaryOp LShift int int") => `(tactic| (k_here; (with_reducible show wpAny _ _ (binaryOp _ (Value.int (Builtin.bitAnd _ _) _) _) _ _ _); k_dflt (refine' lshift_int_small ?k1 ?k2 ?k3 ?_; (case k1 => omega); (case k2 => omega); (case k3 => exact mask_small _); k_whole)))
local macro_rules | `(tactic| walk_at "call type:bytes") => `(tactic| (k_here; (with_reducible show wpAny _ _ (call (Value.type "bytes") [Value.bytes _ _]) _ _ _); (refine bytes_of_bytes ?_)))
local macro_rules | `(tactic| walk_at "call builtin:int.to_bytes") => `(tactic| (k_here; k_dflt (first
  | (refine' tb_32 ?h0 ?h1 ?_; (case h0 => first | assumption | omega); (case h1 => first | assumption | omega); k_whole)
  | (refine' tb_32s ?h0 ?h1 ?_; (case h0 => first | assumption | omega); (case h1 => first | assumption | omega); k_whole)
  | (refine' tb_3s ?h0 ?h1 ?_; (case h0 => first | assumption | omega); (case h1 => first | assumption | omega); k_whole; intro _)); intro _ _))
local macro_rules | `(tactic| walk_at "binaryOp Add bytes bytes") => `(tactic| (k_here; k_dflt (refine' bytes_cons_add ?h0 ?h1 ?hb ?hl ?_; (case h0 => omega); (case h1 => omega); (case hb => assumption); (case hl => exact little3_len); k_whole); intro _ _))
local macro_rules | `(tactic| k_mem) => `(tactic| first | with_reducible assumption | exact List.Mem.head _ | assumption | (refine' List.Mem.tail _ ?_; k_mem) | (refine' List.mem_append_right _ ?_; k_mem))
local macro_rules | `(tactic| walk_at "exec For Tuple List cons nil") => `(tactic| (k_here; (rename Fr _ _ _ _ => lF'); (with_unfolding_all refine' For_turns lF' ?_; k_whole)))
local macro_rules | `(tactic| walk_at "exec For Tuple Call cons nil") => `(tactic| (k_here; (rename Fr _ _ _ _ => lF'); (with_unfolding_all refine' For_turns lF' ?_; k_whole)))
local macro_rules | `(tactic| walk_at "pyIter ref") => `(tactic| (refine Stop.mk ?_))
local macro_rules | `(tactic| walk_at "call type:zip") => `(tactic| (refine Stop.mk ?_))
local macro_rules | `(tactic| walk_at "ZipEnd") => `(tactic| (refine Stop.mk ?_))
local macro_rules | `(tactic| walk_at "exec For Tuple Call cons nil") => `(tactic| (refine Stop.mk ?_))
theorem Ctx.mono {w : World} {p : Program} {loose : List Str} {mean : ExcName → Option Value} {mg mb : Str → Option Value} {h₀ : Heap} {L fd fs ff l : Addr} {vs : List Value} {ns : List Int} {tw : Tok} {news news' : List (Addr × Obj)}
    (h : Ctx w p loose mean mg mb h₀ L fd fs ff l vs ns tw news) (hs : ∀ x ∈ news, x ∈ news') : Ctx w p loose mean mg mb h₀ L fd fs ff l vs ns tw news' where
  X := h.X
  T := h.T
  B := h.B
  C := h.C
  hl := h.hl
  hi := h.hi
  hlen := h.hlen
  hbits := h.hbits
  script := let ⟨o, a, b⟩ := h.script; ⟨o, hs _ a, b⟩
  draw := let ⟨o, a, b⟩ := h.draw; ⟨o, hs _ a, b⟩
  weeks := let ⟨o, a, b⟩ := h.weeks; ⟨o, hs _ a, b⟩
  fdraw := let ⟨a1, a2, a3, a4, a5, a6, a7, a8, b1, b2, b3⟩ := h.fdraw; ⟨a1, a2, a3, a4, a5, a6, a7, a8, hs _ b1, hs _ b2, b3⟩
  fsize := let ⟨a1, a2, a3, a4, a5, a6, a7, a8, b1, b2, b3⟩ := h.fsize; ⟨a1, a2, a3, a4, a5, a6, a7, a8, hs _ b1, hs _ b2, b3⟩
  ffollow := let ⟨a1, a2, a3, a4, a5, a6, a7, a8, b1, b2, b3⟩ := h.ffollow; ⟨a1, a2, a3, a4, a5, a6, a7, a8, hs _ b1, hs _ b2, b3⟩
set_option maxHeartbeats 8000000 in
theorem seg11 (w : World) (p : Program) (loose : List Str) (mean : ExcName → Option Value) (mg mb : Str → Option Value) (h₀ : Heap) (L fa fd fs ff l : Addr) (vs : List Value) (ns : List Int) (tw : Tok) (m : Str → Option Value) (news : List (Addr × Obj)) (s : Shared) (Q : Flow → Shared → Prop) (E : Value → Shared → Prop)
    (hx : Ctx w p loose mean mg mb h₀ L fd fs ff l vs ns tw news) (F : Fr h₀ L s.heap m) (N : News h₀ L s.heap news) (v u : Int) (tv tu tl : Tok) (hv0 : 2 ^ 20 ≤ v) (hv1 : v ≤ LIM) (hu0 : 2 ^ 19 ≤ u) (huv : u ≤ v) (a : Addr) (us : List Value) (na : Nat) (ds qs : List Int) (hds : IntsAre us ds) (hdl : ds.length ≤ 5) (hdom : Dom qs ds) (ham : (a, listOf us.toArray na) ∈ news) (b : Addr) (ws : List Value) (nb : Nat) (hqs : IntsAre ws qs) (hbm : (b, listOf ws.toArray nb) ∈ news)
    (a1 a2 a3 : Addr) (u1 u2 u3 : List Value) (n1 n2 n3 : Nat) (hb1 : BL u1 (chain v ds)) (hb2 : BL u2 (chain v qs)) (hb3 : BL u3 (chain u ds)) (hc1 : (a1, listOf u1.toArray n1) ∈ news) (hc2 : (a2, listOf u2.toArray n2) ∈ news) (hc3 : (a3, listOf u3.toArray n3) ∈ news)
    (hE : PassesOwn (model PySem.Challenge.rw_fc0027_01.row.prog w) (callerA.deeper (envOfC (Str.ofString "law") lawScope L fa (.ref 134))) (envOfC (Str.ofString "law") lawScope L fa (.ref 134)) E)
    (hm1 : m (Str.ofString "slow") = some (.ref a)) (hm2 : m (Str.ofString "first") = some (.ref a1)) (hm3 : m (Str.ofString "second") = some (.ref a2)) (hm4 : m (Str.ofString "third") = some (.ref a3)) (hm5 : m (Str.ofString "size") = some (.ref fs)) (hm6 : m (Str.ofString "quick") = some (.ref b)) (hm7 : m (Str.ofString "start") = some (.bytes (cb v) tv)) (hm8 : m (Str.ofString "lesser") = some (.bytes (cb u) tu)) (hm9 : m (Str.ofString "limit") = some (.int LIM tl))
    (hQ : ∀ (m' : Str → Option Value) (h' : Heap) (tk' : Nat), (∀ z, z ∉ loopNames → m' z = m z) → Fr h₀ L h' m' → News h₀ L h' news → Q .next { s with heap := h', toks := tk' }) :
    wpAny (model PySem.Challenge.rw_fc0027_01.row.prog w) (callerA.deeper (envOfC (Str.ofString "law") lawScope L fa (.ref 134))) (exec (stm 11) (envOfC (Str.ofString "law") lawScope L fa (.ref 134))) Q E s := by
  have hx0 := hx
  have X9 := hx.X
  revert X9
  k_fill
  intro X9
  clear X9
  obtain ⟨X, T, B, C, hl, hi, hlen, hbits, ⟨oS, hS, hSd⟩, ⟨oD, hD, hDd⟩, ⟨oW, hW, hWd⟩, hfd, hfs, hff⟩ := hx
  have hfd2 := hfd
  have hfs2 := hfs
  have hff2 := hff
  obtain ⟨dq, ddc, dpm, dcc, dct, doc, dvs, dt, d1, d2, d3, d4⟩ := hfd2
  obtain ⟨sq, sdc, spm, scc, sct, soc, svs, st, s1, s2, s3, s4⟩ := hfs2
  obtain ⟨fq, fdc, fpm, fcc, fct, foc, fvs, ft, f1, f2, f3, f4⟩ := hff2
  conv in stm _ => whnf
  rw [names_at (m := m) [(Str.ofString "slow", .ref a), (Str.ofString "first", .ref a1), (Str.ofString "second", .ref a2), (Str.ofString "third", .ref a3), (Str.ofString "size", .ref fs), (Str.ofString "quick", .ref b), (Str.ofString "start", .bytes (cb v) tv), (Str.ofString "lesser", .bytes (cb u) tu), (Str.ofString "limit", .int LIM tl)] (List.forall_mem_cons.mpr ⟨hm1, List.forall_mem_cons.mpr ⟨hm2, List.forall_mem_cons.mpr ⟨hm3, List.forall_mem_cons.mpr ⟨hm4, List.forall_mem_cons.mpr ⟨hm5, List.forall_mem_cons.mpr ⟨hm6, List.forall_mem_cons.mpr ⟨hm7, List.forall_mem_cons.mpr ⟨hm8, List.forall_mem_cons.mpr ⟨hm9, fun _ h => nomatch h⟩⟩⟩⟩⟩⟩⟩⟩⟩)] at F hQ
  have hql : qs.length ≤ 5 := by rw [hdom.length]; exact hdl
  have hv19 : 2 ^ 19 ≤ v := Int.le_trans (by decide) hv0
  have hu1 : u ≤ LIM := Int.le_trans huv hv1
  k_steps
  refine Stop.out ?_
  rename Fr _ _ _ _ => F5
  rename News _ _ _ _ => N5
  (with_unfolding_all refine' list_turns ?r1 F5 N5 (.head _) ?turn ?done)
  case r1 => rfl
  case done =>
    intro h tk m' hs F6 N6
    exact hQ m' h tk hs F6 (news_sub N6 (by (intro _ h9; repeat (first | exact h9 | refine List.Mem.tail _ ?_ | refine List.mem_append_right _ ?_))))
  case turn =>
  intro i vv m₁ h tk own hvv hs F6 N6
  have ms1 : m₁ (Str.ofString "size") = some (.ref fs) := (hs _ (by decide)).trans rfl
  have ms2 : m₁ (Str.ofString "limit") = some (.int LIM tl) := (hs _ (by decide)).trans rfl
  have heq := names_at (m := m₁) [(Str.ofString "size", .ref fs), (Str.ofString "limit", .int LIM tl)] (List.forall_mem_cons.mpr ⟨ms1, List.forall_mem_cons.mpr ⟨ms2, fun _ h => nomatch h⟩⟩)
  rw [heq] at F6
  have hi3 : i < 3 := (List.getElem?_eq_some_iff.mp hvv).1
  clear F5 N5
  have hcase : i = 0 ∨ i = 1 ∨ i = 2 := by omega
  rcases hcase with rfl | rfl | rfl
  · cases hvv
    k_steps
    refine Stop.out ?_
    rename Fr _ _ _ _ => F7
    rename News _ _ _ _ => N7
    refine inner w p loose mean mg mb h₀ L fa fd fs ff l vs ns tw _ _ _ _ E (hx0.mono (by (intro _ h9; repeat (first | exact h9 | refine List.Mem.tail _ ?_ | refine List.mem_append_right _ ?_)))) F7 N7 v tv tl hv19 hv1 a1 a u1 us n1 na ds hb1 hds hdl (by k_mem) (by k_mem) hE rfl rfl rfl rfl rfl ?_
    intro m' h' tk' hs7 F8 N8
    clear F7 N7
    k_steps
    refine Stop.out ?_
    refine ⟨_, _, _, rfl, F8, N8, fun z hz => (hs7 z hz).trans ?_⟩
    have e1 : z ≠ Str.ofString "begin" := fun e => hz (by rw [e]; decide)
    have e2 : z ≠ Str.ofString "row" := fun e => hz (by rw [e]; decide)
    have e3 : z ≠ Str.ofString "spans" := fun e => hz (by rw [e]; decide)
    simp only [if_neg e1, if_neg e2, if_neg e3]
    rw [← heq]
    exact hs z hz
  · cases hvv
    k_steps
    refine Stop.out ?_
    rename Fr _ _ _ _ => F7
    rename News _ _ _ _ => N7
    refine inner w p loose mean mg mb h₀ L fa fd fs ff l vs ns tw _ _ _ _ E (hx0.mono (by (intro _ h9; repeat (first | exact h9 | refine List.Mem.tail _ ?_ | refine List.mem_append_right _ ?_)))) F7 N7 v tv tl hv19 hv1 a2 b u2 ws n2 nb qs hb2 hqs hql (by k_mem) (by k_mem) hE rfl rfl rfl rfl rfl ?_
    intro m' h' tk' hs7 F8 N8
    clear F7 N7
    k_steps
    refine Stop.out ?_
    refine ⟨_, _, _, rfl, F8, N8, fun z hz => (hs7 z hz).trans ?_⟩
    have e1 : z ≠ Str.ofString "begin" := fun e => hz (by rw [e]; decide)
    have e2 : z ≠ Str.ofString "row" := fun e => hz (by rw [e]; decide)
    have e3 : z ≠ Str.ofString "spans" := fun e => hz (by rw [e]; decide)
    simp only [if_neg e1, if_neg e2, if_neg e3]
    rw [← heq]
    exact hs z hz
  · cases hvv
    k_steps
    refine Stop.out ?_
    rename Fr _ _ _ _ => F7
    rename News _ _ _ _ => N7
    refine inner w p loose mean mg mb h₀ L fa fd fs ff l vs ns tw _ _ _ _ E (hx0.mono (by (intro _ h9; repeat (first | exact h9 | refine List.Mem.tail _ ?_ | refine List.mem_append_right _ ?_)))) F7 N7 u tu tl hu0 hu1 a3 a u3 us n3 na ds hb3 hds hdl (by k_mem) (by k_mem) hE rfl rfl rfl rfl rfl ?_
    intro m' h' tk' hs7 F8 N8
    clear F7 N7
    k_steps
    refine Stop.out ?_
    refine ⟨_, _, _, rfl, F8, N8, fun z hz => (hs7 z hz).trans ?_⟩
    have e1 : z ≠ Str.ofString "begin" := fun e => hz (by rw [e]; decide)
    have e2 : z ≠ Str.ofString "row" := fun e => hz (by rw [e]; decide)
    have e3 : z ≠ Str.ofString "spans" := fun e => hz (by rw [e]; decide)
    simp only [if_neg e1, if_neg e2, if_neg e3]
    rw [← heq]
    exact hs z hz

end Mine
namespace Mine
section
variable {M : Model} {A : Around} {E : Value → Shared → Prop} {s : Shared} {env : Env} {Q : Flow → Shared → Prop}
theorem ex_cons {a : Stmt} {rest : List Stmt} (h : wpAny M A (exec a env) (fun f s' => match f with | .next => wpAny M A (execs rest env) Q E s' | f => Q f s') E s) : wpAny M A (execs (a :: rest) env) Q E s := by
  rw [execs_cons]
  refine wpAny_bind (wpAny_mono h (fun f s' hf => ?_) fun _ _ e => e)
  cases f with
  | next => exact hf
  | ret v => exact wpAny_pure hf
  | brk => exact wpAny_pure hf
  | cont => exact wpAny_pure hf
end
set_option maxHeartbeats 4000000 in
theorem law_tail (w : World) (p : Program) (loose : List Str) (mean : ExcName → Option Value) (mg mb : Str → Option Value) (h₀ : Heap) (L fa fd fs ff l : Addr) (vs : List Value) (ns : List Int) (tw : Tok) (m : Str → Option Value) (B0 : List (Addr × Obj)) (s : Shared) (Q : Flow → Shared → Prop) (E : Value → Shared → Prop)
    (hx : Ctx w p loose mean mg mb h₀ L fd fs ff l vs ns tw B0) (F : Fr h₀ L s.heap m) (N : News h₀ L s.heap ((118, tabObj #[]) :: B0)) (hB : ∀ x ∈ B0, x.1 ≠ 118) (hG : AllBare s.gens)
    (hE : PassesOwn (model PySem.Challenge.rw_fc0027_01.row.prog w) (callerA.deeper (envOfC (Str.ofString "law") lawScope L fa (.ref 134))) (envOfC (Str.ofString "law") lawScope L fa (.ref 134)) E) (tl : Tok) (hlim : m (Str.ofString "limit") = some (.int LIM tl)) (hsize : m (Str.ofString "size") = some (.ref fs)) (hfollow : m (Str.ofString "follow") = some (.ref ff))
    (hQ : ∀ (ps' : Array Value) (s' : Shared) (m' : Str → Option Value), AllBare s'.gens → s'.os = s.os → Fr h₀ L s'.heap m' → News h₀ L s'.heap ((118, tabObj ps') :: B0) → Q (.ret (.bool true)) s') :
    wpAny (model PySem.Challenge.rw_fc0027_01.row.prog w) (callerA.deeper (envOfC (Str.ofString "law") lawScope L fa (.ref 134))) (exec (stm 4) (envOfC (Str.ofString "law") lawScope L fa (.ref 134))) (fun f s' => match f with | .next => wpAny (model PySem.Challenge.rw_fc0027_01.row.prog w) (callerA.deeper (envOfC (Str.ofString "law") lawScope L fa (.ref 134))) (execs (lawBody.drop 5) (envOfC (Str.ofString "law") lawScope L fa (.ref 134))) Q E s' | f => Q f s') E s := by
  refine (seg4 w p loose mean mg mb h₀ L fa fd fs ff l vs ns tw m _ s _ E (hx.cons _) F N tl hlim ?_)
  intro v t4 h4 k4 hv0 hv1 F4 N4
  dsimp only
  rw [show lawBody.drop 5 = stm 5 :: lawBody.drop 6 from rfl]
  refine ex_cons (seg5 w p loose mean mg mb h₀ L fa fd fs ff l vs ns tw _ _ _ _ E (hx.cons _) F4 N4 v t4 hv0 hv1 (by first | rfl | assumption) ?_)
  intro t5 h5 k5 F5 N5
  dsimp only
  rw [show lawBody.drop 6 = stm 6 :: lawBody.drop 7 from rfl]
  refine ex_cons (seg6 w p loose mean mg mb h₀ L fa fd fs ff l vs ns tw _ _ _ _ E (hx.cons _) F5 N5 v t4 hv0 hv1 (by first | rfl | assumption) ?_)
  intro u t6 h6 k6 hu0 huv F6 N6
  dsimp only
  rw [show lawBody.drop 7 = stm 7 :: lawBody.drop 8 from rfl]
  refine ex_cons (seg7 w p loose mean mg mb h₀ L fa fd fs ff l vs ns tw _ _ _ _ E (hx.cons _) F6 N6 ?_)
  intro a us na ds h7 k7 hds hdl F7 N7
  dsimp only
  rw [show lawBody.drop 8 = stm 8 :: lawBody.drop 9 from rfl]
  refine ex_cons (seg8 w p loose mean mg mb h₀ L fa fd fs ff l vs ns tw _ _ _ _ E ((hx.cons _).cons _) F7 N7 a us na ds hds hdl (.head _) (by first | rfl | assumption) ?_)
  intro b ws nb qs h8 k8 hqs hdom F8 N8
  dsimp only
  have hql : qs.length ≤ 5 := by rw [hdom.length]; exact hdl
  rw [show lawBody.drop 9 = stm 9 :: lawBody.drop 10 from rfl]
  refine ex_cons (seg9 w p loose mean mg mb h₀ L fa fd fs ff l vs ns tw _ _ _ _ E (((hx.cons _).cons _).cons _) F8 N8 v u t5 t6 hv0 hv1 hu0 huv a us na ds hds hdl (.tail _ (.head _)) b ws nb qs hqs hql (.head _) (by first | rfl | assumption) (by first | rfl | assumption) (by first | rfl | assumption) (by first | rfl | assumption) (by first | rfl | assumption) ?_)
  intro a1 a2 a3 u1 u2 u3 n1 n2 n3 h9 k9 hb1 hb2 hb3 F9 N9
  dsimp only
  rw [show lawBody.drop 10 = stm 10 :: lawBody.drop 11 from rfl]
  refine ex_cons (seg10 w p loose mean mg mb h₀ L fa fd fs ff l vs ns tw _ _ _ _ E ((((((hx.cons _).cons _).cons _).cons _).cons _).cons _) F9 N9 v u hv0 hv1 hu0 huv a us na ds qs hds hdl hdom (.tail _ (.tail _ (.tail _ (.tail _ (.head _))))) a1 a2 a3 u1 u2 u3 n1 n2 n3 hb1 hb2 hb3 (.tail _ (.tail _ (.head _))) (.tail _ (.head _)) (.head _) hE (by first | rfl | assumption) (by first | rfl | assumption) (by first | rfl | assumption) (by first | rfl | assumption) (by first | rfl | assumption) ?_)
  intro mk h10 k10 F10 N10
  dsimp only
  rw [show lawBody.drop 11 = stm 11 :: lawBody.drop 12 from rfl]
  refine ex_cons (seg11 w p loose mean mg mb h₀ L fa fd fs ff l vs ns tw _ _ _ _ E ((((((hx.cons _).cons _).cons _).cons _).cons _).cons _) F10 N10 v u t5 t6 tl hv0 hv1 hu0 huv a us na ds qs hds hdl hdom (.tail _ (.tail _ (.tail _ (.tail _ (.head _))))) b ws nb hqs (.tail _ (.tail _ (.tail _ (.head _)))) a1 a2 a3 u1 u2 u3 n1 n2 n3 hb1 hb2 hb3 (.tail _ (.tail _ (.head _))) (.tail _ (.head _)) (.head _) hE (by first | rfl | assumption) (by first | rfl | assumption) (by first | rfl | assumption) (by first | rfl | assumption) (by first | rfl | assumption) (by first | rfl | assumption) (by first | rfl | assumption) (by first | rfl | assumption) (by first | rfl | assumption) ?_)
  intro m11 h11 k11 hsame F11 N11
  dsimp only
  have q1 : m11 (Str.ofString "slow") = some (.ref a) := (hsame _ (by decide)).trans (by first | rfl | assumption)
  have q2 : m11 (Str.ofString "first") = some (.ref a1) := (hsame _ (by decide)).trans (by first | rfl | assumption)
  have q3 : m11 (Str.ofString "second") = some (.ref a2) := (hsame _ (by decide)).trans (by first | rfl | assumption)
  have q4 : m11 (Str.ofString "third") = some (.ref a3) := (hsame _ (by decide)).trans (by first | rfl | assumption)
  have q5 : m11 (Str.ofString "start") = some (.bytes (cb v) t5) := (hsame _ (by decide)).trans (by first | rfl | assumption)
  have q6 : m11 (Str.ofString "follow") = some (.ref ff) := (hsame _ (by decide)).trans (by first | rfl | assumption)
  rw [show lawBody.drop 12 = stm 12 :: lawBody.drop 13 from rfl]
  refine ex_cons (seg12 w p loose mean mg mb h₀ L fa fd fs ff l vs ns tw m11 _ _ _ E ((((((hx.cons _).cons _).cons _).cons _).cons _).cons _) F11 N11 a us na ds hds hdl (.tail _ (.tail _ (.tail _ (.tail _ (.head _))))) q1 ?_)
  intro c cs nc h12 k12 hcs F12 N12
  dsimp only
  have e118 : (118, tabObj #[]) ∈ (c, listOf cs.toArray nc) :: (a3, listOf u3.toArray n3) :: (a2, listOf u2.toArray n2) :: (a1, listOf u1.toArray n1) :: (b, listOf ws.toArray nb) :: (a, listOf us.toArray na) :: (118, tabObj #[]) :: B0 := .tail _ (.tail _ (.tail _ (.tail _ (.tail _ (.tail _ (.head _))))))
  have r1 := ne_tab N12 (.head _) e118
  have r2 := ne_tab N12 (.tail _ (.head _)) e118
  have r3 := ne_tab N12 (.tail _ (.tail _ (.head _))) e118
  have r4 := ne_tab N12 (.tail _ (.tail _ (.tail _ (.head _)))) e118
  have r5 := ne_tab N12 (.tail _ (.tail _ (.tail _ (.tail _ (.head _))))) e118
  have r6 := ne_tab N12 (.tail _ (.tail _ (.tail _ (.tail _ (.tail _ (.head _)))))) e118
  have hr : ∀ x ∈ (c, listOf cs.toArray nc) :: (a3, listOf u3.toArray n3) :: (a2, listOf u2.toArray n2) :: (a1, listOf u1.toArray n1) :: (b, listOf ws.toArray nb) :: (a, listOf us.toArray na) :: B0, x.1 ≠ 118 :=
    List.forall_mem_cons.mpr ⟨r1, List.forall_mem_cons.mpr ⟨r2, List.forall_mem_cons.mpr ⟨r3, List.forall_mem_cons.mpr ⟨r4, List.forall_mem_cons.mpr ⟨r5, List.forall_mem_cons.mpr ⟨r6, hB⟩⟩⟩⟩⟩⟩
  have N13 : News h₀ L h12 ((118, tabObj #[]) :: (c, listOf cs.toArray nc) :: (a3, listOf u3.toArray n3) :: (a2, listOf u2.toArray n2) :: (a1, listOf u1.toArray n1) :: (b, listOf ws.toArray nb) :: (a, listOf us.toArray na) :: B0) := news_sub N12 (fun x hx => by
    rcases List.mem_cons.mp hx with rfl | hx
    · exact e118
    · rcases List.mem_cons.mp hx with rfl | hx
      · exact .head _
      · rcases List.mem_cons.mp hx with rfl | hx
        · exact .tail _ (.head _)
        · rcases List.mem_cons.mp hx with rfl | hx
          · exact .tail _ (.tail _ (.head _))
          · rcases List.mem_cons.mp hx with rfl | hx
            · exact .tail _ (.tail _ (.tail _ (.head _)))
            · rcases List.mem_cons.mp hx with rfl | hx
              · exact .tail _ (.tail _ (.tail _ (.tail _ (.head _))))
              · rcases List.mem_cons.mp hx with rfl | hx
                · exact .tail _ (.tail _ (.tail _ (.tail _ (.tail _ (.head _)))))
                · exact .tail _ (.tail _ (.tail _ (.tail _ (.tail _ (.tail _ (.tail _ hx)))))))
  rw [show lawBody.drop 13 = stm 13 :: lawBody.drop 14 from rfl]
  refine ex_cons (seg13 w p loose mean mg mb h₀ L fa fd fs ff l vs ns tw _ _ #[] _ _ E ((((((hx.cons _).cons _).cons _).cons _).cons _).cons _) F12 N13 (.inl rfl) hG hr v t5 hv0 hv1 ds hdl c cs nc hcs (.head _) a1 u1 n1 hb1 (.tail _ (.tail _ (.tail _ (.head _)))) (by first | rfl | assumption) (by first | rfl | assumption) (by first | rfl | assumption) (by first | rfl | assumption) ?_)
  intro ps13 s13 hG13 ho13 F13 N14 hps13
  dsimp only
  rw [show lawBody.drop 14 = stm 14 :: lawBody.drop 15 from rfl]
  refine ex_cons (seg14 w p loose mean mg mb h₀ L fa fd fs ff l vs ns tw _ _ ps13 _ _ E ((((((hx.cons _).cons _).cons _).cons _).cons _).cons _) F13 N14 hps13 hG13 hr v u hv0 hv1 hu0 huv ds qs hdl hdom a1 a2 a3 u1 u2 u3 n1 n2 n3 hb1 hb2 hb3 (.tail _ (.tail _ (.tail _ (.head _)))) (.tail _ (.tail _ (.head _))) (.tail _ (.head _)) (by first | rfl | assumption) (by first | rfl | assumption) (by first | rfl | assumption) ?_)
  intro ps14 s14 hG14 ho14 F14 N15
  dsimp only
  refine hQ ps14 s14 _ hG14 (ho14.trans ho13) F14 (news_sub N15 (List.forall_mem_cons.mpr ⟨.head _, fun x hx => .tail _ (.tail _ (.tail _ (.tail _ (.tail _ (.tail _ (.tail _ hx))))))⟩))

/-- how the law ends -/
def LawEnd (h₀ : Heap) (L : Addr) (B0 : List (Addr × Obj)) (s₀ : Shared) (f : Flow) (s' : Shared) : Prop := f = .ret (.bool true) ∧ ∃ (ps' : Array Value) (m' : Str → Option Value), AllBare s'.gens ∧ s'.os = s₀.os ∧ Fr h₀ L s'.heap m' ∧ News h₀ L s'.heap ((118, tabObj ps') :: B0)
theorem law_tail2 (w : World) (p : Program) (loose : List Str) (mean : ExcName → Option Value) (mg mb : Str → Option Value) (h₀ : Heap) (L fa fd fs ff l : Addr) (vs : List Value) (ns : List Int) (tw : Tok) (m : Str → Option Value) (B0 : List (Addr × Obj)) (s : Shared) (E : Value → Shared → Prop)
    (hx : Ctx w p loose mean mg mb h₀ L fd fs ff l vs ns tw B0) (F : Fr h₀ L s.heap m) (N : News h₀ L s.heap ((118, tabObj #[]) :: B0)) (hB : ∀ x ∈ B0, x.1 ≠ 118) (hG : AllBare s.gens)
    (hE : PassesOwn (model PySem.Challenge.rw_fc0027_01.row.prog w) (callerA.deeper (envOfC (Str.ofString "law") lawScope L fa (.ref 134))) (envOfC (Str.ofString "law") lawScope L fa (.ref 134)) E) (tl : Tok) (hlim : m (Str.ofString "limit") = some (.int LIM tl)) (hsize : m (Str.ofString "size") = some (.ref fs)) (hfollow : m (Str.ofString "follow") = some (.ref ff)) :
    wpAny (model PySem.Challenge.rw_fc0027_01.row.prog w) (callerA.deeper (envOfC (Str.ofString "law") lawScope L fa (.ref 134))) (exec (stm 4) (envOfC (Str.ofString "law") lawScope L fa (.ref 134))) (fun f s' => match f with | .next => wpAny (model PySem.Challenge.rw_fc0027_01.row.prog w) (callerA.deeper (envOfC (Str.ofString "law") lawScope L fa (.ref 134))) (execs (lawBody.drop 5) (envOfC (Str.ofString "law") lawScope L fa (.ref 134))) (LawEnd h₀ L B0 s) E s' | f => LawEnd h₀ L B0 s f s') E s :=
  law_tail w p loose mean mg mb h₀ L fa fd fs ff l vs ns tw m B0 s _ E hx F N hB hG hE tl hlim hsize hfollow fun ps' s' m' a b c d => ⟨rfl, ps', m', a, b, c, d⟩
end Mine
namespace Mine
local macro_rules | `(tactic| walk_at "MINE pad") => `(tactic| fail)
local macro_rules | `(tactic| walk_at "MINE pad") => `(tactic| fail)
local macro_rules | `(tactic| walk_at "MINE pad") => `(tactic| fail)
local macro_rules | `(tactic| walk_at "MINE pad") => `(tactic| fail)
theorem top_off_T1 : True := by
  w_top off
  exact True.intro
local macro_rules | `(tactic| k_room) => `(tactic| ktr_room)
local macro_rules | `(tactic| walk_at "MINE enter") => `(tactic| (refine wpAny_call ?_; k_dflt (refine' code_n ?k3 ?k5 ?k6 ?k7 ?k8 ?k9 ?kB ?_ ?c2 ?c3 ?c4 ?c5; (case k3 => k_asm); (case k5 => k_asm); (case k6 => k_is); (case k7 => k_is); (case k8 => ktr_room); (case k9 => first | exact BindsTo.of_eq rfl | exact binds_K (by k_in) rfl (by k_is) rfl rfl rfl | (refine' kp_binds ?kx ?ke; (case kx => k_in); (case ke => exact fun _ => rfl))); (case c5 => decide); (case kB => exact locs rfl); (case c2 => exact rfl); (case c3 => exact rfl); (case c4 => exact rfl); k_whole; intro L' h' F' N'; (try dsimp only); (try k_fold))))
local macro_rules | `(tactic| walk_at "LeaveN") => `(tactic| (k_dflt (refine' leaveN_ ?k1 ?k2 ?_; (case k1 => k_asm); (case k2 => k_asm); k_whole); intro kK kN; (try dsimp only)))
local macro_rules | `(tactic| walk_at "callWith ref") => `(tactic| (k_here; (with_reducible show wpAny _ _ (callWith _ (Value.ref _) [] (backTo _ (starEach (_ :: _) _)) (backToKw _ (keywordEach (_ :: _) _))) _ _ _); kfb_any; k_dflt (refine' callWith_fbKw ?k1 ?_; (case k1 => exact rfl); k_whole)))
local macro_rules | `(tactic| walk_at "callWith") => `(tactic| (k_here; (with_reducible show wpAny _ _ (callWith _ (Value.builtin _) [_] (backTo _ (starEach (_ :: _) _)) (backToKw _ (keywordEach (_ :: _) _))) _ _ _); k_dflt (refine callWith_bKw ?_; k_whole)))
local macro_rules | `(tactic| walk_at "call ref") => `(tactic| (k_here; (with_reducible show wpAny _ _ (call (Value.ref _) (Value.bytes _ _ :: _) _) _ _ _); kfb_any; k_dflt (first
  | (refine fb_call2 (by k_asm) (by k_mem) (picked_tail (by assumption)) (by kfb_size) ?_)
  | (refine fb_call0 (by k_asm) (by k_mem) (by kba_ints2) (by kfb_size) ?_)
  | (refine fb_call1 (by k_asm) (by k_mem) (by kba_ints2) (by kfb_size) ?_)
  | (refine fb_call2 (by k_asm) (by k_mem) (by kba_ints2) (by kfb_size) ?_)); intro _ _))
local macro_rules | `(tactic| walk_at "subscriptTail") => `(tactic| (k_here; (with_reducible show wpAny _ _ (subscriptTail _ _ (Value.bytes _ _) (Value.int _ _)) _ _ _); (with_unfolding_all refine' bytes_item0 ?k1 ?k2 ?_; (case k1 => assumption); (case k2 => exact Nat.le_of_ble_eq_true rfl); k_whole); intro _ _ _ _))
local macro_rules | `(tactic| walk_at "binaryOp LShift int int") => `(tactic| (k_here; (with_reducible show wpAny _ _ (binaryOp _ (Value.int (Builtin.bitAnd _ _) _) _) _ _ _); k_dflt (refine' lshift_int_small ?k1 ?k2 ?k3 ?_; (case k1 => omega); (case k2 => omega); (case k3 => exact mask_small _); k_whole)))
local macro_rules | `(tactic| walk_at "call type:bytes") => `(tactic| (k_here; (with_reducible show wpAny _ _ (call (Value.type "bytes") [Value.bytes _ _]) _ _ _); (refine bytes_of_bytes ?_)))
local macro_rules | `(tactic| walk_at "call builtin:int.to_bytes") => `(tactic| (k_here; k_dflt (first
  | (refine' tb_32 ?h0 ?h1 ?_; (case h0 => first | assumption | omega); (case h1 => first | assumption | omega); k_whole)
  | (refine' tb_32s ?h0 ?h1 ?_; (case h0 => first | assumption | omega); (case h1 => first | assumption | omega); k_whole)
  | (refine' tb_3s ?h0 ?h1 ?_; (case h0 => first | assumption | omega); (case h1 => first | assumption | omega); k_whole; intro _)); intro _ _))
local macro_rules | `(tactic| walk_at "binaryOp Add bytes bytes") => `(tactic| (k_here; k_dflt (refine' bytes_cons_add ?h0 ?h1 ?hb ?hl ?_; (case h0 => omega); (case h1 => omega); (case hb => assumption); (case hl => exact little3_len); k_whole); intro _ _))
theorem len_of {vs : List Value} {ns : List Int} (_ : IntsAre vs ns) (h : ¬ ((63 : Nat) : Int) < ((ns.length : Nat) : Int)) : ns.length ≤ 63 := by omega
theorem ctx_intro {w : World} {p : Program} {loose : List Str} {mean : ExcName → Option Value} {mg mb : Str → Option Value} {h₀ h : Heap} {L fd fs ff l : Addr} {vs : List Value} {ns : List Int} {tw : Tok} {B0 : List (Addr × Obj)} {x : Addr × Obj} (_ : News h₀ L h (x :: B0))
    (X : (hd.heap_39 w.params).In h₀) (T : Top p loose mean mg mb h₀) (B : Below callerA h₀ [] h₀) (C : CodeHd h₀ 134 132) (hl : h₀.IsList l vs.toArray) (hi : IntsAre vs ns) (hlen : ns.length ≤ 63) (hbits : ∀ k, 0 ≤ k → k ≤ 1000 → Builtin.Int.intBits (dr ns k) ≤ 2097152)
    (script : ∃ o, (L + 1, o) ∈ B0 ∧ o.data = .cell (some (.ref l))) (draw : ∃ o, (L + 1 + 1, o) ∈ B0 ∧ o.data = .cell (some (.ref fd))) (weeks : ∃ o, (L + 1 + 1 + 1, o) ∈ B0 ∧ o.data = .cell (some (.int 1209600 tw)))
    (fdraw : FnIn B0 fd (Str.ofString "draw") 0 [(Str.ofString "script", L + 1)]) (fsize : FnIn B0 fs (Str.ofString "size") 2 []) (ffollow : FnIn B0 ff (Str.ofString "follow") 3 []) : Ctx w p loose mean mg mb h₀ L fd fs ff l vs ns tw B0 :=
  ⟨X, T, B, C, hl, hi, hlen, hbits, script, draw, weeks, fdraw, fsize, ffollow⟩
inductive SplitLast {α : Type} : List α → List α → α → Prop where
  | nil (x : α) : SplitLast [x] [] x
  | cons {a x : α} {xs B : List α} : SplitLast xs B x → SplitLast (a :: xs) (a :: B) x
theorem SplitLast.sub {α : Type} {xs B : List α} {x : α} (h : SplitLast xs B x) : ∀ y ∈ x :: B, y ∈ xs := by
  induction h with
  | nil x => exact fun y hy => hy
  | cons h ih =>
    intro y hy
    rcases List.mem_cons.mp hy with rfl | hy
    · exact .tail _ (ih _ (.head _))
    · rcases List.mem_cons.mp hy with rfl | hy
      · exact .head _
      · exact .tail _ (ih _ (.tail _ hy))
theorem cut_split {h₀ h : Heap} {L : Addr} {xs B : List (Addr × Obj)} {x : Addr × Obj} {P : Prop} (N : News h₀ L h xs) (hs : SplitLast xs B x) (k : News h₀ L h (x :: B) → P) : P := k (news_sub N hs.sub)
local macro_rules | `(tactic| walk_at "exec Assign") => `(tactic| (k_here; (with_reducible show wpAny _ _ (exec (Stmt.Assign [Expr.Name _ _] _ _) _) _ _ _); refine Stop.mk ?_))
set_option maxHeartbeats 8000000 in
theorem tst : PySem.Challenge.rw_fc0027_01.Holds := hd (by
  k_fill
  intro w s₀ s₁ mg mb G Y fa o pm cd doc dV kV ho hd hcd hD hmg hg args vals as hpre hlay hrd hwl hlo
  have KX := km_in_of Y
  km_tabs Y
  have X := (Ground.X G).1
  have V := (Ground.X G).2
  refine Ground.open G ?_
  intro T B D TE TW
  try (refine guard_noD D (by decide +kernel) ?_; clear D)
  km_lay T hmg ho hd cd
  have hTc := tab_of (x := Str.ofString "chain_work") (c := 122) (P := 118) T KX rfl (by kernel_rfl)
  clear hmg
  wrow_args hpre hlay hrd hwl hlo
  have hT10 : TabsAt [(134, 132), (122, 118)] s₁.heap := List.forall_mem_cons.mpr ⟨hT9 _ (.head _), List.forall_mem_cons.mpr ⟨hTc, fun _ h => nomatch h⟩⟩
  clear hT9 hTc hT8
  have hT9 := hT10
  clear hT10
  clear X V
  have X := KX
  clear KX
  all_goals (
    first | refine callC_kw (enter_call ?_) | refine enter_call ?_
    w_top on
    refine my_post hT9 (fun _ _ => rfl) ?_
    w_call any ho hd hcd hD T F
    clear hd
    kn_ghosts F T
    k_drop
    skip)
  (all_goals try k_fold)
  k_steps
  refine Stop.out ?_
  rename Fr _ _ _ _ => F9
  rename News _ _ _ _ => N9
  rename IntsAre _ _ => hI9
  rename Top _ _ _ _ _ (ghostOf _ _) => T9
  rename Below _ _ _ _ => K9
  rename Frag.In _ (ghostOf _ _) => X9
  rename Heap.IsList (ghostOf _ _) _ _ => L9
  rename (PyData.list _).layable0 = true => hlay9
  have h63 := len_of hI9 (by assumption)
  refine' cut_split N9 ?hs ?hk
  case hs => repeat (first | exact SplitLast.nil _ | apply SplitLast.cons)
  case hk =>
  intro N10
  replace N9 := True.intro
  have hx := ctx_intro N10 X9 T9 K9 (by assumption) L9 hI9 h63 (dr_bits h63 hlay9) ⟨_, by k_mem, by assumption⟩ ⟨_, by k_mem, by assumption⟩ ⟨_, by k_mem, by assumption⟩ ⟨_, _, _, _, _, _, _, _, by k_mem, by k_mem, by assumption, by assumption⟩ ⟨_, _, _, _, _, _, _, _, by k_mem, by k_mem, by assumption, by assumption⟩ ⟨_, _, _, _, _, _, _, _, by k_mem, by k_mem, by assumption, by assumption⟩
  refine wpAny_mono (law_tail2 w _ _ _ _ _ _ _ fa _ _ _ _ _ _ _ _ _ _ _ hx F9 N10 ?hB ?hG ?hE _ rfl rfl rfl) ?hmono (fun _ _ e => e)
  case hG => exact AllBare.of_eq hg
  case hE => passes_own
  case hB =>
    repeat' (first | exact List.forall_mem_nil _ | refine List.forall_mem_cons.mpr ⟨?_, ?_⟩)
    all_goals (try dsimp only)
    all_goals (first | exact Nat.ne_of_gt (by omega) | decide)
  case hmono =>
    intro f s' hf
    cases f with
    | next =>
      refine wpAny_mono hf (fun f s'' hf => ?_) (fun _ _ e => e)
      obtain ⟨rfl, ps', m', hG', ho', F', N'⟩ := hf
      refine ⟨?_, ⟨GrownAt.of N' (by k_mem), GrownAt.of N' (by k_mem), True.intro⟩, hG'⟩
      exact ⟨.inl ⟨.bool true, .bool true, [], rfl, fun _ => rfl, ReadsW.bool true, (by first | wrow_post | rfl | decide), fun _ => ⟨List.nodup_nil, fun a ha => nomatch ha⟩⟩, F'.keep, ho', rfl⟩
    | ret v =>
      obtain ⟨e, ps', m', hG', ho', F', N'⟩ := hf
      cases e
      refine ⟨?_, ⟨GrownAt.of N' (by k_mem), GrownAt.of N' (by k_mem), True.intro⟩, hG'⟩
      exact ⟨.inl ⟨.bool true, .bool true, [], rfl, fun _ => rfl, ReadsW.bool true, (by first | wrow_post | rfl | decide), fun _ => ⟨List.nodup_nil, fun a ha => nomatch ha⟩⟩, F'.keep, ho', rfl⟩
    | brk => cases hf.1
    | cont => cases hf.1)
end Mine
theorem PySem.Challenge.cw_fc0027_01_holds : PySem.Challenge.rw_fc0027_01.Holds := by
  exact Mine.tst
