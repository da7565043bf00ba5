import PyProof.Rows.All
import Wide.All
import OpenK.AllK
import Wide.FinOn
import PySem.Challenge.RW_jf0003_01
open PySem PySem.W PyProof.Rows PySem.Calls PySem.Spec
set_option Elab.async false
set_option maxRecDepth 100000
set_option maxHeartbeats 8000000
namespace J
open_top hd for PySem.Challenge.rw_jf0003_01

section
section
/-- a call of the def at f by vs, kw: it hands back R t and keeps all that stood -/
abbrev Con (w : World) (mean : ExcName → Option Value) (mg mb : Str → Option Value) (f : Addr) (vs : List Value) (kw : List (Str × Value)) (need : Nat) (R : Tok → Value) : Prop :=
  ∀ (news : List (Addr × Obj)) (dp un : Nat) (gd : Option (List Code)) (cn : Str) (cs : Scope) (a : Addr) (ccd : Value) (cl : List (Str × Addr)) (outer : List Env) (A₀ : Around) (base h₀ : Heap) (L : Addr) (m : Str → Option Value) (s : Shared) (Q E : Value → Shared → Prop),
    Below A₀ base outer h₀ → Fr h₀ L s.heap m → (hd.heap_39 w.params).In h₀ → News h₀ L s.heap news → Top hd.view_39 (looseW hd.view_39 [Str.ofString "int_to_bytes", Str.ofString "int_from_bytes", Str.ofString "parse", Str.ofString "_parse"]) mean mg mb h₀ → cs.kind = .function →
    dp + need < recursionLimit → un + 8 * need < cLine → CbRet h₀ L m news s Q R →
      wpAny (model PySem.Challenge.rw_jf0003_01.row.prog w) (ktrTop dp un gd cn cs L a ccd cl outer) (call (.ref f) vs kw) Q E s
end
section
section
variable {prog : Program} {w : World} {M : Model} {A : Around} {E : Value → Shared → Prop} {s : Shared}
theorem callWithM_kw {env : Env} {pos : Pos} {id : String} {first : List Value} {e : PySem.Expr} {rest : List PySem.Expr} {kws : List Keyword} {Q : Value → Shared → Prop}
    (h : wpAny M A (spliced (backTo pos (starEach (e :: rest) env))) (fun vs s₁ => wpAny M A (evalAll ((backToKw pos (keywordEach kws env)).map (·.2)))
      (fun kvs s₂ => wpAny M A (call (.builtin id) (first ++ vs) (((backToKw pos (keywordEach kws env)).filterMap (·.1)).zip kvs)) Q E s₂) E s₁) E s)
    (he : backTo pos (starEach (e :: rest) env) = (false, eval e env) :: backTo pos (starEach rest env) := by rfl)
    (hplain : (backTo pos (starEach (e :: rest) env)).any (·.1) = false := by rfl)
    (hall : (backToKw pos (keywordEach kws env)).all (·.1.isSome) = true := by rfl)
    (hkw : (backToKw pos (keywordEach kws env)).any (·.1.isNone) = false := by rfl) :
    wpAny M A (callWith pos (.builtin id) first (backTo pos (starEach (e :: rest) env)) (backToKw pos (keywordEach kws env))) Q E s := by
  refine callWith_builtin_kwB hplain hkw ?_
  rw [he] at h ⊢
  exact evalArgs_kwB hall h
open PySem.Builtin.Int (intBits) in
theorem toBig_kw {x : Int} {k : Nat} {t u v : Tok} {Q : Value → Shared → Prop} (hk : k ≤ 8) (h0 : 0 ≤ x) (h1 : x < 256 ^ k)
    (h : ∀ (b : Array UInt8) t' k', KBw.bInts b = (KTBy.little k x).reverse → Q (.bytes b t') { s with toks := k' }) :
    wpAny (model prog w) A (call (.builtin "int.to_bytes") [.int x t, .int (k : Int) u] [(PySem.Str.ofString "byteorder", .str (PySem.Str.ofString "big") v), (PySem.Str.ofString "signed", .bool false)]) Q E s := by
  refine wpAny_call_entry_kw KTBy.slot (typeIs_int s x t) KTBy.entry ?_ (by unfold argsOk; kernel_rfl)
  have hb := KTBy.bits_le (x := x) (k := k) rfl h0 h1
  show wpAny _ _ (Builtin.Int.intOfSelf (.int x t) >>= fun y => _) _ _ s
  refine wpAny_bind (wpAny_of_eq (a := x) rfl ?_)
  refine wpAny_bind (wpAny_of_eq (a := [some (.int (k : Int) u), some (.str (PySem.Str.ofString "big") v), some (.bool false)]) (by kernel_rfl) ?_)
  refine wpAny_bind (wpAny_of_eq (a := (k : Int)) rfl ?_)
  refine KTBy.if_not (by show (decide ((k : Int) < -(2 ^ 63 : Int)) || decide ((k : Int) ≥ 2 ^ 63)) = false; rw [decide_eq_false (show ¬ ((k : Int) < -(2 ^ 63 : Int)) by omega), decide_eq_false (show ¬ ((k : Int) ≥ 2 ^ 63) by omega)]; rfl) ?_
  refine wpAny_bind (wpAny_of_eq (a := PySem.Str.ofString "big") (by kernel_rfl) ?_)
  refine wpAny_bind (wpAny_of_eq (a := false) rfl ?_)
  refine wpAny_bind (wpAny_of_eq (a := false) (by kernel_rfl) ?_)
  refine wpAny_ite_false (decide_eq_false (show ¬ ((k : Int) < 0) by omega)) ?_
  refine wpAny_ite_false (decide_eq_false (show ¬ ((k : Int) > 2 ^ 63 - 1 - 33) by omega)) ?_
  refine wpAny_ite_false (decide_eq_false (show ¬ ((k : Int) > (sizeLine : Int)) by rw [sizeLine_eq]; omega)) ?_
  refine KTBy.if_not (by show (decide (x < 0) && !false) = false; rw [decide_eq_false (show ¬ x < 0 by omega)]; rfl) ?_
  refine KTBy.if_not (by show (_ && decide ((intBits x : Int) > 8 * (k : Int))) = false; rw [decide_eq_false (show ¬ ((intBits x : Int) > 8 * (k : Int)) by omega), Bool.and_false]) ?_
  refine wpAny_bind (wpAny_mkBytes (wpAny_pure ⟨_, rfl, h _ _ _ ?_⟩) (by show (List.reverse (KTBy.low x (Int.toNat (k : Int)))).length ≤ sizeLine; rw [List.length_reverse, KTBy.low_length, Int.toNat_natCast, sizeLine_eq]; omega))
  show (List.map (fun c : UInt8 => ((c.toNat : Nat) : Int)) (List.reverse (KTBy.low x (Int.toNat (k : Int))))) = (KTBy.little k x).reverse
  rw [Int.toNat_natCast, List.map_reverse, KTBy.low_ints h0 h1, ← KTBy.little_eq]
theorem callWithF_kw {pos : Pos} {u : Addr} {first : List Value} {args : List (Bool × Sem Value)} {keywords : List (Option Str × Sem Value)} {Q : Value → Shared → Prop} (hplain : args.any (·.1) = false) (hkw : keywords.any (·.1.isNone) = false)
    (h : wpAny M A (evalArgs (.ref u) true args keywords) (fun x s₁ => KFB.StandsAt u s₁.heap ∧ wpAny M A (call (.ref u) (first ++ x.pos) x.kw) Q E s₁) E s) : wpAny M A (callWith pos (.ref u) first args keywords) Q E s := by
  unfold callWith
  refine wpAny_bind (wpAny_holding (wpAny_mono h (fun x s₁ h₁ => wpAny_bind (wpAny_standAt ?_)) fun _ _ x => x))
  obtain ⟨ho, hcall⟩ := h₁
  simp only [hplain, hkw, Bool.or_false]
  refine wpAny_bind (m := keeperOf (.ref u)) ?_
  unfold keeperOf
  refine wpAny_bind (wpAny_load ho ?_)
  simp only [KFB.bound, show (Value.type "builtin_function_or_method" != Value.type "method") = true by decide, show (Value.type "builtin_function_or_method" == Value.type "builtin_function_or_method" || Value.type "builtin_function_or_method" == Value.type "method-wrapper") = true by decide, if_true]
  refine wpAny_pure ?_
  exact wpAny_bind (wpAny_mono hcall (fun r s₂ hr => wpAny_bind (wpAny_holding (wpAny_point (wpAny_pure hr)))) fun _ _ x => x)
theorem callWithB_kw {h₀ : Heap} {L : Addr} {news : List (Addr × Obj)} {pos : Pos} {u : Addr} {first : List Value} {env : Env} {e : PySem.Expr} {rest : List PySem.Expr} {kws : List Keyword} {Q : Value → Shared → Prop} (_N : News h₀ L s.heap news) (_hm : (u, KFB.bound) ∈ news)
    (h : wpAny M A (spliced (backTo pos (starEach (e :: rest) env))) (fun vs s₁ => wpAny M A (evalAll ((backToKw pos (keywordEach kws env)).map (·.2)))
      (fun kvs s₂ => KFB.StandsAt u s₂.heap ∧ wpAny M A (call (.ref u) (first ++ vs) (((backToKw pos (keywordEach kws env)).filterMap (·.1)).zip kvs)) Q E s₂) E s₁) E s)
    (he : backTo pos (starEach (e :: rest) env) = (false, eval e env) :: backTo pos (starEach rest env) := by rfl)
    (hplain : (backTo pos (starEach (e :: rest) env)).any (·.1) = false := by rfl)
    (hall : (backToKw pos (keywordEach kws env)).all (·.1.isSome) = true := by rfl)
    (hkw : (backToKw pos (keywordEach kws env)).any (·.1.isNone) = false := by rfl) :
    wpAny M A (callWith pos (.ref u) first (backTo pos (starEach (e :: rest) env)) (backToKw pos (keywordEach kws env))) Q E s := by
  refine callWithF_kw hplain hkw ?_
  rw [he] at h ⊢
  exact evalArgs_kwB hall h
theorem treeBig_kw {b : Array UInt8} {t u : Tok} {P : Fin → Shared → Prop} (hl : b.size ≤ 8) (h : P (.done (.ret (.int (KFB.value (KBw.bInts b)) s.toks))) { s with toks := s.toks + 1 }) :
    wpAny M A (Builtin.«int.from_bytes» ⟨[.type "int", .bytes b t, .str (PySem.Str.ofString "big") u], [(PySem.Str.ofString "signed", .bool false)]⟩) P E s := by
  have hv : ((b.toList.foldl (fun (acc : Nat) (b : UInt8) => acc * 256 + b.toNat) 0 : Nat) : Int) = KFB.value (KBw.bInts b) := KFB.fold_cast b.toList 0
  have hn : b.toList.foldl (fun (acc : Nat) (b : UInt8) => acc * 256 + b.toNat) 0 < 2 ^ 64 := by
    have h1 := KFB.fold_lt b.toList 0
    rw [Nat.zero_add, Nat.one_mul, Array.length_toList] at h1
    have h2 : 256 ^ b.size ≤ 256 ^ 8 := Nat.pow_le_pow_right (by decide) hl
    omega
  unfold Builtin.«int.from_bytes»
  refine wpAny_bind (wpAny_of_eq (a := true) KFB.type_int ?_)
  refine KFB.if_not rfl ?_
  refine wpAny_bind (wpAny_of_eq (a := true) F.conv_sub_int ?_)
  refine KFB.if_not rfl ?_
  refine wpAny_bind (wpAny_of_eq (a := [some (.bytes b t), some (.str (PySem.Str.ofString "big") u), some (.bool false)]) (by kernel_rfl) ?_)
  refine wpAny_bind (wpAny_of_eq (a := PySem.Str.ofString "big") (by kernel_rfl) ?_)
  refine wpAny_bind (wpAny_of_eq (a := false) rfl ?_)
  refine wpAny_bind (wpAny_of_eq (a := false) (by kernel_rfl) ?_)
  refine wpAny_bind (wpAny_of_eq (a := b) rfl ?_)
  show wpAny _ _ (mkIntGrown (b.toList.foldl (fun (acc : Int) (b : UInt8) => acc * 256 + (b.toNat : Int)) ((0 : Nat) : Int)) >>= fun v => _) _ _ _
  rw [KFB.foldI_eq]
  refine wpAny_bind (KFB.grown hn ?_)
  rw [hv]
  refine KFB.if_so (by decide +kernel) ?_
  exact wpAny_bind (wpAny_pure (wpAny_pure h))
theorem checkFb_kw {b : Array UInt8} {t u : Tok} {o : PySem.Str} : checkBoundCall "int.from_bytes" ⟨[.type "int", .bytes b t, .str o u], [(PySem.Str.ofString "signed", .bool false)]⟩ = pure () := by first | kernel_rfl | rfl
theorem callBig_kw {h₀ : Heap} {L : Addr} {news : List (Addr × Obj)} {x : Addr} {b : Array UInt8} {t u : Tok} {Q : Value → Shared → Prop} (N : News h₀ L s.heap news) (hm : (x, KFB.bound) ∈ news) (hl : b.size ≤ 8)
    (h : ∀ t' k, Q (.int (KFB.value (KBw.bInts b)) t') { s with toks := k }) : wpAny (model prog w) A (call (.ref x) [.bytes b t, .str (PySem.Str.ofString "big") u] [(PySem.Str.ofString "signed", .bool false)]) Q E s := by
  refine wpAny_call (codeAny_of_tree ?_)
  show wpAny _ A.in1 (callAny (.ref x) ⟨[.bytes b t, .str (PySem.Str.ofString "big") u], [(PySem.Str.ofString "signed", .bool false)]⟩) _ _ s
  simp only [callAny]
  refine wpAny_bind (wpAny_load (KFB.at_of N hm) ?_)
  simp only [KFB.bound, show (Value.type "builtin_function_or_method" == Value.type "method" || Value.type "builtin_function_or_method" == Value.type "builtin_function_or_method" || Value.type "builtin_function_or_method" == Value.type "method-wrapper") = true by decide, if_true]
  refine KFB.if_so (by decide) ?_
  refine wpAny_bind (wpAny_of_eq (a := ()) checkFb_kw ?_)
  refine wpAny_bind (wpAny_pure (wpAny_pure ?_))
  exact ⟨KFB.quiet_fb, codeAny_builtin KFB.entry_fb (treeBig_kw hl (h _ _))⟩
theorem toBig_at {x wd : Int} {k : Nat} {t u v : Tok} {kw : List (Str × Value)} {Q : Value → Shared → Prop} (e : kw = [(PySem.Str.ofString "byteorder", .str (PySem.Str.ofString "big") v), (PySem.Str.ofString "signed", .bool false)]) (hw : wd = (k : Int)) (hk : k ≤ 8) (h0 : 0 ≤ x) (h1 : x < 256 ^ k)
    (h : ∀ (b : Array UInt8) t' k', KBw.bInts b = (KTBy.little k x).reverse → Q (.bytes b t') { s with toks := k' }) :
    wpAny (model prog w) A (call (.builtin "int.to_bytes") [.int x t, .int wd u] kw) Q E s := by
  subst e
  subst hw
  exact toBig_kw hk h0 h1 h
theorem callBig_at {h₀ : Heap} {L : Addr} {news : List (Addr × Obj)} {x : Addr} {b : Array UInt8} {t u : Tok} {kw : List (Str × Value)} {Q : Value → Shared → Prop} (e : kw = [(PySem.Str.ofString "signed", .bool false)]) (N : News h₀ L s.heap news) (hm : (x, KFB.bound) ∈ news) (hl : b.size ≤ 8)
    (h : ∀ t' k, Q (.int (KFB.value (KBw.bInts b)) t') { s with toks := k }) : wpAny (model prog w) A (call (.ref x) [.bytes b t, .str (PySem.Str.ofString "big") u] kw) Q E s := by
  subst e
  exact callBig_kw N hm hl h
end
theorem no_bytes_iadd : typeLookup (.type "bytes") (dunderI "add") = pure none := by rw [typeLookup_type, builtinLookup_eq_fast]; kernel_rfl
theorem iadd_bytes {prog : Program} {w : World} {A : Around} {E : Value → Shared → Prop} {s : Shared} {b c : Array UInt8} {t u : Tok} {Q : Value → Shared → Prop} (hsz : b.size + c.size ≤ 16777216) (h : ∀ t' k, Q (.bytes (b ++ c) t') { s with toks := k }) :
    wpAny (model prog w) A (inplaceOp .Add (.bytes b t) (.bytes c u)) Q E s := by
  refine iconcat_gives (typeIs_bytes s b t) (typeIs_bytes s c u) no_bytes_iadd KBy.noFill_bytes_add KBy.seq_bytes_add FB.slot_bytes_add FB.entry_bytes_add (FB.args_bytes_add_2 _ _) (KBy.gives_bytes_add (KBy.tooLong_not hsz)) ?_
  by_cases hb : b.isEmpty = true
  · rw [if_pos hb]
    have e : b = #[] := Array.isEmpty_iff.1 hb
    have h' := h u s.toks
    rw [e, Array.empty_append] at h'
    exact h'
  · rw [if_neg hb]
    by_cases hc : c.isEmpty = true
    · rw [if_pos hc]
      have e : c = #[] := Array.isEmpty_iff.1 hc
      have h' := h t s.toks
      rw [e, Array.append_empty] at h'
      exact h'
    · rw [if_neg hc]
      exact ⟨by rw [Array.size_append, sizeLine_eq]; exact hsz, h s.toks (s.toks + 1)⟩
theorem bInts_inj {a b : Array UInt8} (h : KBw.bInts a = KBw.bInts b) : a = b := by
  have h2 := List.map_inj_right (f := fun c : UInt8 => (c.toNat : Int)) (fun x y e => UInt8.toNat_inj.mp (Int.ofNat_inj.mp e)) |>.mp h
  exact Array.toList_inj.mp h2
end
section
open PySem.Builtin in
/-- a message with one int in it: some text comes back -/
def MsgI (a b : Int) (M : PySem.Str) : Prop := ∀ (n : Int) (t u : Tok), a ≤ n → n < b → n.natAbs.log2 < 1920 → ((n.natAbs : Nat) : Int).natAbs.log2 < 1920 → ∃ T : PySem.Str,
  Meets (Builtin.«str.__mod__» ⟨[.str M t, .int n u], []⟩) (fun _ R s => ∀ t' k, R (.ok (.ret (.str T t'))) { s with toks := k })
/-- a message with one text in it -/
def MsgS (M : PySem.Str) : Prop := ∀ (z : PySem.Str) (t u : Tok), z.length ≤ 1000000 → ∃ T : PySem.Str,
  Meets (Builtin.«str.__mod__» ⟨[.str M t, .str z u], []⟩) (fun _ R s => ∀ t' k, R (.ok (.ret (.str T t'))) { s with toks := k })
theorem MsgI.of {a b : Int} {M M' : PySem.Str} (e : M = M') (h : MsgI a b M') : MsgI a b M := e ▸ h
theorem MsgS.of {M M' : PySem.Str} (e : M = M') (h : MsgS M') : MsgS M := e ▸ h
theorem log_small {n : Int} (h1 : -10 ^ 61 < n) (h2 : n < 10 ^ 61) : n.natAbs.log2 < 1920 := by
  by_cases hz : n.natAbs = 0
  · rw [hz]; decide
  · exact (Nat.log2_lt hz).mpr (by omega)
section
variable {prog : Program} {w : World} {A : Around} {E : Value → Shared → Prop} {s : Shared}
theorem MsgI.mod {a b n : Int} {X M : PySem.Str} {t u : Tok} {Q : Value → Shared → Prop} (C : MsgI a b M) (hX : X = M) (h1 : a ≤ n) (h2 : n < b) (ha : -10 ^ 61 < a) (hb : b ≤ 10 ^ 61) (h : ∀ T t' k, Q (.str T t') { s with toks := k }) :
    wpAny (model prog w) A (binaryOp .Mod (.str X t) (.int n u)) Q E s := by
  subst hX
  have hd : n.natAbs.log2 < 1920 := log_small (by omega) (by omega)
  obtain ⟨T, hm⟩ := C n t u h1 h2 hd hd
  exact KPc.mod_lit rfl hd (fun _ _ => hm) (fun t' k => h T t' k)
theorem MsgS.mod {y X M : PySem.Str} {t u : Tok} {Q : Value → Shared → Prop} (C : MsgS M) (hX : X = M) (hy : y.length ≤ 1000000) (h : ∀ T t' k, Q (.str T t') { s with toks := k }) :
    wpAny (model prog w) A (binaryOp .Mod (.str X t) (.str y u)) Q E s := by
  subst hX
  obtain ⟨T, hm⟩ := C y t u hy
  exact binaryOp_meets (T := "str") (op := .Mod) (typeIs_str s X t) (typeIs_str s y u) F.fills_str_mod F.slot_str_mod F.entry_str_mod (F.args_str_mod_2 _ _) hm (fun t' k => ⟨(fun e => nomatch e), h T t' k⟩)
end
theorem int_len {z : Int} (h1 : -10 ^ 61 < z) (h2 : z < 10 ^ 61) : (PySem.Str.ofString (toString z)).length ≤ 100 := by
  have e : z.natAbs < 10 ^ 61 := by omega
  rw [PySem.ofString_length]
  exact Nat.le_trans (PySem.int_text_length_le10 (by decide) e) (by decide)
/-- a format: plain signs, then «%s» -/
theorem span_loop {r : List Nat} : ∀ {l acc : List Nat}, (∀ x ∈ l, x ≠ 37) → List.span.loop (fun x => x != 37) (l ++ 37 :: r) acc = (acc.reverse ++ l, 37 :: r)
  | [], acc, _ => by
    simp [List.span.loop]
  | a :: l, acc, h => by
    have ha : (a != 37) = true := bne_iff_ne.mpr (h a (.head _))
    show List.span.loop _ (a :: (l ++ 37 :: r)) acc = _
    unfold List.span.loop
    simp only [ha]
    rw [span_loop fun x hx => h x (.tail _ hx)]
    simp
theorem fmt_span {c : Nat} {l r : List Nat} (hc : c ≠ 37) (h : ∀ x ∈ l, x ≠ 37) : List.span (fun x => x != 37) (c :: l ++ 37 :: r) = (c :: l, 37 :: r) := by
  show List.span.loop _ (c :: l ++ 37 :: r) [] = _
  rw [span_loop fun x hx => ?_]
  · rfl
  · rcases List.mem_cons.mp hx with rfl | hx
    · exact hc
    · exact h x hx
theorem msgI_gen {c : Nat} {l : List Nat} (hc : c ≠ 37) (h : ∀ x ∈ l, x ≠ 37) (hl : l.length ≤ 1000) : MsgI (-10 ^ 61 + 1) (10 ^ 61) ⟨(c :: l ++ [37, 115]).toArray⟩ := by
  intro n t u h1 h2 h3 h4
  have hlen := int_len (z := n) (by omega) h2
  have hsp : List.span (fun x => x != 37) (⟨(c :: l ++ [37, 115]).toArray⟩ : PySem.Str).cps.toList = (c :: l, [37, 115]) := fmt_span (r := [115]) hc h
  have hn : PySem.Str.length ⟨(c :: l ++ [37, 115]).toArray⟩ = l.length + 3 := by simp [PySem.Str.length]
  have hy : PySem.Str.length ⟨(c :: l).toArray⟩ = l.length + 1 := by simp [PySem.Str.length]
  refine' ⟨?T, ?m⟩
  case m =>
    apply KPc.meets_of
    intro _ _ _ _ _ _ _
    rw [KPc.entry_is]
    unfold Builtin.Str.percentFormat
    refine wpAny_bind (wpAny_isInstance (typeIs_int _ _ _) F.sub_int_tuple ?_)
    refine wpAny_bind (wpAny_of_eq (a := none) rfl ?_)
    refine wpAny_bind (wpAny_of_eq (KPc.fills _ _) ?_)
    kpc_if
    refine wpAny_bind (wpAny_pure ?_)
    refine wpAny_bind ?_
    rw [KPc.range_list, hn]
    rw [show List.range' 0 (l.length + 3) 1 = 0 :: 1 :: 2 :: List.range' 3 l.length 1 from rfl]
    refine KPc.start ?_
    intro w' gw
    refine KPc.turn ?_
    kpc_check
    kpc_if
    rw [hsp]
    kpc_if
    refine wpAny_pure ?_
    refine KPc.after_add0 gw (y := ⟨(c :: l).toArray⟩) rfl (KPc.obj_none (if_neg (by simp))) ?_
    intro w1 g1
    refine KPc.turn ?_
    refine wpAny_ite (KPc.ite_no (KPc.short_good g1 (by rw [hy]; omega)) ?_)
    (repeat kpc_if)
    (refine wpAny_bind ?_; refine wpAny_holding ?_; (repeat kpc_if); kpc_conv; refine wpAny_pure ?_; refine wpAny_pure ?_)
    refine KPc.after_str g1 hlen (by kpc_obj) ?_
    intro w2 g2
    refine KPc.turn ?_
    refine wpAny_ite (KPc.ite_no (KPc.short_good g2 (by rw [hy]; omega)) ?_)
    (repeat kpc_if)
    refine wpAny_pure ?_
    kpc_if
    refine KPc.finish_ok g2 (by rw [hy]; omega) (by exact rfl) ?_
    assumption
theorem msgS_gen {c : Nat} {l : List Nat} (hc : c ≠ 37) (h : ∀ x ∈ l, x ≠ 37) (hl : l.length ≤ 1000) : MsgS ⟨(c :: l ++ [37, 115]).toArray⟩ := by
  intro z t u hz
  have hlen := hz
  have hsp : List.span (fun x => x != 37) (⟨(c :: l ++ [37, 115]).toArray⟩ : PySem.Str).cps.toList = (c :: l, [37, 115]) := fmt_span (r := [115]) hc h
  have hn : PySem.Str.length ⟨(c :: l ++ [37, 115]).toArray⟩ = l.length + 3 := by simp [PySem.Str.length]
  have hy : PySem.Str.length ⟨(c :: l).toArray⟩ = l.length + 1 := by simp [PySem.Str.length]
  refine' ⟨?T, ?m⟩
  case m =>
    apply KPc.meets_of
    intro _ _ _ _ _ _ _
    rw [KPc.entry_is_s]
    unfold Builtin.Str.percentFormat
    refine wpAny_bind (wpAny_isInstance (typeIs_str _ _ _) F.sub_str_tuple ?_)
    refine wpAny_bind (wpAny_of_eq (a := some _) rfl ?_)
    refine wpAny_bind (KPc.wp_fills_str ?_)
    intro _
    kpc_if
    refine wpAny_bind (wpAny_pure ?_)
    refine wpAny_bind ?_
    rw [KPc.range_list, hn]
    rw [show List.range' 0 (l.length + 3) 1 = 0 :: 1 :: 2 :: List.range' 3 l.length 1 from rfl]
    refine KPc.start ?_
    intro w' gw
    refine KPc.turn ?_
    kpc_check
    kpc_if
    rw [hsp]
    kpc_if
    refine wpAny_pure ?_
    refine KPc.after_add0 gw (y := ⟨(c :: l).toArray⟩) rfl (KPc.obj_none (if_neg (by simp))) ?_
    intro w1 g1
    refine KPc.turn ?_
    refine wpAny_ite (KPc.ite_no (KPc.short_good g1 (by rw [hy]; omega)) ?_)
    (repeat kpc_if)
    (refine wpAny_bind ?_; refine wpAny_holding ?_; (repeat kpc_if); kpc_conv; refine wpAny_pure ?_; refine wpAny_pure ?_)
    refine KPc.after_str g1 hlen (by kpc_obj) ?_
    intro w2 g2
    refine KPc.turn ?_
    refine wpAny_ite (KPc.ite_no (KPc.short_good g2 (by rw [hy]; omega)) ?_)
    (repeat kpc_if)
    refine wpAny_pure ?_
    kpc_if
    refine KPc.finish_ok g2 (by rw [hy]; omega) (by exact rfl) ?_
    assumption
theorem msg_class : MsgI (-10 ^ 61 + 1) (10 ^ 61) (PySem.Str.ofString "class_ must be one of 0, 1, 2 or 3, not %s") :=
  MsgI.of (by decide +kernel) (msgI_gen (c := 99) (l := [108, 97, 115, 115, 95, 32, 109, 117, 115, 116, 32, 98, 101, 32, 111, 110, 101, 32, 111, 102, 32, 48, 44, 32, 49, 44, 32, 50, 32, 111, 114, 32, 51, 44, 32, 110, 111, 116, 32]) (by decide) (by decide) (by decide))
theorem msg_method : MsgI (-10 ^ 61 + 1) (10 ^ 61) (PySem.Str.ofString "method must be 0 or 1, not %s") :=
  MsgI.of (by decide +kernel) (msgI_gen (c := 109) (l := [101, 116, 104, 111, 100, 32, 109, 117, 115, 116, 32, 98, 101, 32, 48, 32, 111, 114, 32, 49, 44, 32, 110, 111, 116, 32]) (by decide) (by decide) (by decide))
theorem msg_tag : MsgI (-10 ^ 61 + 1) (10 ^ 61) (PySem.Str.ofString "tag must be greater than zero, not %s") :=
  MsgI.of (by decide +kernel) (msgI_gen (c := 116) (l := [97, 103, 32, 109, 117, 115, 116, 32, 98, 101, 32, 103, 114, 101, 97, 116, 101, 114, 32, 116, 104, 97, 110, 32, 122, 101, 114, 111, 44, 32, 110, 111, 116, 32]) (by decide) (by decide) (by decide))
theorem msg_noclass : MsgS (PySem.Str.ofString "class_ must be an integer, not %s") :=
  MsgS.of (by decide +kernel) (msgS_gen (c := 99) (l := [108, 97, 115, 115, 95, 32, 109, 117, 115, 116, 32, 98, 101, 32, 97, 110, 32, 105, 110, 116, 101, 103, 101, 114, 44, 32, 110, 111, 116, 32]) (by decide) (by decide) (by decide))
theorem msg_nobytes : MsgS (PySem.Str.ofString "contents must be a byte string, not %s") :=
  MsgS.of (by decide +kernel) (msgS_gen (c := 99) (l := [111, 110, 116, 101, 110, 116, 115, 32, 109, 117, 115, 116, 32, 98, 101, 32, 97, 32, 98, 121, 116, 101, 32, 115, 116, 114, 105, 110, 103, 44, 32, 110, 111, 116, 32]) (by decide) (by decide) (by decide))
theorem msg_extra : MsgI 0 (10 ^ 10) (PySem.Str.ofString "Extra data - %d bytes of trailing data were provided") := by
  refine MsgI.of (by kpc_eq) ?_
  intro n t u h1 h2 h3 h4
  refine' ⟨?T, ?m⟩
  case m =>
    intros
    apply KPc.meets_of
    intro _ _ _ _ _ _ _
    rw [KPc.entry_is]
    unfold Builtin.Str.percentFormat
    refine wpAny_bind (wpAny_isInstance (typeIs_int _ _ _) F.sub_int_tuple ?_)
    refine wpAny_bind (wpAny_of_eq (a := none) rfl ?_)
    refine wpAny_bind (wpAny_of_eq (KPc.fills _ _) ?_)
    kpc_if
    refine wpAny_bind (wpAny_pure ?_)
    refine wpAny_bind ?_
    rw [KPc.range_list]
    refine KPc.start ?_
    intro _ _
    (refine KPc.turn ?_; kpc_check; (repeat kpc_if); refine wpAny_pure ?_; kpc_piece)
    (refine KPc.turn ?_; kpc_check; (repeat kpc_if))
    (refine wpAny_bind ?_; refine wpAny_holding ?_; (repeat kpc_if); kpc_conv; refine wpAny_pure ?_; refine wpAny_pure ?_)
    (refine KPc.after_int (by kpc_g) rfl (by kpc_kind) rfl (by with_reducible assumption) (by with_reducible assumption) rfl (by kpc_none) ?_; intro _ _)
    kpc_turns
end
local macro_rules | `(tactic| k_room) => `(tactic| ktr_room)
local macro_rules | `(tactic| k_units) => `(tactic| ktr_units)
section
local macro_rules | `(tactic| walk_at "callWith") => `(tactic| (k_here; (with_reducible show wpAny _ _ (callWith _ (Value.builtin "int.to_bytes") _ _ _) _ _ _); k_dflt (refine' callWithM_kw ?_); (try dsimp only [List.nil_append, List.cons_append])))
local macro_rules | `(tactic| walk_at "callWith ref") => `(tactic| (k_here; (with_reducible show wpAny _ _ (callWith _ (Value.ref _) _ (backTo _ (starEach (_ :: _) _)) (backToKw _ (keywordEach (_ :: _) _))) _ _ _); kfb_any; k_dflt (refine' callWithB_kw ?kfbN ?kfbM ?_; (case kfbN => k_asm); (case kfbM => k_mem); k_whole)))
theorem chr_ok {w mean mg mb} {k : Int} {t : Tok} (h0 : 0 ≤ k) (h1 : k < 256) : Con w mean mg mb 21 [.int k t] [] 1 (fun t => .bytes #[k.toNat.toUInt8] t) := by
  unfold Con
  w_on
  w_top on
  k_fill
  intro news dp un gd cn cs a ccd cl outer A₀ base h₀ L m s Q E B F X N T hk hd hu hret
  cases cs; cases hk
  k_steps
  all_goals exact hret _ _ _ (by k_asm) (cb_drop (by assumption) (by kcj_all))
/-- the octets of a length -/
def tb (v : Int) : Array UInt8 := if v < 256 then #[v.toNat.toUInt8] else #[(v / 256).toNat.toUInt8, (v % 256).toNat.toUInt8]
theorem tb_ints {k : Int} {n : Nat} (h : (if k < 256 then 1 else 2) = n) (h0 : 128 ≤ k) (h1 : k < 65536) {b : Array UInt8} (e : KBw.bInts b = (KTBy.little n k).reverse) : b = tb k := by
  refine bInts_inj (e.trans ?_)
  subst h
  unfold tb KBw.bInts
  by_cases hk : k < 256
  · rw [if_pos hk, if_pos hk]
    simp only [KTBy.little, List.reverse_cons, List.reverse_nil, List.nil_append, List.map_cons, List.map_nil]
    congr 1
    show _ = ((UInt8.ofNat k.toNat).toNat : Int)
    rw [UInt8.toNat_ofNat']
    omega
  · rw [if_neg hk, if_neg hk]
    simp only [KTBy.little, List.reverse_cons, List.reverse_nil, List.nil_append, List.cons_append, List.map_cons, List.map_nil]
    congr 1
    · show _ = ((UInt8.ofNat (k / 256).toNat).toNat : Int)
      rw [UInt8.toNat_ofNat']
      omega
    · congr 1
      show _ = ((UInt8.ofNat (k % 256).toNat).toNat : Int)
      rw [UInt8.toNat_ofNat']
      omega
theorem width_of {k : Int} (h0 : 128 ≤ k) (h1 : k < 65536) : (((Builtin.Int.intBits k : Nat) : Int) + 7).fdiv 8 = ((if k < 256 then 1 else 2 : Nat) : Int) := by
  have a : ∀ n : Nat, Builtin.Int.intBits k ≤ n ↔ k.natAbs < 2 ^ n := fun n => intBits_le_iff
  rw [Int.fdiv_eq_ediv_of_nonneg _ (by decide)]
  have a7 := a 7
  have a8 := a 8
  have a16 := a 16
  simp only [Nat.reducePow] at a7 a8 a16
  split <;> omega
theorem tobytes_ok {w mean mg mb} {k : Int} {t : Tok} (h0 : 128 ≤ k) (h1 : k < 65536) : Con w mean mg mb 36 [.int k t] [] 1 (fun t => .bytes (tb k) t) := by
  unfold Con
  w_on
  w_top on
  k_fill
  intro news dp un gd cn cs a ccd cl outer A₀ base h₀ L m s Q E B F X N T hk hd hu hret
  cases cs; cases hk
  have hw := width_of h0 h1
  k_steps
  · with_unfolding_all refine toBig_at (by rfl) hw (by split <;> omega) (by omega) (by split <;> omega) ?_
    intro b t' k' hb
    have hb := tb_ints rfl h0 h1 hb
    subst hb
    k_steps
    all_goals exact hret _ _ _ (by k_asm) (cb_drop (by assumption) (by kcj_all))
  · exfalso
    rename Int.fdiv _ _ = 0 => hz
    rw [hw] at hz
    split at hz <;> omega
theorem frombytes_ok {w mean mg mb} {b : Array UInt8} {t : Tok} (h0 : b.size ≤ 8) : Con w mean mg mb 44 [.bytes b t] [(PySem.Str.ofString "signed", .bool false)] 1 (fun t => .int (KFB.value (KBw.bInts b)) t) := by
  unfold Con
  w_on
  w_top on
  k_fill
  intro news dp un gd cn cs a ccd cl outer A₀ base h₀ L m s Q E B F X N T hk hd hu hret
  cases cs; cases hk
  k_steps
  with_unfolding_all refine callBig_at (by rfl) (by k_asm) (by k_mem) h0 ?_
  intro t' k'
  k_steps
  all_goals exact hret _ _ _ (by k_asm) (cb_drop (by assumption) (by kcj_all))
end
section
abbrev ConL (w : World) (mean : ExcName → Option Value) (mg mb : Str → Option Value) (f : Addr) (vs : List Value) (kw : List (Str × Value)) (need : Nat) (ns : List Int) : Prop :=
  ∀ (news : List (Addr × Obj)) (dp un : Nat) (gd : Option (List Code)) (cn : Str) (cs : Scope) (a : Addr) (ccd : Value) (cl : List (Str × Addr)) (outer : List Env) (A₀ : Around) (base h₀ : Heap) (L : Addr) (m : Str → Option Value) (s : Shared) (Q E : Value → Shared → Prop),
    Below A₀ base outer h₀ → Fr h₀ L s.heap m → (hd.heap_39 w.params).In h₀ → News h₀ L s.heap news → Top hd.view_39 (looseW hd.view_39 [Str.ofString "int_to_bytes", Str.ofString "int_from_bytes", Str.ofString "parse", Str.ofString "_parse"]) mean mg mb h₀ → cs.kind = .function →
    dp + need < recursionLimit → un + 8 * need < cLine →
    (∀ (r : Addr) (us : List Value) (n : Nat) (h' : Heap) (tk' : Nat), IntsAre us ns → Fr h₀ L h' m → News h₀ L h' ((r, listOf us.toArray n) :: news) → Q (.ref r) { s with heap := h', toks := tk' }) →
      wpAny (model PySem.Challenge.rw_jf0003_01.row.prog w) (ktrTop dp un gd cn cs L a ccd cl outer) (call (.ref f) vs kw) Q E s
/-- where the walk halts for a step by hand -/
def Halt (P : Prop) : Prop := P
theorem Halt.mk {P : Prop} (h : Halt P) : P := h
end
local macro_rules | `(tactic| walk_at "exec While Compare cons nil") => `(tactic| refine Halt.mk ?_)
section
/-- the digits of a number, the greatest first -/
def dg (b n : Nat) : List Int := if 2 ≤ b ∧ b ≤ n then dg b (n / b) ++ [((n % b : Nat) : Int)] else [(n : Int)]
termination_by n
decreasing_by exact Nat.div_lt_self (by omega) (by omega)
/-- a turn of the digits' loop -/
structure DS where
  r : Addr
  vs : List Value
  ns : List Int
  cnt : Nat
  num : Int
  tk : Tok
def dpre (b n : Nat) : List Int := if 2 ≤ b ∧ b ≤ n then dg b (n / b) else []
theorem dg_eq (b n : Nat) (hb : 2 ≤ b) : dg b n = dpre b n ++ [((n % b : Nat) : Int)] := by
  rw [dg]
  unfold dpre
  split
  · rfl
  · rename_i h
    rw [Nat.mod_eq_of_lt (by omega)]; rfl
theorem fdiv_nat (k b : Nat) : (k : Int).fdiv b = ((k / b : Nat) : Int) := by
  rw [Int.fdiv_eq_ediv_of_nonneg _ (by omega)]; rfl
theorem fmod_nat (k b : Nat) : (k : Int).fmod b = ((k % b : Nat) : Int) := by
  rw [Int.fmod_eq_emod_of_nonneg _ (by omega)]; rfl
theorem dpre_lt {b n : Nat} (h : n < b) : dpre b n = [] := by
  unfold dpre
  rw [if_neg (by omega)]
theorem dpre_ge {b n : Nat} (h : 2 ≤ b) (h2 : b ≤ n) : dpre b n = dpre b (n / b) ++ [((n / b % b : Nat) : Int)] := by
  rw [← dg_eq b (n / b) h]
  show (if _ then _ else _) = _
  rw [if_pos ⟨h, h2⟩]
theorem turn_ok {b n k : Nat} {z : Int} {ns : List Int} (hz : z = k) (hb : 2 ≤ b) (a : (b : Int) ≤ z) (h2 : dg b n = dpre b k ++ ns) (h3 : k * 2 ^ ns.length < 2 ^ 201) (h4 : ns.length ≤ 201) :
    ∃ k' : Nat, z.fdiv b = k' ∧ dg b n = dpre b k' ++ ([(z.fdiv b).fmod b] ++ ns) ∧ k' * 2 ^ ([(z.fdiv b).fmod b] ++ ns).length < 2 ^ 201 ∧ ([(z.fdiv b).fmod b] ++ ns).length ≤ 201 := by
  subst hz
  have hbk : b ≤ k := Int.ofNat_le.mp a
  rw [fdiv_nat, fmod_nat]
  have hl : ([((k / b % b : Nat) : Int)] ++ ns).length = ns.length + 1 := by simp
  refine ⟨k / b, rfl, ?_, ?_, ?_⟩
  · rw [h2, dpre_ge hb hbk, List.append_assoc]
  · rw [hl, Nat.pow_succ]
    have h5 : k / b ≤ k / 2 := Nat.div_le_div_left hb (by decide)
    have h6 : k / b * (2 ^ ns.length * 2) = (k / b * 2) * 2 ^ ns.length := by rw [Nat.mul_comm (2 ^ ns.length) 2, Nat.mul_assoc]
    rw [h6]
    exact Nat.lt_of_le_of_lt (Nat.mul_le_mul_right _ (by omega)) h3
  · rw [hl]
    have h7 : 2 ^ ns.length < 2 ^ 201 := Nat.lt_of_le_of_lt (Nat.le_mul_of_pos_left _ (by omega)) h3
    have h8 := (Nat.pow_lt_pow_iff_right (by decide : 1 < 2)).mp h7
    omega
end
local macro_rules | `(tactic| walk_at "KswEnd") => `(tactic| refine Halt.mk ?_)
section
local macro_rules | `(tactic| walk_at "NoSuchKey") => `(tactic| fail)
theorem digits_ok {w mean mg mb} {n b : Nat} {t u : Tok} (hb : 2 ≤ b) (hb2 : b ≤ 256) (hn : n < 2 ^ 200) : ConL w mean mg mb 88 [.int n t, .int b u] [] 1 (dg b n) := by
  unfold ConL
  w_on
  w_top on
  k_fill
  intro news dp un gd cn cs a ccd cl outer A₀ base h₀ L m s Q E B F X N T hk hd hu hret
  cases cs; cases hk
  k_steps
  unfold Halt
  rename Fr _ _ _ _ => lF
  rename News _ _ _ _ => lN
  with_unfolding_all refine ksw_while (σ := DS) (fun c => (c.r, listOf c.vs.toArray c.cnt) :: news) (fun c => [(Str.ofString "digits", .ref c.r), (Str.ofString "number", .int c.num c.tk)]) (fun c => IntsAre c.vs c.ns) [] (fun c => ∃ k : Nat, c.num = k ∧ dg b n = dpre b k ++ c.ns ∧ k * 2 ^ c.ns.length < 2 ^ 201 ∧ c.ns.length ≤ 201) (fun c => c.num.toNat) ⟨_, _, [Int.fmod n b], _, n, t⟩ lF lN (.cons _ _ .nil) ?kk ?kp ?_
  case kk => kst_all
  case kp =>
    refine ⟨n, rfl, ?_, by show n * 2 ^ 1 < 2 ^ 201; omega, by show 1 ≤ 201; decide⟩
    rw [dg_eq b n hb]
    show _ = dpre b n ++ [Int.fmod n b]
    rw [Int.fmod_eq_emod_of_nonneg _ (by omega)]
    rfl
  clear lF lN
  intro c u h tk hf hp F N
  dsimp only [kstB] at F
  obtain ⟨k, hk1, hk2, hk3, hk4⟩ := hp
  have hvl : c.vs.length ≤ 201 := by rw [hf.length]; exact hk4
  k_steps
  · unfold Halt
    rename Fr _ _ _ _ => eF
    rename News _ _ _ _ => eN
    rename IntsAre _ _ => eI
    refine' ksw_end ⟨_, _, _, _, Int.fdiv c.num b, _⟩ eF eN ?n1 eI ?n3 ?n4 ?n5 ?n6
    case n3 => kst_all
    case n1 => kst_in
    case n4 => ksw_same
    case n5 => exact turn_ok hk1 hb (by assumption) hk2 hk3 hk4
    case n6 =>
      show (Int.fdiv c.num b).toNat < c.num.toNat
      rename (b : Int) ≤ c.num => hge
      rw [hk1, fdiv_nat]
      have := Nat.div_lt_self (n := k) (k := b) (by omega) (by omega)
      omega
  · rename ¬ _ ≤ _ => hge
    rw [dpre_lt (by omega), List.nil_append] at hk2
    rw [hk2] at hret
    exact hret _ _ _ _ _ hf (by k_asm) (by assumption)
end
section
/-- octets of ints -/
def ob (l : List Int) : Array UInt8 := (l.map fun z => z.toNat.toUInt8).toArray
theorem ob_nil : ob [] = #[] := rfl
theorem ob_app (a b : List Int) : ob (a ++ b) = ob a ++ ob b := by unfold ob; rw [List.map_append]; simp
theorem ob_one (z : Int) : #[z.toNat.toUInt8] = ob [z] := rfl
theorem ob_size (l : List Int) : (ob l).size = l.length := by unfold ob; simp
def Byt (l : List Int) : Prop := ∀ z ∈ l, 0 ≤ z ∧ z < 256
theorem Byt.app {a b : List Int} (ha : Byt a) (hb : Byt b) : Byt (a ++ b) := fun z hz => (List.mem_append.mp hz).elim (ha z) (hb z)
theorem bInts_ob {l : List Int} (h : Byt l) : KBw.bInts (ob l) = l := by
  unfold KBw.bInts ob
  simp only [List.map_map]
  refine (List.map_congr_left fun z hz => ?_).trans (List.map_id l)
  obtain ⟨h0, h1⟩ := h z hz
  show ((UInt8.ofNat z.toNat).toNat : Int) = id z
  rw [UInt8.toNat_ofNat']
  show _ = z
  omega
theorem bInts_byt (b : Array UInt8) : Byt (KBw.bInts b) := fun _ h => KBw.ints_in h
theorem ob_of {b : Array UInt8} {l : List Int} (h : KBw.bInts b = l) : b = ob l := by
  subst h
  refine bInts_inj ?_
  rw [bInts_ob (bInts_byt b)]
/-- the digits of a tag that are not its last, each with the sign that more follow -/
def up (n : Nat) : List Int := if n = 0 then [] else up (n / 128) ++ [((128 + n % 128 : Nat) : Int)]
termination_by n
decreasing_by exact Nat.div_lt_self (by omega) (by omega)
def enc (n : Nat) : List Int := up (n / 128) ++ [((n % 128 : Nat) : Int)]
theorem up_pos {n : Nat} (h : 0 < n) : up n = up (n / 128) ++ [((128 + n % 128 : Nat) : Int)] := by
  rw [up, if_neg (by omega)]
theorem up_zero : up 0 = [] := by rw [up, if_pos rfl]
/-- a header's first part -/
def idl (kind method tag : Int) : List Int := if 31 ≤ tag then [64 * kind + 32 * method + 31] ++ enc tag.toNat else [64 * kind + 32 * method + tag]
/-- a length -/
def lenl (n : Nat) : List Int := if n ≤ 127 then [(n : Int)] else if n < 256 then [129, (n : Int)] else [130, ((n / 256 : Nat) : Int), ((n % 256 : Nat) : Int)]
def hdr (kind method tag : Int) (n : Nat) : Array UInt8 := ob (idl kind method tag) ++ ob (lenl n)
theorem tb_size (k : Int) : (tb k).size = if k < 256 then 1 else 2 := by unfold tb; split <;> rfl
theorem tb_or (k : Int) : Builtin.bitOr 128 ((tb k).size : Int) = if k < 256 then 129 else 130 := by
  rw [tb_size]
  split <;> decide
theorem tb_or0 (k : Int) : 0 ≤ Builtin.bitOr 128 ((tb k).size : Int) := by rw [tb_or]; split <;> decide
theorem tb_or1 (k : Int) : Builtin.bitOr 128 ((tb k).size : Int) < 256 := by rw [tb_or]; split <;> decide
theorem lenl_long {n : Nat} (h : ¬ n ≤ 127) : #[(Builtin.bitOr 128 ((tb n).size : Int)).toNat.toUInt8] ++ tb n = ob (lenl n) := by
  rw [tb_or]
  unfold lenl tb
  rw [if_neg h]
  by_cases h2 : n < 256
  · rw [if_pos (by omega), if_pos (by omega), if_pos h2]; rfl
  · rw [if_neg (by omega), if_neg (by omega), if_neg h2]; rfl
theorem id_val {k m : Int} (h0 : 0 ≤ k) (h1 : k ≤ 3) (h2 : 0 ≤ m) (h3 : m ≤ 1) : Builtin.bitOr (Builtin.bitOr 0 (k * 2 ^ Int.toNat 6)) (m * 2 ^ Int.toNat 5) = 64 * k + 32 * m := by
  have e : k = 0 ∨ k = 1 ∨ k = 2 ∨ k = 3 := by omega
  have f : m = 0 ∨ m = 1 := by omega
  rcases e with rfl | rfl | rfl | rfl <;> rcases f with rfl | rfl <;> decide
theorem id_all : ∀ a : Fin 8, ∀ b : Fin 32, Builtin.bitOr (32 * (a.val : Int)) (b.val : Int) = 32 * (a.val : Int) + (b.val : Int) := by decide +kernel
theorem id_or {k m x : Int} (h0 : 0 ≤ k) (h1 : k ≤ 3) (h2 : 0 ≤ m) (h3 : m ≤ 1) (h4 : 0 ≤ x) (h5 : x ≤ 31) : Builtin.bitOr (Builtin.bitOr (Builtin.bitOr 0 (k * 2 ^ Int.toNat 6)) (m * 2 ^ Int.toNat 5)) x = 64 * k + 32 * m + x := by
  rw [id_val h0 h1 h2 h3]
  have h := id_all ⟨(2 * k + m).toNat, by omega⟩ ⟨x.toNat, by omega⟩
  simp only at h
  rw [show (((2 * k + m).toNat : Nat) : Int) = 2 * k + m by omega, show ((x.toNat : Nat) : Int) = x by omega] at h
  rw [show 64 * k + 32 * m = 32 * (2 * k + m) by omega]
  exact h
theorem cb_all : ∀ b : Fin 128, Builtin.bitOr 0 (b.val : Int) = (b.val : Int) ∧ Builtin.bitOr 128 (b.val : Int) = 128 + (b.val : Int) := by decide +kernel
theorem cb_or {c x : Int} (h : c = 0 ∨ c = 128) : Builtin.bitOr c (Builtin.bitAnd x 127) = c + x % 128 := by
  rw [bitAnd_m7]
  have h := cb_all ⟨(x % 128).toNat, by omega⟩
  simp only at h
  rw [show (((x % 128).toNat : Nat) : Int) = x % 128 by omega] at h
  rename_i hc
  rcases hc with rfl | rfl
  · rw [h.1]; omega
  · exact h.2
end
local macro_rules | `(tactic| walk_at "kf") => `(tactic| (refine ⟨?_, ?_, ?_, ?_, ?_, ?_, ?_, ?_⟩; k_asm; k_asm; k_asm; k_asm; k_asm; rfl; ktr_room; ktr_units))
local macro_rules | `(tactic| walk_at "kp") => `(tactic| first | with_reducible assumption | omega)
section
theorem Con.use {w : World} {mean : ExcName → Option Value} {mg mb : Str → Option Value} {f : Addr} {vs : List Value} {kw : List (Str × Value)} {need : Nat} {R : Tok → Value} (C : Con w mean mg mb f vs kw need R)
    {news : List (Addr × Obj)} {dp un : Nat} {gd : Option (List Code)} {cn : Str} {cs : Scope} {a : Addr} {ccd : Value} {cl : List (Str × Addr)} {outer : List Env} {A₀ : Around} {base h₀ : Heap} {L : Addr} {m : Str → Option Value} {s : Shared} {Q E : Value → Shared → Prop}
    (p : Below A₀ base outer h₀ ∧ Fr h₀ L s.heap m ∧ (hd.heap_39 w.params).In h₀ ∧ News h₀ L s.heap news ∧ Top hd.view_39 (looseW hd.view_39 [Str.ofString "int_to_bytes", Str.ofString "int_from_bytes", Str.ofString "parse", Str.ofString "_parse"]) mean mg mb h₀ ∧ cs.kind = .function ∧ dp + need < recursionLimit ∧ un + 8 * need < cLine) (ret : CbRet h₀ L m news s Q R) :
    wpAny (model PySem.Challenge.rw_jf0003_01.row.prog w) (ktrTop dp un gd cn cs L a ccd cl outer) (call (.ref f) vs kw) Q E s := C _ _ _ _ _ _ _ _ _ _ _ _ _ _ _ _ _ _ p.1 p.2.1 p.2.2.1 p.2.2.2.1 p.2.2.2.2.1 p.2.2.2.2.2.1 p.2.2.2.2.2.2.1 p.2.2.2.2.2.2.2 ret
end
local macro_rules | `(tactic| walk_at "inplaceOp Add bytes bytes") => `(tactic| (k_here; (with_reducible show wpAny _ _ (inplaceOp Operator.Add (Value.bytes _ _) (Value.bytes _ _)) _ _ _); (refine iadd_bytes ?hsz ?_); (case hsz => ((try simp only [Array.size_append, List.size_toArray, List.length_cons, List.length_nil]); omega)); intro _ _))
local macro_rules | `(tactic| walk_at "binaryOp Add bytes bytes") => `(tactic| (k_here; (with_reducible show wpAny _ _ (binaryOp Operator.Add (Value.bytes _ _) (Value.bytes _ _)) _ _ _); (refine KBy.add_bytes ?hsz ?_); (case hsz => ((try simp only [Array.size_append, List.size_toArray, List.length_cons, List.length_nil]); omega)); intro _ _))
section
/-- a turn of the header's loop -/
structure HS where
  hdr : Array UInt8
  cb : Int
  tag : Int
  th : Tok
  tc : Tok
  tt : Tok
def HInv (n : Nat) (c : HS) : Prop := ∃ k : Nat, c.tag = k ∧ k * 2 ^ c.hdr.size < 2 ^ 201 ∧ c.hdr.size ≤ 201 ∧ ((c.cb = 0 ∧ k = n ∧ c.hdr = #[]) ∨ (c.cb = 128 ∧ ob (enc n) = ob (up k) ++ c.hdr))
theorem HInv.cb {n : Nat} {c : HS} (h : HInv n c) : c.cb = 0 ∨ c.cb = 128 := by
  obtain ⟨k, _, _, _, h⟩ := h
  rcases h with ⟨h, _⟩ | ⟨h, _⟩
  · exact .inl h
  · exact .inr h
theorem HInv.turn {n : Nat} {c : HS} (h : HInv n c) (hp : 0 < c.tag) {cb' : Int} (hcb' : cb' = 128) (a b d : Tok) :
    HInv n ⟨#[(Builtin.bitOr c.cb (Builtin.bitAnd c.tag 127)).toNat.toUInt8] ++ c.hdr, cb', c.tag.fdiv (2 ^ Int.toNat 7), a, b, d⟩ := by
  have hc := h.cb
  obtain ⟨k, h1, h2, h3, h4⟩ := h
  have hk : 0 < k := by omega
  have e : c.tag.fdiv (2 ^ Int.toNat 7) = ((k / 128 : Nat) : Int) := by
    rw [h1]
    exact fdiv_nat k 128
  have hs : (#[(Builtin.bitOr c.cb (Builtin.bitAnd c.tag 127)).toNat.toUInt8] ++ c.hdr).size = c.hdr.size + 1 := by
    rw [Array.size_append]; show 1 + _ = _; omega
  refine ⟨k / 128, e, ?_, ?_, .inr ⟨hcb', ?_⟩⟩
  · show k / 128 * 2 ^ (_ ++ c.hdr).size < 2 ^ 201
    rw [hs, Nat.pow_succ]
    have h6 : k / 128 * (2 ^ c.hdr.size * 2) = (k / 128 * 2) * 2 ^ c.hdr.size := by rw [Nat.mul_comm (2 ^ c.hdr.size) 2, Nat.mul_assoc]
    rw [h6]
    exact Nat.lt_of_le_of_lt (Nat.mul_le_mul_right _ (by omega)) h2
  · show (_ ++ c.hdr).size ≤ 201
    rw [hs]
    have h7 : 2 ^ c.hdr.size < 2 ^ 201 := Nat.lt_of_le_of_lt (Nat.le_mul_of_pos_left _ hk) h2
    have h8 := (Nat.pow_lt_pow_iff_right (by decide : 1 < 2)).mp h7
    omega
  · show ob (enc n) = ob (up (k / 128)) ++ (#[(Builtin.bitOr c.cb (Builtin.bitAnd c.tag 127)).toNat.toUInt8] ++ c.hdr)
    rw [cb_or hc, h1]
    have hm : (k : Int) % 128 = ((k % 128 : Nat) : Int) := rfl
    rw [hm, ob_one]
    rcases h4 with ⟨h5, rfl, h6⟩ | ⟨h5, h6⟩
    · rw [h5, h6, Int.zero_add]
      unfold enc
      rw [ob_app]
      simp
    · rw [h5, h6, up_pos hk, ob_app, Array.append_assoc]
      rfl
theorem HInv.less {z : Int} (h : 0 < z) : (z.fdiv (2 ^ Int.toNat 7)).toNat < z.toNat := by
  obtain ⟨k, rfl⟩ := Int.eq_ofNat_of_zero_le (Int.le_of_lt h)
  rw [show (k : Int).fdiv (2 ^ Int.toNat 7) = ((k / 128 : Nat) : Int) from fdiv_nat k 128]
  omega
theorem HInv.fin {n : Nat} {c : HS} (h : HInv n c) (hp : ¬ 0 < c.tag) (hn : 31 ≤ n) : c.hdr = ob (enc n) := by
  obtain ⟨k, h1, h2, h3, h4⟩ := h
  have hk : k = 0 := by omega
  subst hk
  rcases h4 with ⟨h5, rfl, h6⟩ | ⟨h5, h6⟩
  · omega
  · rw [h6, up_zero, ob_nil]; simp
theorem ret_bytes {h₀ h' : Heap} {L : Addr} {m : Str → Option Value} {news : List (Addr × Obj)} {s : Shared} {Q : Value → Shared → Prop} {t : Tok} {tk' : Nat} {x y : Array UInt8} (hret : CbRet h₀ L m news s Q (fun t => .bytes x t)) (e : y = x) (F : Fr h₀ L h' m) (N : News h₀ L h' news) : Q (.bytes y t) { s with heap := h', toks := tk' } := by
  subst e
  exact hret t h' tk' F N
theorem len_end {i : Array UInt8} {l : List Int} {n : Nat} (hi : i = ob l) (h : (n : Int) ≤ 127) : i ++ #[(n : Int).toNat.toUInt8] = ob l ++ ob (lenl n) := by
  subst hi
  unfold lenl
  rw [if_pos (by omega)]
  rfl
theorem len_endL {i : Array UInt8} {l : List Int} {n : Nat} (hi : i = ob l) (h : ¬ (n : Int) ≤ 127) : i ++ #[(Builtin.bitOr 128 ((tb n).size : Int)).toNat.toUInt8] ++ tb n = ob l ++ ob (lenl n) := by
  subst hi
  rw [Array.append_assoc, lenl_long (by omega)]
theorem id_end {k m x : Int} (h0 : 0 ≤ k) (h1 : k ≤ 3) (h2 : 0 ≤ m) (h3 : m ≤ 1) (h4 : 0 ≤ x) (h5 : ¬ 31 ≤ x) : #[] ++ #[(Builtin.bitOr (Builtin.bitOr (Builtin.bitOr 0 (k * 2 ^ Int.toNat 6)) (m * 2 ^ Int.toNat 5)) x).toNat.toUInt8] = ob (idl k m x) := by
  rw [id_or h0 h1 h2 h3 h4 (by omega), ob_one]
  unfold idl
  rw [if_neg h5]
  simp
theorem id_endL {k m x : Int} {e : Array UInt8} (h0 : 0 ≤ k) (h1 : k ≤ 3) (h2 : 0 ≤ m) (h3 : m ≤ 1) (h5 : 31 ≤ x) (he : e = ob (enc x.toNat)) : #[(Builtin.bitOr (Builtin.bitOr (Builtin.bitOr 0 (k * 2 ^ Int.toNat 6)) (m * 2 ^ Int.toNat 5)) 31).toNat.toUInt8] ++ e = ob (idl k m x) := by
  subst he
  rw [id_or h0 h1 h2 h3 (by decide) (by decide), ob_one]
  unfold idl
  rw [if_pos h5, ob_app]
theorem Fr.to {h₀ h : Heap} {L : Addr} {m m' : Str → Option Value} (F : Fr h₀ L h m) (e : ∀ y, m y = m' y) : Fr h₀ L h m' := (funext e : m = m') ▸ F
theorem Fr.put {h₀ h : Heap} {L : Addr} {n : Str} {v : Option Value} {m : Str → Option Value} (F : Fr h₀ L h m) (e : m n = v) : Fr h₀ L h (fun y => if y = n then v else m y) := by
  refine Fr.to F fun y => ?_
  by_cases h1 : y = n
  · rw [if_pos h1, h1, e]
  · rw [if_neg h1]
theorem Fr.over {h₀ h : Heap} {L : Addr} {n1 n2 n3 : Str} {v1 v2 : Option Value} {m rest : Str → Option Value} (F : Fr h₀ L h m) (e1 : m n1 = v1) (e2 : m n2 = v2) (e : ∀ y, y ≠ n1 → y ≠ n2 → y ≠ n3 → m y = rest y) :
    Fr h₀ L h (fun y => if y = n1 then v1 else if y = n2 then v2 else if y = n3 then m n3 else rest y) := by
  refine Fr.to F fun y => ?_
  by_cases h1 : y = n1
  · rw [if_pos h1, h1, e1]
  · rw [if_neg h1]
    by_cases h2 : y = n2
    · rw [if_pos h2, h2, e2]
    · rw [if_neg h2]
      by_cases h3 : y = n3
      · rw [if_pos h3, h3]
      · rw [if_neg h3, e y h1 h2 h3]
/-- behind the header's one if: the first octets are whole -/
def DumpJoin (h₀ : Heap) (L : Addr) (rest : Str → Option Value) (news : List (Addr × Obj)) (B : Array UInt8) (s : Shared) (f : Flow) (s' : Shared) : Prop :=
  ∃ (B' : Array UInt8) (tH : Tok) (u1 u2 : Option Value) (h' : Heap) (tk : Nat), f = .next ∧ s' = { s with heap := h', toks := tk } ∧ B' = B ∧ B'.size ≤ 300 ∧
    Fr h₀ L h' (fun y => if y = Str.ofString "header" then some (.bytes B' tH) else if y = Str.ofString "cont_bit" then u1 else if y = Str.ofString "tag" then u2 else rest y) ∧ News h₀ L h' news
theorem dump_join {M : Model} {A : Around} {E : Value → Shared → Prop} {t : Sem Flow} {h₀ : Heap} {L : Addr} {rest : Str → Option Value} {news : List (Addr × Obj)} {s : Shared} {Q : Flow → Shared → Prop} {b : Array UInt8} {tb : Tok} (B : Array UInt8)
    (_F : Fr h₀ L s.heap rest) (_N : News h₀ L s.heap news) (hb : rest (Str.ofString "contents") = some (.bytes b tb)) (h1 : wpAny M A t (DumpJoin h₀ L rest news B s) E s)
    (h2 : ∀ (m₀ : Str → Option Value) (tH tC : Tok) (h' : Heap) (tk : Nat), B.size ≤ 300 → Fr h₀ L h' (fun y => if y = Str.ofString "header" then some (.bytes B tH) else if y = Str.ofString "contents" then some (.bytes b tC) else m₀ y) → News h₀ L h' news → Q .next { s with heap := h', toks := tk }) :
    wpAny M A t Q E s := by
  refine wpAny_mono h1 (fun f s' x => ?_) fun _ _ x => x
  obtain ⟨B', tH, u1, u2, h', tk, rfl, rfl, rfl, hz, F, N⟩ := x
  exact h2 _ tH tb h' tk hz (Fr.put (Fr.put F (n := Str.ofString "contents") (v := some (.bytes b tb)) hb) (n := Str.ofString "header") (v := some (.bytes B' tH)) rfl) N
local macro_rules | `(tactic| walk_at "call ref") => `(tactic| (k_here; (with_reducible show wpAny _ _ (call (Value.ref 21) _ _) _ _ _); k_dflt (refine' Con.use (chr_ok (by first | assumption | omega | exact tb_or0 _) (by first | assumption | omega | exact tb_or1 _)) (by walk_at "kf") ?_; intro _ _ _ _ _; (try dsimp only); (try k_fold))))
local macro_rules | `(tactic| walk_at "call ref") => `(tactic| (k_here; (with_reducible show wpAny _ _ (call (Value.ref 36) _ _) _ _ _); k_dflt (refine' Con.use (tobytes_ok (by walk_at "kp") (by walk_at "kp")) (by walk_at "kf") ?_; intro _ _ _ _ _; (try dsimp only); (try k_fold))))
local macro_rules | `(tactic| walk_at "exec If") => `(tactic| ((with_reducible show wpAny _ _ (exec (Stmt.If (Expr.Compare (Expr.Name ("tag" : Str) _) [CmpOp.GtE] _ _) _ _ _) _) _ _ _); (fail_if_success (with_reducible show wpAny _ _ _ (DumpJoin _ _ _ _ _ _) _ _)); refine Halt.mk ?_))
local macro_rules | `(tactic| walk_at "DumpJoin") => `(tactic| refine Halt.mk ?_)
theorem dump_ok {w mean mg mb} {kind method tag : Int} {b : Array UInt8} {t1 t2 t3 t4 : Tok} (hk0 : 0 ≤ kind) (hk3 : kind ≤ 3) (hm0 : 0 ≤ method) (hm1 : method ≤ 1) (ht : 0 ≤ tag) (ht2 : tag < 2 ^ 200) (hb : b.size < 300) :
    Con w mean mg mb 81 [.int kind t1, .int method t2, .int tag t3, .bytes b t4] [] 2 (fun t => .bytes (hdr kind method tag b.size) t) := by
  unfold Con
  w_on
  w_top on
  k_fill
  intro news dp un gd cn cs a ccd cl outer A₀ base h₀ L m s Q E B F X N T hk hd hu hret
  cases cs; cases hk
  have gtb : (tb (b.size : Int)).size ≤ 2 := by rw [tb_size]; split <;> decide
  k_steps
  unfold Halt
  rename Fr _ _ _ _ => jF
  rename News _ _ _ _ => jN
  clear F N
  refine dump_join (ob (idl kind method tag)) jF jN rfl ?_ ?_
  · by_cases h31 : 31 ≤ tag
    · have g31 : 0 ≤ Builtin.bitOr (Builtin.bitOr (Builtin.bitOr 0 (kind * 2 ^ Int.toNat 6)) (method * 2 ^ Int.toNat 5)) 31 ∧ Builtin.bitOr (Builtin.bitOr (Builtin.bitOr 0 (kind * 2 ^ Int.toNat 6)) (method * 2 ^ Int.toNat 5)) 31 < 256 := by
        rw [id_or hk0 hk3 hm0 hm1 (by decide) (by decide)]; omega
      obtain ⟨g31a, g31b⟩ := g31
      (w_on; w_top on; k_fill; k_steps)
      unfold Halt
      rename Fr _ _ _ _ => lF
      rename News _ _ _ _ => lN
      with_unfolding_all refine' ksw_while (σ := HS) (fun _ => news) (fun c => [(Str.ofString "header", .bytes c.hdr c.th), (Str.ofString "cont_bit", .int c.cb c.tc), (Str.ofString "tag", .int c.tag c.tt)]) (fun _ => True) [] (fun c => HInv tag.toNat c) (fun c => c.tag.toNat) ⟨#[], 0, tag, _, _, t3⟩ lF lN trivial ?kk ?kp ?kt
      case kk => kst_all
      case kp => exact ⟨tag.toNat, by show tag = _; omega, by show _ * 2 ^ 0 < _; omega, by show 0 ≤ 201; decide, .inl ⟨rfl, rfl, rfl⟩⟩
      case kt =>
      clear lF lN
      intro c u h tk hf hp F N
      dsimp only [kstB] at F
      have hcb := hp.cb
      have hsz : c.hdr.size ≤ 201 := by obtain ⟨_, _, _, h, _⟩ := hp; exact h
      have hv := cb_or (x := c.tag) hcb
      have hv0 : 0 ≤ Builtin.bitOr c.cb (Builtin.bitAnd c.tag 127) := by omega
      have hv1 : Builtin.bitOr c.cb (Builtin.bitAnd c.tag 127) < 256 := by omega
      (w_on; w_top on; k_fill; k_steps)
      · unfold Halt
        rename Fr _ _ _ _ => eF
        rename News _ _ _ _ => eN
        refine' ksw_end ⟨_, _, _, _, _, _⟩ eF eN ?n1 trivial ?n3 ?n4 ?n5 ?n6
        case n3 => kst_all
        case n1 => exact fun _ h => h
        case n4 => ksw_same
        case n5 => exact HInv.turn hp (by assumption) (by omega) _ _ _
        case n6 => exact HInv.less (by assumption)
      · unfold Halt
        rename Fr _ _ _ _ => eF
        rename News _ _ _ _ => eN
        refine' ksw_end ⟨_, _, _, _, _, _⟩ eF eN ?n1 trivial ?n3 ?n4 ?n5 ?n6
        case n3 => kst_all
        case n1 => exact fun _ h => h
        case n4 => ksw_same
        case n5 => exact HInv.turn hp (by assumption) (by omega) _ _ _
        case n6 => exact HInv.less (by assumption)
      · unfold Halt
        rename Fr _ _ _ _ => eF
        rename News _ _ _ _ => eN
        exact ⟨_, _, _, _, _, _, rfl, rfl, id_endL hk0 hk3 hm0 hm1 h31 (hp.fin (by assumption) (by omega)), (by simp only [Array.size_append, List.size_toArray, List.length_cons, List.length_nil]; omega), Fr.over eF rfl rfl fun _ a b c => (by simp only [if_neg a, if_neg b, if_neg c, List.contains_nil, Bool.false_eq_true, if_false]), eN⟩
    · have gt : 0 ≤ Builtin.bitOr (Builtin.bitOr (Builtin.bitOr 0 (kind * 2 ^ Int.toNat 6)) (method * 2 ^ Int.toNat 5)) tag ∧ Builtin.bitOr (Builtin.bitOr (Builtin.bitOr 0 (kind * 2 ^ Int.toNat 6)) (method * 2 ^ Int.toNat 5)) tag < 256 := by
        rw [id_or hk0 hk3 hm0 hm1 ht (by omega)]; omega
      obtain ⟨gta, gtb⟩ := gt
      (w_on; w_top on; k_fill; k_steps)
      unfold Halt
      rename Fr _ _ _ _ => eF
      rename News _ _ _ _ => eN
      exact ⟨_, _, _, _, _, _, rfl, rfl, id_end hk0 hk3 hm0 hm1 ht h31, (by simp only [Array.size_append, List.size_toArray, List.length_cons, List.length_nil]; omega), Fr.over eF rfl rfl fun _ a b c => (by simp only [if_neg a]), eN⟩
  · clear jF jN
    intro m₀ tH tC h' tk hiz F N
    (w_on; w_top on; k_fill; k_steps)
    · exact ret_bytes hret (len_end rfl (by assumption)) (by k_asm) (by assumption)
    · exact ret_bytes hret (len_endL rfl (by assumption)) (by k_asm) (by assumption)
end
section
local macro_rules | `(tactic| walk_at "call ref") => `(tactic| (k_here; (with_reducible show wpAny _ _ (call (Value.ref 81) _ _) _ _ _); k_dflt (refine' Con.use (dump_ok (by assumption) (by assumption) (by assumption) (by assumption) (by assumption) (by assumption) (by assumption)) (by walk_at "kf") ?_; intro _ _ _ _ _; (try dsimp only); (try k_fold))))
theorem emit_ok {w mean mg mb} {kind method tag : Int} {b : Array UInt8} {t1 t2 t3 t4 : Tok} (hk0 : 0 ≤ kind) (hk3 : kind ≤ 3) (hm0 : 0 ≤ method) (hm1 : method ≤ 1) (ht : 0 ≤ tag) (ht2 : tag < 2 ^ 200) (hb : b.size < 300) (hh : (hdr kind method tag b.size).size ≤ 300) :
    Con w mean mg mb 51 [.int kind t1, .int method t2, .int tag t3, .bytes b t4] [] 3 (fun t => .bytes (hdr kind method tag b.size ++ b) t) := by
  unfold Con
  w_on
  w_top on
  k_fill
  intro news dp un gd cn cs a ccd cl outer A₀ base h₀ L m s Q E B F X N T hk hd hu hret
  cases cs; cases hk
  k_steps
  all_goals exact hret _ _ _ (by k_asm) (by assumption)
end
section
/-- a tag of at most 200 bits -/
def lb (z : Int) : Int := if -2 ^ 200 < z then (if z < 2 ^ 200 then z else (if z < 0 then -z else z).fmod (2 ^ 200) * 1) else (if z < 0 then -z else z).fmod (2 ^ 200) * -1
theorem lb_range (z : Int) : -2 ^ 200 < lb z ∧ lb z < 2 ^ 200 := by
  have e : ∀ x : Int, 0 ≤ x.fmod (2 ^ 200) ∧ x.fmod (2 ^ 200) < 2 ^ 200 := fun x => by
    rw [Int.fmod_eq_emod_of_nonneg _ (by decide)]
    exact ⟨Int.emod_nonneg _ (by decide), Int.emod_lt_of_pos _ (by decide)⟩
  have h := e (if z < 0 then -z else z)
  unfold lb
  generalize (if z < 0 then -z else z).fmod (2 ^ 200) = y at h ⊢
  split
  · split <;> omega
  · omega
theorem lb_1 {z : Int} (h : -2 ^ 200 < z) (h2 : z < 2 ^ 200) : z = lb z := by unfold lb; rw [if_pos h, if_pos h2]
theorem lb_2 {z : Int} (h : -2 ^ 200 < z) (h2 : ¬ z < 2 ^ 200) : (if z < 0 then -z else z).fmod (2 ^ 200) * 1 = lb z := by unfold lb; rw [if_pos h, if_neg h2]
theorem lb_3 {z : Int} (h : ¬ -2 ^ 200 < z) : (if z < 0 then -z else z).fmod (2 ^ 200) * -1 = lb z := by unfold lb; rw [if_neg h]
theorem ret_int {h₀ h' : Heap} {L : Addr} {m : Str → Option Value} {news : List (Addr × Obj)} {s : Shared} {Q : Value → Shared → Prop} {t : Tok} {tk' : Nat} {x y : Int} (hret : CbRet h₀ L m news s Q (fun t => .int x t)) (e : y = x) (F : Fr h₀ L h' m) (N : News h₀ L h' news) : Q (.int y t) { s with heap := h', toks := tk' } := by
  subst e
  exact hret t h' tk' F N
theorem bound_ok {w mean mg mb} {z p : Int} {t u : Tok} (hp : p = 2 ^ 200) : Con w mean mg mb 102 [.int z t, .int p u] [] 1 (fun t => .int (lb z) t) := by
  unfold Con
  w_on
  w_top on
  k_fill
  intro news dp un gd cn cs a ccd cl outer A₀ base h₀ L m s Q E B F X N T hk hd hu hret
  cases cs; cases hk
  k_steps
  all_goals subst hp
  · exact ret_int hret (lb_1 (by assumption) (by assumption)) (by k_asm) (by assumption)
  · exact ret_int hret (lb_2 (by assumption) (by assumption)) (by k_asm) (by assumption)
  · exact ret_int hret (lb_3 (by assumption)) (by k_asm) (by assumption)
end
section
theorem ConL.use {w : World} {mean : ExcName → Option Value} {mg mb : Str → Option Value} {f : Addr} {vs : List Value} {kw : List (Str × Value)} {need : Nat} {ns : List Int} (C : ConL w mean mg mb f vs kw need ns)
    {news : List (Addr × Obj)} {dp un : Nat} {gd : Option (List Code)} {cn : Str} {cs : Scope} {a : Addr} {ccd : Value} {cl : List (Str × Addr)} {outer : List Env} {A₀ : Around} {base h₀ : Heap} {L : Addr} {m : Str → Option Value} {s : Shared} {Q E : Value → Shared → Prop}
    (p : Below A₀ base outer h₀ ∧ Fr h₀ L s.heap m ∧ (hd.heap_39 w.params).In h₀ ∧ News h₀ L s.heap news ∧ Top hd.view_39 (looseW hd.view_39 [Str.ofString "int_to_bytes", Str.ofString "int_from_bytes", Str.ofString "parse", Str.ofString "_parse"]) mean mg mb h₀ ∧ cs.kind = .function ∧ dp + need < recursionLimit ∧ un + 8 * need < cLine)
    (ret : ∀ (r : Addr) (us : List Value) (n : Nat) (h' : Heap) (tk' : Nat), IntsAre us ns → Fr h₀ L h' m → News h₀ L h' ((r, listOf us.toArray n) :: news) → Q (.ref r) { s with heap := h', toks := tk' }) :
    wpAny (model PySem.Challenge.rw_jf0003_01.row.prog w) (ktrTop dp un gd cn cs L a ccd cl outer) (call (.ref f) vs kw) Q E s := C _ _ _ _ _ _ _ _ _ _ _ _ _ _ _ _ _ _ p.1 p.2.1 p.2.2.1 p.2.2.2.1 p.2.2.2.2.1 p.2.2.2.2.2.1 p.2.2.2.2.2.2.1 p.2.2.2.2.2.2.2 ret
end
local macro_rules | `(tactic| walk_at "call ref") => `(tactic| (k_here; (with_reducible show wpAny _ _ (call (Value.ref 88) _ _) _ _ _); k_dflt (refine' ConL.use (digits_ok (by decide) (by decide) (by walk_at "kp")) (by walk_at "kf") ?_; intro r9 u9 n9 h9 tk9 I9 F9 N9; (have L9 := IntsAre.length I9); (try dsimp only); (try k_fold))))
section
theorem dg_256 {n : Nat} (h : n < 65536) : dg 256 n = if n < 256 then [(n : Int)] else [((n / 256 : Nat) : Int), ((n % 256 : Nat) : Int)] := by
  have h1 : ∀ m, m < 256 → dg 256 m = [(m : Int)] := fun m hm => by rw [dg, if_neg (by omega)]
  split
  · exact h1 n (by assumption)
  · rw [dg, if_pos (by omega), h1 (n / 256) (by omega)]; rfl
theorem dg_len {n : Nat} (h : n < 300) : (dg 256 n).length ≤ 2 := by
  rw [dg_256 (by omega)]
  split <;> simp
theorem dg_byt {n : Nat} (h : n < 300) : Byt (dg 256 n) := by
  rw [dg_256 (by omega)]
  intro z hz
  split at hz
  · rw [List.mem_singleton.mp hz]; omega
  · rcases List.mem_cons.mp hz with rfl | hz
    · omega
    · rw [List.mem_singleton.mp hz]; omega
theorem lenl_dg {n : Nat} (h : n < 300) : lenl n = if n < 128 then dg 256 n else [128 + ((dg 256 n).length : Int)] ++ dg 256 n := by
  rw [dg_256 (by omega)]
  unfold lenl
  by_cases h1 : n < 128
  · rw [if_pos (by omega), if_pos h1, if_pos (by omega)]
  · rw [if_neg (by omega), if_neg h1]
    split <;> rfl
theorem Byt.one {z : Int} (h : 0 ≤ z ∧ z < 256) : Byt [z] := fun x hx => by rw [List.mem_singleton.mp hx]; exact h
end
local macro_rules | `(tactic| walk_at "call type:bytes") => `(tactic| (k_here; (with_reducible show wpAny _ _ (call (Value.type "bytes") [Value.ref _]) _ _ _); k_dflt (refine' KBa.make_K ?kbaF ?kbaN ?kbah ?kbal ?kbai ?kbar ?kban ?_; (case kbaF => k_asm); (case kbaN => k_asm); (case kbah => rfl); (case kbal => kba_isList); (case kbai => kba_listInts); (case kbar => with_reducible assumption); (case kban => kba_size)); intro _ _ _ F' N' _))
section
theorem der_ok {w mean mg mb} {b : Array UInt8} {t : Tok} {l : Addr} {us : List Value} {ns : List Int} {n : Nat} (hb : b.size < 300) (hI : IntsAre us ns) (hB : Byt ns) (hL : ns.length ≤ 300) :
  ∀ (news : List (Addr × Obj)) (dp un : Nat) (gd : Option (List Code)) (cn : Str) (cs : Scope) (a : Addr) (ccd : Value) (cl : List (Str × Addr)) (outer : List Env) (A₀ : Around) (base h₀ : Heap) (L : Addr) (m : Str → Option Value) (s : Shared) (Q E : Value → Shared → Prop),
    Below A₀ base outer h₀ → Fr h₀ L s.heap m → (hd.heap_39 w.params).In h₀ → News h₀ L s.heap ((l, listOf us.toArray n) :: news) → Top hd.view_39 (looseW hd.view_39 [Str.ofString "int_to_bytes", Str.ofString "int_from_bytes", Str.ofString "parse", Str.ofString "_parse"]) mean mg mb h₀ → cs.kind = .function →
    dp + 2 < recursionLimit → un + 8 * 2 < cLine → CbRet h₀ L m ((l, listOf us.toArray n) :: news) s Q (fun t => .bytes (ob (ns ++ lenl b.size) ++ b) t) →
      wpAny (model PySem.Challenge.rw_jf0003_01.row.prog w) (ktrTop dp un gd cn cs L a ccd cl outer) (call (.ref 95) [.ref l, .bytes b t]) Q E s := by
  w_on
  w_top on
  k_fill
  intro news dp un gd cn cs a ccd cl outer A₀ base h₀ L m s Q E B F X N T hk hd hu hret
  cases cs; cases hk
  have hus : us.length ≤ 300 := by rw [hI.length]; exact hL
  have hd2 := dg_len hb
  have hB1 : KBa.In (ns ++ dg 256 b.size) := hB.app (dg_byt hb)
  have hB2 : KBa.In (ns ++ ([128 + ((dg 256 b.size).length : Int)] ++ dg 256 b.size)) := hB.app ((Byt.one (by omega)).app (dg_byt hb))
  have hz1 : (byteArr (ns ++ dg 256 b.size)).size ≤ 400 := by
    have := ob_size (ns ++ dg 256 b.size)
    rw [List.length_append] at this
    show (ob _).size ≤ 400
    omega
  have hz2 : (byteArr (ns ++ ([128 + ((dg 256 b.size).length : Int)] ++ dg 256 b.size))).size ≤ 400 := by
    have := ob_size (ns ++ ([128 + ((dg 256 b.size).length : Int)] ++ dg 256 b.size))
    rw [List.length_append, List.length_append, List.length_singleton] at this
    show (ob _).size ≤ 400
    omega
  k_steps
  · refine ret_bytes hret ?_ (by k_asm) (cb_drop (by assumption) (by kcj_all))
    rw [lenl_dg hb, if_pos (by omega)]
    rfl
  · refine ret_bytes hret ?_ (by k_asm) (cb_drop (by assumption) (by kcj_all))
    rw [lenl_dg hb, if_neg (by omega)]
    rfl
end
section
/-- a call of _parse -/
abbrev ConP (w : World) (mean : ExcName → Option Value) (mg mb : Str → Option Value) (vs : List Value) (k c tag ce : Int) (hb cb : Array UInt8) : Prop :=
  ∀ (news : List (Addr × Obj)) (dp un : Nat) (gd : Option (List Code)) (cn : Str) (cs : Scope) (a : Addr) (ccd : Value) (cl : List (Str × Addr)) (outer : List Env) (A₀ : Around) (base h₀ : Heap) (L : Addr) (m : Str → Option Value) (s : Shared) (Q E : Value → Shared → Prop),
    Below A₀ base outer h₀ → Fr h₀ L s.heap m → (hd.heap_39 w.params).In h₀ → News h₀ L s.heap news → Top hd.view_39 (looseW hd.view_39 [Str.ofString "int_to_bytes", Str.ofString "int_from_bytes", Str.ofString "parse", Str.ofString "_parse"]) mean mg mb h₀ → cs.kind = .function →
    dp + 2 < recursionLimit → un + 8 * 2 < cLine →
    (∀ (r r2 : Addr) (t1 t2 t3 t4 t5 t6 t7 : Tok) (n1 n2 : Nat) (h' : Heap) (tk' : Nat), Fr h₀ L h' m → News h₀ L h' ((r, ({ cls := .type "tuple", data := .seq #[.ref r2, .int ce t1] n1 } : Obj)) :: (r2, ({ cls := .type "tuple", data := .seq #[.int k t2, .int c t3, .int tag t4, .bytes hb t5, .bytes cb t6, .bytes #[] t7] n2 } : Obj)) :: news) → Q (.ref r) { s with heap := h', toks := tk' }) →
      wpAny (model PySem.Challenge.rw_jf0003_01.row.prog w) (ktrTop dp un gd cn cs L a ccd cl outer) (call (.ref 74) vs) Q E s
section
variable {prog : Program} {w : World} {A : Around} {E : Value → Shared → Prop} {s : Shared}
theorem item_v {value slice : PySem.Expr} {b : Array UInt8} {ks : List Int} {i v : Int} {t ui : Tok} {Q : Value → Shared → Prop} (hk : KBw.bInts b = ks) (hfit : ks.length ≤ 1000) (h0 : 0 ≤ i) (h1 : i < (ks.length : Int)) (hv : ks.getD i.toNat 0 = v)
    (h : ∀ t' k, Q (.int v t') { s with toks := k })
    (hs : subscripted slice false (.bytes b t) (.int i ui) = operate [.bytes b t, .int i ui] (getItem (.bytes b t) (.int i ui)) := by with_unfolding_all rfl)
    (ht : ∀ r, letTemporaryGo value (.bytes b t) r = pure () := by intro _; with_unfolding_all rfl) : wpAny (model prog w) A (subscriptTail value slice (.bytes b t) (.int i ui)) Q E s := by
  subst hv
  exact KBw.item_K hk (by omega) h0 h1 (fun t' k _ _ => h t' k) hs ht
theorem slice_v {value slice : PySem.Expr} {b : Array UInt8} {ks : List Int} {t : Tok} {h₀ : Heap} {L : Addr} {m : PySem.Str → Option Value} {news : List (Addr × Obj)} {l u : Value} {lo hi : Int} {v : Array UInt8} {Q : Value → Shared → Prop} (hF : Fr h₀ L s.heap m) (hN : News h₀ L s.heap news)
    (hl : IsPart l (some lo)) (hu : IsPart u (some hi)) (hk : KBw.bInts b = ks) (hz : ks.length ≤ 1000) (h0 : 0 ≤ lo) (h1 : lo ≤ hi) (h2 : hi ≤ (ks.length : Int)) (hv : ob ((ks.drop lo.toNat).take (hi - lo).toNat) = v)
    (h : ∀ h' t' k, Fr h₀ L h' m → News h₀ L h' news → Q (.bytes v t') { s with heap := h', toks := k })
    (hs : subscripted slice false (.bytes b t) (.ref s.heap.objs.size) = operate [.ref s.heap.objs.size, .bytes b t] (getItem (.bytes b t) (.ref s.heap.objs.size)) := by with_unfolding_all rfl)
    (ht : ∀ r, letTemporaryGo value (.bytes b t) r = pure () := by intro _; with_unfolding_all rfl) :
    wpAny (model prog w) A (subscriptTail value slice (.bytes b t) (.ref s.heap.objs.size)) Q E { s with heap := s.heap.push { cls := .type "slice", data := .fields #[l, u, .none] } } := by
  refine KBc.slice_K hF hN hk hl hu (by omega) (fun h' t' k F' N' e => ?_) hs ht
  have e2 : KBy.picked b (some lo) (some hi) = v := by
    rw [← hv, ob_of e]
    have c1 : clipAt ks.length lo = lo.toNat := by
      have := clipAt_nat ks.length lo.toNat
      rw [Int.toNat_of_nonneg h0] at this
      omega
    have c2 : clipAt ks.length hi = hi.toNat := by
      have := clipAt_nat ks.length hi.toNat
      rw [Int.toNat_of_nonneg (by omega)] at this
      omega
    show ob ((ks.drop (clipAt ks.length lo)).take (clipAt ks.length hi - clipAt ks.length lo)) = _
    rw [c1, c2, show hi.toNat - lo.toNat = (hi - lo).toNat by omega]
  rw [e2]
  exact h h' t' k F' N'
theorem and_v {a b v : Int} {t u : Tok} {Q : Value → Shared → Prop} (e : Builtin.bitAnd a b = v) (h : Q (.int v s.toks) { s with toks := s.toks + 1 }) : wpAny (model prog w) A (binaryOp .BitAnd (.int a t) (.int b u)) Q E s := by
  subst e
  exact and_int h
theorem shr_v {a b v : Int} {t u : Tok} {Q : Value → Shared → Prop} (hb : 0 ≤ b) (e : a.fdiv (2 ^ b.toNat) = v) (h : Q (.int v s.toks) { s with toks := s.toks + 1 }) : wpAny (model prog w) A (binaryOp .RShift (.int a t) (.int b u)) Q E s := by
  subst e
  exact rshift_int hb h
end
/-- the digits of a tag, as they are read -/
def scan : List Int → Int → Nat → Option (Int × Nat)
  | [], _, _ => none
  | z :: r, t, i => if z = 128 ∧ t = 0 then none else if z < 128 then some (t * 128 + z % 128, i + 1) else scan r (t * 128 + z % 128) (i + 1)
theorem getD_byt {ks : List Int} (h : Byt ks) (i : Nat) : 0 ≤ ks.getD i 0 ∧ ks.getD i 0 < 256 := by
  rw [List.getD_eq_getElem?_getD]
  cases e : ks[i]? with
  | none => show (0 : Int) ≤ 0 ∧ (0 : Int) < 256; omega
  | some z => exact h z (List.mem_of_getElem? e)
theorem scan_step {ks : List Int} {t T : Int} {i p : Nat} (h : scan (ks.drop i) t i = some (T, p)) :
    i < ks.length ∧ ¬ (ks.getD i 0 = 128 ∧ t = 0) ∧ (ks.getD i 0 < 128 → t * 128 + ks.getD i 0 % 128 = T ∧ i + 1 = p) ∧ (¬ ks.getD i 0 < 128 → scan (ks.drop (i + 1)) (t * 128 + ks.getD i 0 % 128) (i + 1) = some (T, p)) := by
  by_cases hi : i < ks.length
  · have e : ks.drop i = ks.getD i 0 :: ks.drop (i + 1) := by
      rw [List.drop_eq_getElem_cons hi, List.getD_eq_getElem?_getD, List.getElem?_eq_getElem hi]
      rfl
    rw [e] at h
    generalize ks.getD i 0 = z at h ⊢
    unfold scan at h
    refine ⟨hi, ?_⟩
    by_cases h1 : z = 128 ∧ t = 0
    · rw [if_pos h1] at h; cases h
    · rw [if_neg h1] at h
      refine ⟨h1, ?_⟩
      by_cases h2 : z < 128
      · rw [if_pos h2] at h
        cases h
        exact ⟨fun _ => ⟨rfl, rfl⟩, fun n => absurd h2 n⟩
      · rw [if_neg h2] at h
        exact ⟨fun n => absurd n h2, fun _ => h⟩
  · rw [List.drop_eq_nil_of_le (by omega)] at h
    cases h
theorem and127 (z : Int) : Builtin.bitAnd z 127 = z % 128 := bitAnd_m7 z
theorem shr7 {z v : Int} (h : z / 128 = v) : z.fdiv (2 ^ Int.toNat 7) = v := by show Int.fdiv _ 128 = _; rw [Int.fdiv_eq_ediv_of_nonneg _ (by decide)]; exact h
def TailS (n q : Nat) (l ce : Int) (p : Nat) : Prop := 0 ≤ l ∧ l ≤ 127 ∧ q = p + 1 ∧ ce = q + l ∧ ce ≤ n
def TailL (ks : List Int) (q : Nat) (l ce : Int) (p : Nat) : Prop := ∃ j : Nat, l = 128 + j ∧ 1 ≤ j ∧ j ≤ 8 ∧ q = p + 1 + j ∧ q ≤ ks.length ∧ ce = q + KFB.value ((ks.drop (p + 1)).take j) ∧ 0 ≤ KFB.value ((ks.drop (p + 1)).take j) ∧ ce ≤ ks.length
theorem tail_s {ks : List Int} {l ce P : Int} {p q : Nat} {hb cb : Array UInt8} (h : TailS ks.length q l ce p) (hP : P = p) (hl : ks.getD p 0 = l) (hhb : hb = ob (ks.take q)) (hcb : cb = ob ((ks.drop q).take (ce - q).toNat)) :
    0 ≤ P ∧ 0 ≤ l ∧ P + 1 + l ≤ ks.length ∧ ce = P + 1 + l ∧ ks.getD P.toNat 0 = l ∧ l.fdiv (2 ^ Int.toNat 7) = 0 ∧ Builtin.bitAnd l 127 = l ∧ ob ((ks.drop (Int.toNat 0)).take ((P + 1) - 0).toNat) = hb ∧
      ob ((ks.drop (P + 1).toNat).take ((P + 1 + l - ((#[] : Array UInt8).size : Int)) - (P + 1)).toNat) = cb := by
  obtain ⟨h1, h2, h3, h4, h5⟩ := h
  subst hP
  have z0 : ((#[] : Array UInt8).size : Int) = 0 := rfl
  refine ⟨by omega, h1, by omega, by omega, hl, shr7 (by omega), by rw [and127]; omega, ?_, ?_⟩
  · rw [hhb, h3]; rfl
  · rw [hcb, z0, h3]
    congr 2
    omega
theorem tail_l {ks : List Int} {l ce P : Int} {p q : Nat} {hb cb : Array UInt8} (hB : Byt ks) (h : TailL ks q l ce p) (hP : P = p) (hl : ks.getD p 0 = l) (hhb : hb = ob (ks.take q)) (hcb : cb = ob ((ks.drop q).take (ce - q).toNat)) :
    ∃ (j : Int) (lb : Array UInt8), 0 ≤ P ∧ 1 ≤ j ∧ j ≤ 8 ∧ P + 1 + j ≤ ks.length ∧ 0 ≤ KFB.value (KBw.bInts lb) ∧ P + 1 + j + KFB.value (KBw.bInts lb) ≤ ks.length ∧ ce = P + 1 + j + KFB.value (KBw.bInts lb) ∧ lb.size ≤ 8 ∧ ks.getD P.toNat 0 = l ∧ l.fdiv (2 ^ Int.toNat 7) = 1 ∧ Builtin.bitAnd l 127 = j ∧
      ob ((ks.drop (P + 1 + j - j).toNat).take ((P + 1 + j) - (P + 1 + j - j)).toNat) = lb ∧
      ob ((ks.drop (Int.toNat 0)).take ((P + 1 + j) - 0).toNat) = hb ∧
      ob ((ks.drop (P + 1 + j).toNat).take ((P + 1 + j + KFB.value (KBw.bInts lb) - ((#[] : Array UInt8).size : Int)) - (P + 1 + j)).toNat) = cb := by
  obtain ⟨j, h1, h2, h3, h4, h5, h6, h7, h8⟩ := h
  subst hP
  have z0 : ((#[] : Array UInt8).size : Int) = 0 := rfl
  have e : KBw.bInts (ob ((ks.drop (p + 1)).take j)) = (ks.drop (p + 1)).take j := bInts_ob fun z hz => hB z (List.mem_of_mem_drop (List.mem_of_mem_take hz))
  refine ⟨j, ob ((ks.drop (p + 1)).take j), ?_⟩
  rw [e, z0]
  refine ⟨by omega, by omega, by omega, by omega, h7, by omega, by omega, ?_, hl, shr7 (by omega), by rw [and127]; omega, ?_, ?_, ?_⟩
  · rw [ob_size, List.length_take]; omega
  · congr 2
    · omega
    · congr 1; omega
  · rw [hhb, h4]
    show ob (ks.take _) = _
    congr 2
  · rw [hcb, h4]
    congr 2
    omega
theorem iadd_v {prog : Program} {w : World} {A : Around} {E : Value → Shared → Prop} {s : Shared} {a b v : Int} {t u : Tok} {Q : Value → Shared → Prop} (e : a + b = v) (h : Q (.int v s.toks) { s with toks := s.toks + 1 }) : wpAny (model prog w) A (inplaceOp .Add (.int a t) (.int b u)) Q E s := by
  subst e
  exact PyProof.Rows.iadd_int h
/-- a turn of the tag's loop -/
structure PS where
  tag : Int
  ptr : Int
  tt : Tok
  tp : Tok
/-- behind the tag's if: the tag is whole, the place is behind it -/
def ParJoin (h₀ : Heap) (L : Addr) (rest : Str → Option Value) (news : List (Addr × Obj)) (T P : Int) (s : Shared) (f : Flow) (s' : Shared) : Prop :=
  ∃ (T' P' : Int) (tT tP : Tok) (u : Option Value) (h' : Heap) (tk : Nat), f = .next ∧ s' = { s with heap := h', toks := tk } ∧ T' = T ∧ P' = P ∧
    Fr h₀ L h' (fun y => if y = Str.ofString "tag" then some (.int T' tT) else if y = Str.ofString "pointer" then some (.int P' tP) else if y = Str.ofString "num" then u else rest y) ∧ News h₀ L h' news
/-- the names that the walk still asks, over a frame of which no more is known -/
theorem par_canon {h₀ h : Heap} {L : Addr} {m : Str → Option Value} {c f n z T P : Int} {d : Array UInt8} {lo : Bool} {t1 t2 t3 t4 t5 t6 t7 : Tok} (F : Fr h₀ L h m) (e1 : m (Str.ofString "tag") = some (.int T t1)) (e2 : m (Str.ofString "pointer") = some (.int P t2)) (e3 : m (Str.ofString "constructed") = some (.int c t3)) (e4 : m (Str.ofString "first_octet") = some (.int f t4)) (e5 : m (Str.ofString "start") = some (.int z t5))
    (e6 : m (Str.ofString "encoded_data") = some (.bytes d t6)) (e7 : m (Str.ofString "data_len") = some (.int n t7)) (e8 : m (Str.ofString "lengths_only") = some (.bool lo)) :
    ∃ (m₀ : Str → Option Value) (t1 t2 t3 t4 t5 t6 t7 : Tok), Fr h₀ L h (fun y => if y = Str.ofString "tag" then some (.int T t1) else if y = Str.ofString "pointer" then some (.int P t2) else if y = Str.ofString "constructed" then some (.int c t3) else if y = Str.ofString "first_octet" then some (.int f t4) else if y = Str.ofString "start" then some (.int z t5) else if y = Str.ofString "encoded_data" then some (.bytes d t6) else if y = Str.ofString "data_len" then some (.int n t7) else if y = Str.ofString "lengths_only" then some (.bool lo) else m₀ y) :=
  ⟨m, t1, t2, t3, t4, t5, t6, t7, Fr.put (Fr.put (Fr.put (Fr.put (Fr.put (Fr.put (Fr.put (Fr.put F e8) e7) e6) e5) e4) e3) e2) e1⟩
theorem par_join {M : Model} {A : Around} {E : Value → Shared → Prop} {t : Sem Flow} {h₀ : Heap} {L : Addr} {rest : Str → Option Value} {news : List (Addr × Obj)} {s : Shared} {Q : Flow → Shared → Prop} (T P : Int)
    (_F : Fr h₀ L s.heap rest) (_N : News h₀ L s.heap news) (h1 : wpAny M A t (ParJoin h₀ L rest news T P s) E s)
    (h2 : ∀ (tT tP : Tok) (u : Option Value) (h' : Heap) (tk : Nat), Fr h₀ L h' (fun y => if y = Str.ofString "tag" then some (.int T tT) else if y = Str.ofString "pointer" then some (.int P tP) else if y = Str.ofString "num" then u else rest y) → News h₀ L h' news → Q .next { s with heap := h', toks := tk }) :
    wpAny M A t Q E s := by
  refine wpAny_mono h1 (fun f s' x => ?_) fun _ _ x => x
  obtain ⟨T', P', tT, tP, u, h', tk, rfl, rfl, rfl, rfl, F, N⟩ := x
  exact h2 tT tP u h' tk F N
theorem not_in1 {y n : Str} (h : y ≠ n) : ([n].contains y = true) = False := by simp [h]
local macro_rules | `(tactic| walk_at "exec While Constant cons nil") => `(tactic| refine Halt.mk ?_)
local macro_rules | `(tactic| walk_at "binaryOp BitAnd int int") => `(tactic| (k_here; k_dflt (refine' and_v ?hv ?_; (case hv => assumption); k_whole)))
local macro_rules | `(tactic| walk_at "binaryOp RShift int int") => `(tactic| (k_here; k_dflt (refine' shr_v (by decide) ?hv ?_; (case hv => assumption); k_whole)))
local macro_rules | `(tactic| walk_at "subscriptTail") => `(tactic| (k_here; (with_reducible show wpAny _ _ (subscriptTail _ _ (Value.bytes _ _) (Value.int _ _)) _ _ _); k_dflt (refine' item_v ?hk ?hfit ?h0 ?h1 ?hv ?_; (case hk => assumption); (case hfit => assumption); (case h0 => omega); (case h1 => omega); (case hv => assumption); k_whole); intro _ _))
local macro_rules | `(tactic| walk_at "subscriptTail") => `(tactic| (k_here; (with_reducible show wpAny _ _ (subscriptTail _ (Expr.Slice _ _ none _) (Value.bytes _ _) (Value.ref _)) _ _ _); (with_reducible rename Fr _ _ _ _ => F'); (with_reducible rename News _ _ _ _ => N'); k_dflt (refine' slice_v (s := ⟨_, _, _, _, _⟩) F' N' (by constructor) (by constructor) ?hk ?hz ?h0 ?h1 ?h2 ?hv ?_; (case hk => assumption); (case hz => assumption); (case h0 => omega); (case h1 => omega); (case h2 => omega); (case hv => assumption); k_whole); intro _ _ _ _ _))
local macro_rules | `(tactic| walk_at "call ref") => `(tactic| (k_here; (with_reducible show wpAny _ _ (call (Value.ref 44) _ _) _ _ _); k_dflt (with_unfolding_all refine' Con.use (frombytes_ok (by assumption)) (by walk_at "kf") ?_; intro _ _ _ _ _; (try dsimp only); (try k_fold))))
local macro_rules | `(tactic| walk_at "inplaceOp Add int int") => `(tactic| (k_here; k_dflt (refine' iadd_v ?hv ?_; (case hv => assumption); k_whole)))
local macro_rules | `(tactic| walk_at "exec If") => `(tactic| ((with_reducible show wpAny _ _ (exec (Stmt.If (Expr.Compare (Expr.Name ("tag" : Str) _) [CmpOp.Eq] _ _) _ _ _) _) _ _ _); (fail_if_success (with_reducible show wpAny _ _ _ (ParJoin _ _ _ _ _ _ _) _ _)); refine Halt.mk ?_))
local macro_rules | `(tactic| walk_at "ParJoin") => `(tactic| refine Halt.mk ?_)
theorem parse_all {w mean mg mb} {d : Array UInt8} {ks : List Int} {k c l tag ce f : Int} {p q : Nat} {hb cb : Array UInt8} {t u : Tok} (hd0 : KBw.bInts d = ks) (hn : ks.length ≤ 1000) (hk0 : 0 ≤ k) (hk1 : k ≤ 3) (hc0 : 0 ≤ c) (hc1 : c ≤ 1)
    (h0 : ks.getD 0 0 = 64 * k + 32 * c + f) (hf0 : 0 ≤ f) (hf1 : f ≤ 31) (hf : (f = tag ∧ tag < 31 ∧ p = 1) ∨ (f = 31 ∧ 31 ≤ tag ∧ scan (ks.drop 1) 0 1 = some (tag, p)))
    (hp : p < ks.length) (hl : ks.getD p 0 = l) (hlen : TailS ks.length q l ce p ∨ TailL ks q l ce p) (hhb : hb = ob (ks.take q)) (hcb : cb = ob ((ks.drop q).take (ce - q).toNat)) :
    ConP w mean mg mb [.bytes d t, .int (ks.length : Nat) u] k c tag ce hb cb := by
  unfold ConP
  w_on
  w_top on
  k_fill
  intro news dp un gd cn cs a ccd cl outer A₀ base h₀ L m s Q E B F X N T hk hd hu hret
  cases cs; cases hk
  have hB : Byt ks := hd0 ▸ bInts_byt d
  have z0 : ((#[] : Array UInt8).size : Int) = 0 := rfl
  have e31 : Builtin.bitAnd (64 * k + 32 * c + f) 31 = f := by rw [bitAnd_m5]; omega
  have e5 : (64 * k + 32 * c + f).fdiv (2 ^ Int.toNat 5) = 2 * k + c := by show Int.fdiv _ 32 = _; rw [Int.fdiv_eq_ediv_of_nonneg _ (by decide)]; omega
  have e6 : (64 * k + 32 * c + f).fdiv (2 ^ Int.toNat 6) = k := by show Int.fdiv _ 64 = _; rw [Int.fdiv_eq_ediv_of_nonneg _ (by decide)]; omega
  have e1 : Builtin.bitAnd (2 * k + c) 1 = c := by rw [bitAnd_m1]; omega
  k_steps
  unfold Halt
  rename Fr _ _ _ _ => jF
  rename News _ _ _ _ => jN
  clear F N
  obtain ⟨m₀, t1, t2, t3, t4, t5, t6, t7, jF9⟩ := par_canon jF rfl rfl rfl rfl rfl rfl rfl rfl
  clear jF
  refine par_join tag p jF9 jN ?_ ?_
  · rcases hf with ⟨rfl, hf2, hf3⟩ | ⟨rfl, hf2, hs⟩
    · (w_on; w_top on; k_fill; k_steps)
      all_goals first
        | (exfalso; omega)
        | (unfold Halt
           rename Fr _ _ _ _ => eF
           rename News _ _ _ _ => eN
           refine ⟨_, _, _, _, _, _, _, rfl, rfl, rfl, ?_, Fr.over eF rfl rfl fun _ _ _ _ => rfl, eN⟩
           omega)
    · (w_on; w_top on; k_fill; k_steps)
      unfold Halt
      rename Fr _ _ _ _ => lF
      rename News _ _ _ _ => lN
      with_unfolding_all refine' ksw_while (σ := PS) (fun _ => news) (fun c => [(Str.ofString "tag", .int c.tag c.tt), (Str.ofString "pointer", .int c.ptr c.tp)]) (fun _ => True) [Str.ofString "num"] (fun c => ∃ i : Nat, c.ptr = i ∧ scan (ks.drop i) c.tag i = some (tag, p)) (fun c => ks.length - c.ptr.toNat) ⟨0, 0 + 1, _, _⟩ lF lN trivial ?kk ?kp ?kt
      case kk => kst_all
      case kp => exact ⟨1, rfl, hs⟩
      case kt =>
      clear lF lN
      intro y u h tk hf hp9 F N
      dsimp only [kstB] at F
      obtain ⟨i, hi, hsc⟩ := hp9
      obtain ⟨g1, g2, g3, g4⟩ := scan_step hsc
      have gz := getD_byt hB i
      generalize hz : ks.getD i 0 = z at g2 g3 g4 gz
      have hzp : ks.getD y.ptr.toNat 0 = z := by rw [hi]; exact hz
      have hy0 : 0 ≤ y.ptr := by omega
      have hy1 : y.ptr < ks.length := by omega
      have ez := and127 z
      by_cases h128 : z < 128
      · obtain ⟨hT, hpi⟩ := g3 h128
        have ez7 : z.fdiv (2 ^ Int.toNat 7) = 0 := shr7 (by omega)
        (w_on; w_top on; k_fill; k_steps)
        all_goals first
          | (exfalso; omega)
          | (unfold Halt
             rename Fr _ _ _ _ => eF
             rename News _ _ _ _ => eN
             refine ⟨_, _, _, _, _, _, _, rfl, rfl, ?_, ?_, Fr.over eF rfl rfl fun _ a b c => (by simp only [if_neg a, if_neg b, if_neg c, not_in1 c, if_false]), eN⟩
             · omega
             · omega)
      · have hnx := g4 h128
        have ez7 : z.fdiv (2 ^ Int.toNat 7) = 1 := shr7 (by omega)
        (w_on; w_top on; k_fill; k_steps)
        all_goals first
          | (exfalso; omega)
          | (unfold Halt
             rename Fr _ _ _ _ => eF
             rename News _ _ _ _ => eN
             refine' ksw_end ⟨_, _, _, _⟩ eF eN ?n1 trivial ?n3 ?n4 ?n5 ?n6
             case n3 => kst_all
             case n1 => exact fun _ h => h
             case n4 => ksw_same
             case n5 => exact ⟨i + 1, by show y.ptr + 1 = _; omega, hnx⟩
             case n6 => (show ks.length - (y.ptr + 1).toNat < ks.length - y.ptr.toNat; omega))
  · clear jF9 jN
    intro tT tP u h' tk F N
    rcases hlen with hlen | hlen
    · obtain ⟨q0, q1, q2, q3, q4, q5, q6, q7, q8⟩ := tail_s (P := (p : Int)) hlen rfl hl hhb hcb
      subst q3
      (w_on; w_top on; k_fill; k_steps)
      all_goals first | (exfalso; omega) | exact hret _ _ _ _ _ _ _ _ _ _ _ _ _ (by k_asm) (by assumption)
    · obtain ⟨j, lb, q0, q1, q2, q3, q4, q5, q6, q7, q8, q9, q10, q11, q12, q13⟩ := tail_l (P := (p : Int)) hB hlen rfl hl hhb hcb
      subst q6
      (w_on; w_top on; k_fill; k_steps)
      all_goals first | (exfalso; omega) | exact hret _ _ _ _ _ _ _ _ _ _ _ _ _ (by k_asm) (by assumption)
end
section
theorem up_dg : ∀ m : Nat, 0 < m → up m = (dg 128 m).map (fun d => 128 + d) := by
  intro m
  induction m using Nat.strongRecOn with
  | _ m ih =>
    intro h
    rw [up_pos h, dg_eq 128 m (by decide), List.map_append]
    have e : up (m / 128) = (dpre 128 m).map (fun d => 128 + d) := by
      by_cases h1 : 128 ≤ m
      · rw [ih (m / 128) (by omega) (by omega)]
        unfold dpre
        rw [if_pos ⟨by decide, h1⟩]
      · rw [dpre_lt (by omega), show m / 128 = 0 by omega, up_zero]
        rfl
    rw [e]
    rfl
theorem dpre_up (n : Nat) : (dpre 128 n).map (fun d => 128 + d) = up (n / 128) := by
  by_cases h1 : 128 ≤ n
  · unfold dpre
    rw [if_pos ⟨by decide, h1⟩, up_dg _ (by omega)]
  · rw [dpre_lt (by omega), show n / 128 = 0 by omega, up_zero]
    rfl
theorem idl_high {k m : Int} {n : Nat} (h : 31 ≤ (n : Int)) :
    [64 * k + 32 * m + if 31 < (n : Int) then 31 else (n : Int)] ++ List.map (fun d => 128 + d) (List.take ((dg 128 n).length - 1) (dg 128 n)) ++ List.drop ((dg 128 n).length - 1) (dg 128 n) = idl k m n := by
  have e : (if 31 < (n : Int) then 31 else (n : Int)) = 31 := by split <;> omega
  rw [e]
  unfold idl
  rw [if_pos h, Int.toNat_natCast, dg_eq 128 n (by decide)]
  have hl : (dpre 128 n ++ [((n % 128 : Nat) : Int)]).length - 1 = (dpre 128 n).length := by simp
  rw [hl, List.take_left, List.drop_left, dpre_up]
  unfold enc
  rw [List.append_assoc]
theorem idl_low {k m : Int} {n : Nat} (h : ¬ 31 ≤ (n : Int)) : [64 * k + 32 * m + if 31 < (n : Int) then 31 else (n : Int)] = idl k m n := by
  unfold idl
  rw [if_neg h, if_neg (by omega)]
theorem up_len : ∀ (k n : Nat), n < 2 ^ (7 * k) → (up n).length ≤ k
  | 0, n, h => by
    have : n = 0 := by simpa using h
    subst this
    rw [up_zero]
    exact Nat.le_refl 0
  | k + 1, n, h => by
    by_cases h0 : n = 0
    · subst h0; rw [up_zero]; exact Nat.zero_le _
    · rw [up_pos (by omega), List.length_append]
      have e : 2 ^ (7 * (k + 1)) = 2 ^ (7 * k) * 128 := by rw [Nat.mul_add, Nat.pow_add]
      rw [e] at h
      have := up_len k (n / 128) (by omega)
      show _ + 1 ≤ k + 1
      omega
theorem enc_len {n : Nat} (h : n < 2 ^ 200) : (enc n).length ≤ 40 ∧ 1 ≤ (enc n).length := by
  unfold enc
  rw [List.length_append]
  have := up_len 30 (n / 128) (by
    have : (2 : Nat) ^ 200 ≤ 2 ^ (7 * 30) := Nat.pow_le_pow_right (by decide) (by decide)
    omega)
  show _ + 1 ≤ 40 ∧ 1 ≤ _ + 1
  omega
theorem dg_len128 {n : Nat} (h : n < 2 ^ 200) : (dg 128 n).length ≤ 40 := by
  by_cases h0 : n = 0
  · subst h0
    rw [dg, if_neg (by omega)]
    decide
  · have e := congrArg List.length (up_dg n (by omega))
    rw [List.length_map] at e
    rw [← e]
    have := up_len 30 n (by
      have : (2 : Nat) ^ 200 ≤ 2 ^ (7 * 30) := Nat.pow_le_pow_right (by decide) (by decide)
      omega)
    omega
theorem idl_len {k m : Int} {n : Nat} (h : n < 2 ^ 200) : (idl k m n).length ≤ 50 ∧ 1 ≤ (idl k m n).length := by
  unfold idl
  split
  · rw [Int.toNat_natCast, List.length_append]
    have := enc_len h
    show 1 + _ ≤ 50 ∧ 1 ≤ 1 + _
    omega
  · show 1 ≤ 50 ∧ 1 ≤ 1; omega
theorem lenl_len (n : Nat) : (lenl n).length ≤ 3 ∧ 1 ≤ (lenl n).length := by
  unfold lenl
  split
  · simp
  · split <;> simp
theorem hdr_eq (k m t : Int) (n : Nat) : hdr k m t n = ob (idl k m t ++ lenl n) := by unfold hdr; rw [ob_app]
theorem hdr_size {k m : Int} {t n : Nat} (h : t < 2 ^ 200) : (hdr k m t n).size ≤ 60 := by
  rw [hdr_eq, ob_size, List.length_append]
  have := idl_len (k := k) (m := m) h
  have := lenl_len n
  omega
theorem up_byt : ∀ n : Nat, Byt (up n) := by
  intro n
  induction n using Nat.strongRecOn with
  | _ n ih =>
    by_cases h0 : n = 0
    · subst h0; rw [up_zero]; intro z hz; cases hz
    · rw [up_pos (by omega)]
      exact (ih (n / 128) (by omega)).app (Byt.one (by omega))
theorem idl_byt {k m : Int} {n : Nat} (h0 : 0 ≤ k) (h1 : k ≤ 3) (h2 : 0 ≤ m) (h3 : m ≤ 1) : Byt (idl k m n) := by
  unfold idl
  split
  · exact (Byt.one (by omega)).app ((up_byt _).app (Byt.one (by omega)))
  · exact Byt.one (by omega)
theorem lenl_byt {n : Nat} (h : n < 300) : Byt (lenl n) := by
  rw [lenl_dg h]
  split
  · exact dg_byt h
  · have := dg_len h
    exact (Byt.one (by omega)).app (dg_byt h)
theorem scan_up : ∀ (m : Nat), 0 < m → ∀ (l : List Int) (i : Nat), scan (up m ++ l) 0 i = scan l m (i + (up m).length) := by
  intro m
  induction m using Nat.strongRecOn with
  | _ m ih =>
    intro h l i
    by_cases h1 : m / 128 = 0
    · have e : up m = [((128 + m % 128 : Nat) : Int)] := by rw [up_pos h, h1, up_zero]; rfl
      rw [e]
      show scan (((128 + m % 128 : Nat) : Int) :: l) 0 i = _
      rw [scan, if_neg (by omega), if_neg (by omega)]
      congr 1
      omega
    · rw [up_pos h, List.append_assoc, ih (m / 128) (by omega) (by omega)]
      show scan (((128 + m % 128 : Nat) : Int) :: l) _ _ = _
      rw [scan, if_neg (by omega), if_neg (by omega), List.length_append]
      congr 1
      omega
theorem scan_enc {n : Nat} (h : 0 < n) (l : List Int) (i : Nat) : scan (enc n ++ l) 0 i = some ((n : Int), i + (enc n).length) := by
  unfold enc
  rw [List.append_assoc]
  by_cases h1 : n / 128 = 0
  · rw [h1, up_zero]
    show scan (((n % 128 : Nat) : Int) :: l) 0 i = _
    rw [scan, if_neg (by omega), if_pos (by omega)]
    show some _ = some (_, i + ([] ++ [_]).length)
    congr 2
    omega
  · rw [scan_up _ (by omega)]
    show scan (((n % 128 : Nat) : Int) :: l) _ _ = _
    rw [scan, if_neg (by omega), if_pos (by omega), List.length_append]
    congr 2
    omega
/-- octets that tell a length -/
def LNok (LN : List Int) (n : Nat) : Prop := (LN = [(n : Int)] ∧ n ≤ 127) ∨ ∃ (j : Nat) (ds : List Int), LN = (128 + (j : Int)) :: ds ∧ ds.length = j ∧ 1 ≤ j ∧ j ≤ 8 ∧ KFB.value ds = n
theorem lenl_ok {n : Nat} (h : n < 300) : LNok (lenl n) n := by
  unfold lenl
  by_cases h1 : n ≤ 127
  · rw [if_pos h1]; exact .inl ⟨rfl, h1⟩
  · rw [if_neg h1]
    by_cases h2 : n < 256
    · rw [if_pos h2]
      refine .inr ⟨1, [(n : Int)], rfl, rfl, by decide, by decide, ?_⟩
      show (0 * 256 + (n : Int)) = n
      omega
    · rw [if_neg h2]
      refine .inr ⟨2, [((n / 256 : Nat) : Int), ((n % 256 : Nat) : Int)], rfl, rfl, by decide, by decide, ?_⟩
      show ((0 * 256 + ((n / 256 : Nat) : Int)) * 256 + ((n % 256 : Nat) : Int)) = n
      omega
theorem value_zeros : ∀ (z : Nat) (ds : List Int), KFB.value (List.replicate z 0 ++ ds) = KFB.value ds
  | 0, _ => rfl
  | z + 1, ds => by
    rw [List.replicate_succ, List.cons_append]
    show List.foldl _ (0 * 256 + 0) _ = _
    exact value_zeros z ds
theorem value_dg {n : Nat} (h : n < 300) : KFB.value (dg 256 n) = n := by
  rw [dg_256 (by omega)]
  split
  · show (0 * 256 + (n : Int)) = n; omega
  · show ((0 * 256 + ((n / 256 : Nat) : Int)) * 256 + ((n % 256 : Nat) : Int)) = n; omega
theorem dg_len1 {n : Nat} (h : n < 300) : 1 ≤ (dg 256 n).length := by
  rw [dg_256 (by omega)]
  split <;> simp
theorem longer_ok {n z : Nat} (h : n < 300) (hz : z ≤ 3) {c : Int} (hc : c = 128 + (z : Int) + ((dg 256 n).length : Int)) : LNok ([c] ++ List.replicate z 0 ++ dg 256 n) n := by
  have h1 := dg_len h
  have h2 := dg_len1 h
  refine .inr ⟨z + (dg 256 n).length, List.replicate z 0 ++ dg 256 n, ?_, ?_, by omega, by omega, ?_⟩
  · rw [hc, List.append_assoc]
    show _ :: _ = _ :: _
    congr 1
    omega
  · rw [List.length_append, List.length_replicate]
  · rw [value_zeros, value_dg h]
theorem getD_mid {a b : List Int} {x : Int} : (a ++ x :: b).getD a.length 0 = x := by simp [List.getD]
theorem tail_ok {a LN b : List Int} {n : Nat} (h : LNok LN n) (hb : n ≤ b.length) :
    ∃ l : Int, (a ++ (LN ++ b)).getD a.length 0 = l ∧ a.length < (a ++ (LN ++ b)).length ∧
      (TailS (a ++ (LN ++ b)).length (a.length + LN.length) l ((a.length + LN.length : Nat) + (n : Int)) a.length ∨ TailL (a ++ (LN ++ b)) (a.length + LN.length) l ((a.length + LN.length : Nat) + (n : Int)) a.length) := by
  rcases h with ⟨rfl, h1⟩ | ⟨j, ds, rfl, h1, h2, h3, h4⟩
  · refine ⟨n, getD_mid, ?_, .inl ⟨by omega, by omega, rfl, rfl, ?_⟩⟩
    · rw [List.length_append, List.length_append]; show _ < _ + (1 + _); omega
    · rw [List.length_append, List.length_append]
      show ((a.length + 1 : Nat) : Int) + n ≤ ((a.length + (1 + b.length) : Nat) : Int)
      omega
  · have hl : (128 + (j : Int)) :: ds ++ b = (128 + (j : Int)) :: (ds ++ b) := rfl
    have hlen : (a ++ ((128 + (j : Int)) :: ds ++ b)).length = a.length + 1 + j + b.length := by
      rw [hl, List.length_append, List.length_cons, List.length_append, h1]; omega
    have hlen2 : ((128 + (j : Int)) :: ds).length = 1 + j := by rw [List.length_cons, h1]; omega
    have hv : ((a ++ ((128 + (j : Int)) :: ds ++ b)).drop (a.length + 1)).take j = ds := by
      rw [hl, ← List.drop_drop, List.drop_left]
      show (ds ++ b).take j = ds
      rw [← h1, List.take_left]
    refine ⟨128 + (j : Int), by rw [hl]; exact getD_mid, by rw [hlen]; omega, .inr ⟨j, rfl, h2, h3, by rw [hlen2]; omega, by rw [hlen, hlen2]; omega, ?_, ?_, ?_⟩⟩
    · rw [hv, h4]
    · rw [hv, h4]; omega
    · rw [hlen, hlen2]
      omega
theorem parse_any {w mean mg mb} {d : Array UInt8} {k c : Int} {tn n : Nat} {LN xs ys : List Int} {t u : Tok} {len : Int} (hk0 : 0 ≤ k) (hk1 : k ≤ 3) (hc0 : 0 ≤ c) (hc1 : c ≤ 1) (ht : tn < 2 ^ 200)
    (hd0 : KBw.bInts d = idl k c tn ++ (LN ++ (xs ++ ys))) (hL : LNok LN n) (hx : xs.length = n) (hn : (idl k c tn ++ (LN ++ (xs ++ ys))).length ≤ 1000) (hlen : len = ((idl k c tn ++ (LN ++ (xs ++ ys))).length : Nat)) :
    ConP w mean mg mb [.bytes d t, .int len u] k c tn (((idl k c tn).length + LN.length : Nat) + (n : Int)) (ob (idl k c tn ++ LN)) (ob xs) := by
  subst hlen
  obtain ⟨l, hl, hp, htail⟩ := tail_ok (a := idl k c tn) (b := xs ++ ys) hL (by rw [List.length_append]; omega)
  have hhb : ob (idl k c tn ++ LN) = ob ((idl k c tn ++ (LN ++ (xs ++ ys))).take ((idl k c tn).length + LN.length)) := by
    rw [← List.append_assoc, ← List.length_append, List.take_left]
  have hcb : ob xs = ob (((idl k c tn ++ (LN ++ (xs ++ ys))).drop ((idl k c tn).length + LN.length)).take (((((idl k c tn).length + LN.length : Nat) + (n : Int)) - ((idl k c tn).length + LN.length : Nat))).toNat) := by
    rw [show (((((idl k c tn).length + LN.length : Nat) + (n : Int)) - ((idl k c tn).length + LN.length : Nat))).toNat = n by omega, ← List.append_assoc, ← List.length_append, List.drop_left, ← hx, List.take_left]
  by_cases h31 : 31 ≤ (tn : Int)
  · have hi : idl k c tn = (64 * k + 32 * c + 31) :: enc tn := by
      unfold idl
      rw [if_pos h31, Int.toNat_natCast]
      rfl
    have h0 : (idl k c tn ++ (LN ++ (xs ++ ys))).getD 0 0 = 64 * k + 32 * c + 31 := by rw [hi]; rfl
    have hs : scan ((idl k c tn ++ (LN ++ (xs ++ ys))).drop 1) 0 1 = some ((tn : Int), (idl k c tn).length) := by
      rw [hi]
      show scan (enc tn ++ _) 0 1 = _
      rw [scan_enc (by omega), List.length_cons]
      congr 2
      omega
    exact parse_all hd0 hn hk0 hk1 hc0 hc1 h0 (by decide) (by decide) (.inr ⟨rfl, h31, hs⟩) hp hl htail hhb hcb
  · have hi : idl k c tn = [64 * k + 32 * c + tn] := by
      unfold idl
      rw [if_neg h31]
    have h0 : (idl k c tn ++ (LN ++ (xs ++ ys))).getD 0 0 = 64 * k + 32 * c + tn := by rw [hi]; rfl
    have hp1 : (idl k c tn).length = 1 := by rw [hi]; rfl
    exact parse_all hd0 hn hk0 hk1 hc0 hc1 h0 (by omega) (by omega) (.inl ⟨rfl, by omega, hp1⟩) hp hl htail hhb hcb
end
section
/-- a handler without a name, in a frame that has cells: a built-in exception that a callee raised -/
theorem caught_cells {prog : Program} {w : World} {A₀ : Around} {E : Value → Shared → Prop} {s' : Shared} {h₀ h : Heap} {outer : List Env} {L a e t : Addr} {m : Str → Option Value} {name : Str} {scope : Scope} {cd : Value} {cl : List (Str × Addr)}
    {vs : List Value} {b₀ : Stmt} {suite : List Stmt} {pos np : Pos} {rest : List ExceptHandler} {Q : Flow → Shared → Prop} {news : List (Addr × Obj)} {p : Program} {loose : List Str} {mg mb : Str → Option Value} {x : Str} {X T' : String} {K : Frag}
    (B : Below A₀ h₀ outer h₀) (F : Fr h₀ L h m) (hsm : h.UpToSlots s'.heap) (R : RaisedK h₀ (envX name scope L a cd cl :: outer) e (.type X) t vs news s'.heap)
    (KI : K.In h₀) (T : TopRead p loose mg mb h₀) (ex : nsIn K mainGlobals x = some none) (hv : bootBuiltins x = some (.type T'))
    (hexc : isSubtype (.type T') (.type "BaseException") = pure true) (hnt : isSubtype (.type ((Manifest.find? T').elim "type" fun y => y.metatype)) (.type "tuple") = pure false) (hsub : isSubtype (.type X) (.type T') = pure true)
    (k : ∀ h', Fr h₀ L h' m → News h₀ L h' news → wpAny (model prog w) ((A₀.deeper (envX name scope L a cd cl)).mark (some (.ref e))) (execs (b₀ :: suite) (envX name scope L a cd cl)) Q E { s' with heap := h' })
    (hn : x ≠ "__name__" := by decide +kernel)
    (hk : scope.kind = .function := by rfl) (hx : (envX name scope L a cd cl).kindOf x = some .globalImplicit := by rfl) (hd : (x == ("__debug__" : Str)) = false := by decide)
    (hE : PassesOwnAt (model prog w) ((A₀.deeper (envX name scope L a cd cl)).mark (some (.ref e))) (A₀.deeper (envX name scope L a cd cl)) (envX name scope L a cd cl) E := by passes_own) :
    wpAny (model prog w) (A₀.deeper (envX name scope L a cd cl)) (noteFrame (.ref e) (envX name scope L a cd cl))
      (fun _ s₂ => wpAny (model prog w) (A₀.deeper (envX name scope L a cd cl)) (setFlight (.ref e) none) (fun _ s₃ =>
        wpAny (model prog w) (A₀.deeper (envX name scope L a cd cl)) (handleBy (.ref e) (envX name scope L a cd cl) (.ExceptHandler (some (.Name x np)) none (b₀ :: suite) pos :: rest)) Q E s₃) E s₂) E s' := by
  obtain ⟨⟨G, hG, hl, hfl, _⟩, _⟩ := R
  have noL : G.get? L = none := by
    obtain ⟨_, ⟨L', _, hf, hnone, _⟩, _⟩ := hfl.2.2.1
    cases Option.some.inj hf
    exact hnone
  -- the frame is noted, the flight is set down, the handler's class is read
  refine wpAny_looks_onW (Around.frames_deeper B.stack) rfl hfl fun h1 held1 up1 => ?_
  refine wpAny_landsW held1 fun h2 held2 up2 => ?_
  have keep2 := (flyingW_base hG held2).1
  obtain ⟨ob, hob, hcls⟩ := (flyingW_base hG held2).there
  have F2 := F.of_stays keep2 (hsm.trans (up1.trans up2))
  refine wpAny_handleBy_builtin (X := X) (T := T') (b := true) hexc hnt hsub (nameX_B F2 KI T ex hv hn ⟨rfl, ⟨ob, hob, hcls⟩, ?_⟩ hk hx hd)
  refine lands_againW held2 fun h3 held3 up3 => ?_
  have F3 := F.of_stays (flyingW_base hG held3).1 ((hsm.trans (up1.trans up2)).trans up3)
  refine wpAny_passesOwnAt hE (k h3 F3 fun q hq => ?_)
  have hq1 := (hl q hq).1
  exact ⟨held3.1 _ _ hq1, (fun z => by rw [z, noL] at hq1; cases hq1), (hl q hq).2⟩
end
section
theorem eqAt_int {A : Around} {s : Shared} (a : Int) (t u : Tok) : PySem.SeqAt.EqAt A s (.int a t) (.int a u) true := fun prog w E Q h => by
  unfold eqBool
  refine wpAny_holding ?_
  refine wpAny_ite_split (fun _ => wpAny_bind (wpAny_rule (wpAny_pure h))) (fun _ => wpAny_bind (PyProof.Rows.eq_int ?_))
  rw [beq_self_eq_true]
  exact wpAny_truthy_bool h
theorem eqAt_bytes {A : Around} {s : Shared} (a : Array UInt8) (t u : Tok) : PySem.SeqAt.EqAt A s (.bytes a t) (.bytes a u) true := fun prog w E Q h => by
  unfold eqBool
  refine wpAny_holding ?_
  refine wpAny_ite_split (fun _ => wpAny_bind (wpAny_rule (wpAny_pure h))) (fun _ => wpAny_bind (eq_bytes ?_))
  rw [beq_self_eq_true]
  exact wpAny_truthy_bool h
/-- two tuples of the same six: they do not differ -/
theorem tup_ne {prog : Program} {w : World} {A : Around} {E : Value → Shared → Prop} {s : Shared} {h₀ : Heap} {L a b : Addr} {news : List (Addr × Obj)} {k c g : Int} {x y z : Array UInt8} {t1 t2 t3 t4 t5 t6 u1 u2 u3 u4 u5 u6 : Tok} {n1 n2 : Nat} {Q : Value → Shared → Prop}
    (N : News h₀ L s.heap news) (ha : (a, ({ cls := .type "tuple", data := .seq #[.int k t1, .int c t2, .int g t3, .bytes x t4, .bytes y t5, .bytes z t6] n1 } : Obj)) ∈ news)
    (hb : (b, ({ cls := .type "tuple", data := .seq #[.int k u1, .int c u2, .int g u3, .bytes x u4, .bytes y u5, .bytes z u6] n2 } : Obj)) ∈ news) (hu : A.units < cLine) (h : Q (.bool false) s) :
    wpAny (model prog w) A (compareOp .NotEq (.ref a) (.ref b)) Q E s := by
  have key := PySem.SeqAt.RcNeAt.tuples (A := A) (s := s) (l := a) (b := b) (e := fun _ => true) ⟨_, N.get ha, rfl, _, rfl⟩ ⟨_, N.get hb, rfl, _, rfl⟩ hu (fun j h1 h2 => ?_)
  · exact key prog w E Q h
  · have hj : j = 0 ∨ j = 1 ∨ j = 2 ∨ j = 3 ∨ j = 4 ∨ j = 5 := by
      have : j < 6 := h1
      omega
    rcases hj with rfl | rfl | rfl | rfl | rfl | rfl
    · exact eqAt_int _ _ _
    · exact eqAt_int _ _ _
    · exact eqAt_int _ _ _
    · exact eqAt_bytes _ _ _
    · exact eqAt_bytes _ _ _
    · exact eqAt_bytes _ _ _
end
section
theorem flat_zeros : ∀ z : Nat, (List.replicate z [(0 : Int)]).flatten = List.replicate z 0
  | 0 => rfl
  | z + 1 => by rw [List.replicate_succ, List.flatten_cons, flat_zeros z]; rfl
theorem lo_facts {I : List Int} {X : Array UInt8} {z : Int} (hI : Byt I) (hIl : I.length ≤ 50) (hX : X.size < 300) (hz0 : 0 ≤ z) (hz3 : z < 4) :
    KBa.In (I ++ [128 + z + ((dg 256 X.size).length : Int)] ++ (List.replicate z.toNat [(0 : Int)]).flatten ++ dg 256 X.size) ∧
    LNok ([128 + z + ((dg 256 X.size).length : Int)] ++ (List.replicate z.toNat [(0 : Int)]).flatten ++ dg 256 X.size) X.size ∧
    byteArr (I ++ [128 + z + ((dg 256 X.size).length : Int)] ++ (List.replicate z.toNat [(0 : Int)]).flatten ++ dg 256 X.size) = ob (I ++ ([128 + z + ((dg 256 X.size).length : Int)] ++ (List.replicate z.toNat [(0 : Int)]).flatten ++ dg 256 X.size)) ∧
    KBw.bInts (byteArr (I ++ [128 + z + ((dg 256 X.size).length : Int)] ++ (List.replicate z.toNat [(0 : Int)]).flatten ++ dg 256 X.size) ++ X) = I ++ (([128 + z + ((dg 256 X.size).length : Int)] ++ (List.replicate z.toNat [(0 : Int)]).flatten ++ dg 256 X.size) ++ (KBw.bInts X ++ [])) ∧
    (I ++ (([128 + z + ((dg 256 X.size).length : Int)] ++ (List.replicate z.toNat [(0 : Int)]).flatten ++ dg 256 X.size) ++ (KBw.bInts X ++ []))).length ≤ 1000 ∧
    ((byteArr (I ++ [128 + z + ((dg 256 X.size).length : Int)] ++ (List.replicate z.toNat [(0 : Int)]).flatten ++ dg 256 X.size) ++ X).size : Int) = ((I ++ (([128 + z + ((dg 256 X.size).length : Int)] ++ (List.replicate z.toNat [(0 : Int)]).flatten ++ dg 256 X.size) ++ (KBw.bInts X ++ []))).length : Nat) ∧
    (byteArr (I ++ [128 + z + ((dg 256 X.size).length : Int)] ++ (List.replicate z.toNat [(0 : Int)]).flatten ++ dg 256 X.size)).size ≤ 400 ∧
    ((byteArr (I ++ [128 + z + ((dg 256 X.size).length : Int)] ++ (List.replicate z.toNat [(0 : Int)]).flatten ++ dg 256 X.size) ++ X).size : Int) = ((I.length + ([128 + z + ((dg 256 X.size).length : Int)] ++ (List.replicate z.toNat [(0 : Int)]).flatten ++ dg 256 X.size).length : Nat) : Int) + (X.size : Int) := by
  have hd := dg_len (n := X.size) (by omega)
  have hx := KBw.ints_length X
  have hok := longer_ok (n := X.size) (z := z.toNat) (by omega) (by omega) (c := 128 + z + ((dg 256 X.size).length : Int)) (by omega)
  rw [flat_zeros]
  generalize hLN : ([128 + z + ((dg 256 X.size).length : Int)] ++ List.replicate z.toNat (0 : Int) ++ dg 256 X.size) = LN at hok ⊢
  have e : I ++ [128 + z + ((dg 256 X.size).length : Int)] ++ List.replicate z.toNat (0 : Int) ++ dg 256 X.size = I ++ LN := by
    rw [← hLN]; simp only [List.append_assoc]
  have hLl : LN.length ≤ 6 := by
    rw [← hLN]; simp only [List.length_append, List.length_replicate, List.length_singleton]; omega
  have hLB : Byt LN := by
    rw [← hLN]
    refine ((Byt.one (by omega)).app fun x hx => ?_).app (dg_byt (by omega))
    rw [(List.mem_replicate.mp hx).2]; omega
  rw [e]
  have hin : KBa.In (I ++ LN) := hI.app hLB
  have hs : (byteArr (I ++ LN)).size = I.length + LN.length := by rw [byteArr_size, List.length_append]
  refine ⟨hin, hok, rfl, ?_, ?_, ?_, ?_, ?_⟩
  · rw [KBw.ints_app (KBa.ints_make hin) rfl]
    simp only [List.append_assoc, List.append_nil]
  · simp only [List.length_append, List.length_nil, hx]; omega
  · rw [Array.size_append, hs]; simp only [List.length_append, List.length_nil, hx]; omega
  · rw [hs]; omega
  · rw [Array.size_append, hs]; omega
theorem law_abs2 {h₀ h : Heap} {L : Addr} {I : List Int} {X : Array UInt8} {z : Int} {t : Tok} {rest : Str → Option Value} (hI : Byt I) (hIl : I.length ≤ 50) (hX : X.size < 300) (hz0 : 0 ≤ z) (hz3 : z < 4)
    (F : Fr h₀ L h (fun y => if y = Str.ofString "longer" then some (.bytes (byteArr (I ++ [128 + z + ((dg 256 X.size).length : Int)] ++ (List.replicate z.toNat [(0 : Int)]).flatten ++ dg 256 X.size)) t) else rest y)) :
    ∃ (LO : Array UInt8) (LM : List Int), LNok LM X.size ∧ LO = ob (I ++ LM) ∧ KBw.bInts (LO ++ X) = I ++ (LM ++ (KBw.bInts X ++ [])) ∧ (I ++ (LM ++ (KBw.bInts X ++ []))).length ≤ 1000 ∧ ((LO ++ X).size : Int) = ((I ++ (LM ++ (KBw.bInts X ++ []))).length : Nat) ∧ LO.size ≤ 400 ∧
      ((LO ++ X).size : Int) = ((I.length + LM.length : Nat) : Int) + (X.size : Int) ∧ Fr h₀ L h (fun y => if y = Str.ofString "longer" then some (.bytes LO t) else rest y) := by
  obtain ⟨_, p2, p3, p4, p5, p6, p7, p8⟩ := lo_facts hI hIl hX hz0 hz3
  exact ⟨_, _, p2, p3, p4, p5, p6, p7, p8, F⟩
end
/-- the rest of the law, held apart from the walk's own facts -/
structure Hold (P : Prop) : Prop where
  get : P
section
theorem five {ys : List Value} {ns : List Int} (h : IntsAre ys ns) (e : ns.length = 5) : ∃ a b c d e ta tb tc td te, ys = [Value.int a ta, .int b tb, .int c tc, .int d td, .int e te] := by
  cases h with
  | nil => cases e
  | cons a ta h => cases h with
    | nil => cases e
    | cons b tb h => cases h with
      | nil => cases e
      | cons c tc h => cases h with
        | nil => cases e
        | cons d td h => cases h with
          | nil => cases e
          | cons f tf h => cases h with
            | nil => exact ⟨_, _, _, _, _, _, _, _, _, _, rfl⟩
            | cons g tg h => simp only [List.length_cons] at e; omega
theorem law_abs {h₀ h : Heap} {L : Addr} {n1 n2 n3 n4 n5 : Str} {l1 l2 : List Int} {t1 t2 t3 t4 t5 : Tok} {va vb v5 : Int} {rest : Str → Option Value}
    (F : Fr h₀ L h (fun y => if y = n1 then some (.bytes (byteArr l1) t1) else if y = n2 then some (.bytes (byteArr l2) t2) else if y = n3 then some (.int (vb.fmod 4 - 1) t3) else if y = n4 then some (.int (va.fmod 6 - 1) t4) else if y = n5 then some (.int v5 t5) else rest y)) (h1 : l1.length < 300) (h2 : l2.length ≤ 4) :
    ∃ (X Y : Array UInt8) (kind method zeros : Int) (m₀ : Str → Option Value), X.size < 300 ∧ Y.size ≤ 4 ∧ -1 ≤ kind ∧ kind ≤ 4 ∧ -1 ≤ method ∧ method ≤ 2 ∧ Fr h₀ L h (fun y => if y = n1 then some (.bytes X t1) else if y = n2 then some (.bytes Y t2) else if y = n3 then some (.int method t3) else if y = n4 then some (.int kind t4) else if y = n5 then some (.int zeros t5) else m₀ y) :=
  ⟨_, _, _, _, _, rest, by rw [byteArr_size]; exact h1, by rw [byteArr_size]; exact h2, by have := fmod_lo va (n := 6) (by decide); omega, by have := fmod_hi va (n := 6) (by decide); omega, by have := fmod_lo vb (n := 4) (by decide); omega, by have := fmod_hi vb (n := 4) (by decide); omega, F⟩
theorem cell_abs {o : Obj} {c : Int} {t : Tok} (d : o.data = Data.cell (some (.int (lb c) t))) : ∃ z : Int, -2 ^ 200 < z ∧ z < 2 ^ 200 ∧ o.data = Data.cell (some (.int z t)) := ⟨_, (lb_range c).1, (lb_range c).2, d⟩
theorem News.skip {h₀ h : Heap} {L : Addr} {x : Addr × Obj} {l : List (Addr × Obj)} (N : News h₀ L h (x :: l)) : News h₀ L h l := fun p hp => N p (.tail _ hp)
local macro_rules | `(tactic| walk_at "assign Tuple cons ref") => `(tactic| (k_here; (with_reducible rename IntsAre _ (List.map _ (rangeKs 0 _)) => hI8); (have hF := five hI8 (by rfl)); clear hI8; (obtain ⟨a, b, c, d, e, ta, tb, tc, td, te, hF⟩ := hF); subst hF))
local macro_rules | `(tactic| walk_at "call ref") => `(tactic| (k_here; (with_reducible show wpAny _ _ (call (Value.ref 102) _ _) _ _ _); k_dflt (refine' Con.use (bound_ok (by rfl)) (by walk_at "kf") ?_; intro _ _ _ _ _; (try dsimp only); (try k_fold))))
local macro_rules | `(tactic| walk_at "binaryOp Pow int int") => `(tactic| (k_here; (with_reducible refine pow_int_small ?kb1 ?kb2 ?kb3 ?_); (case kb1 => decide); (case kb2 => decide); (case kb3 => decide)))
local macro_rules | `(tactic| walk_at "exec Try") => `(tactic| refine Halt.mk ?_)
noncomputable def S1 : PSigma (fun P : Prop => Hold P → PySem.Challenge.rw_jf0003_01.Holds) := by
  refine' ⟨_, fun hp => J.hd ?_⟩
  rotate_left
  focus
    k_go0
    (all_goals try k_fold)
    k_steps
    unfold Halt
    repeat (rename IntsAre _ (List.map _ _) => z; clear z)
    repeat (rename IntsAre _ (List.take _ _) => z; clear z)
    repeat (rename List.length _ = _ => z; clear z)
    repeat (rename List.length _ ≤ _ => z; clear z)
    repeat (rename KBa.In _ => z; clear z)
    repeat (rename IsRange _ _ _ _ _ _ _ _ => z; clear z)
    repeat (rename _ ≤ _ ∧ _ ≤ _ => z; clear z)
    repeat (rename _ ≠ _ ∧ _ => z; clear z)
    repeat (rename _ < _ ∧ _ => z; clear z)
    repeat (rename CellsAre _ _ _ => z; clear z)
    repeat (rename ∀ (b : Addr) (o : Obj), Heap.get? _ b = some o → Heap.get? _ b = some o => z; clear z)
    rename Fr _ _ _ _ => F8
    rename News _ _ _ _ => N8
    obtain ⟨X, Y, kind, method, zeros, m₀, hX, hY, hka, hkb, hma, hmb, F9⟩ := law_abs F8 (by rw [List.length_map, rangeKs_length]; omega) (by rw [List.length_map, List.length_take]; omega)
    have N9 := News.skip (News.skip (News.skip (News.skip (News.skip (News.skip N8)))))
    clear F8 N8
    rename _ = Data.cell (some (Value.int (lb _) _)) => dz
    obtain ⟨tag, hz1, hz2, dz9⟩ := cell_abs dz
    clear dz
    (try revert LO); (try revert LM); (try revert r); (try revert us); (try revert c); (try revert u); (try revert h'); (try revert tk); (try revert X); (try revert Y); (try revert kind); (try revert method); (try revert zeros); (try revert tn); (try revert tag); repeat (rename _ => z; revert z)
    exact Hold.get
end
local macro_rules | `(tactic| walk_at "noteFrame ref") => `(tactic| (k_here; (rename RaisedK _ _ _ _ _ _ _ _ => rkX); (with_reducible show wpAny _ _ (noteFrame _ _) (fun _ s₂ => wpAny _ _ (setFlight _ none) (fun _ s₃ => wpAny _ _ (handleBy _ _ (ExceptHandler.ExceptHandler (some (Expr.Name _ _)) none _ _ :: _)) _ _ s₃) _ s₂) _ _); k_dflt ((first | refine' caught_cells (T' := "ValueError") ?K ?F ?U rkX ?X ?T ?ex PyProof.Rows.Boot.«ValueError» PySem.F.isExc_ValueError PySem.F.notTuple_ValueError ?hs ?_ | refine' caught_cells (T' := "TypeError") ?K ?F ?U rkX ?X ?T ?ex PyProof.Rows.Boot.«TypeError» PySem.F.isExc_TypeError PySem.F.notTuple_TypeError ?hs ?_); (case K => assumption); (case F => assumption); (case U => assumption); (case hs => (rw [isSubtype_type]; kernel_rfl)); (case X => k_asm); (case T => k_asm); (case ex => k_is); k_whole); intro h' F' N'; (try k_sweep)))
section
local macro_rules | `(tactic| walk_at "binaryOp Mod str int") => `(tactic| (k_here; (with_reducible show wpAny _ _ (binaryOp Operator.Mod (Value.str _ _) (Value.int _ _)) _ _ _); (first | (refine' MsgI.mod msg_class ?hX ?h1 ?h2 (by decide) (by decide) ?_; (case hX => (first | with_reducible rfl | decide +kernel))) | (refine' MsgI.mod msg_method ?hX ?h1 ?h2 (by decide) (by decide) ?_; (case hX => (first | with_reducible rfl | decide +kernel))) | (refine' MsgI.mod msg_tag ?hX ?h1 ?h2 (by decide) (by decide) ?_; (case hX => (first | with_reducible rfl | decide +kernel)))); (case h1 => omega); (case h2 => omega); intro _ _ _))
noncomputable def S2 : PSigma (fun P : Prop => Hold P → S1.1) := by
  refine' ⟨_, fun hp => ?_⟩
  rotate_left
  focus
    (intro zw; revert zw)
    w_on
    w_top on
    k_fill
    intros
    rename_i tag hz1 hz2 dz9 zeros method hma hmb kind hka hkb Y hY X hX F9 tk
    by_cases hgood : 0 ≤ kind ∧ kind ≤ 3 ∧ 0 ≤ method ∧ method ≤ 1 ∧ 0 ≤ tag
    · obtain ⟨g1, g2, g3, g4, g5⟩ := hgood
      (try revert LO); (try revert LM); (try revert r); (try revert us); (try revert c); (try revert u); (try revert h'); (try revert tk); (try revert X); (try revert Y); (try revert kind); (try revert method); (try revert zeros); (try revert tn); (try revert tag); repeat (rename _ => z; revert z)
      exact Hold.get
    · have hbad : kind = -1 ∨ kind = 4 ∨ ((0 ≤ kind ∧ kind ≤ 3) ∧ (method = -1 ∨ method = 2 ∨ ((0 ≤ method ∧ method ≤ 1) ∧ tag < 0))) := by omega
      clear hgood
      rcases hbad with rfl | rfl | ⟨⟨g1, g2⟩, rfl | rfl | ⟨⟨g3, g4⟩, g5⟩⟩
      · k_steps

      · k_steps

      · k_steps

      · k_steps

      · k_steps
end
section
theorem emit_ok2 {w : World} {mean : ExcName → Option Value} {mg mb : Str → Option Value} {kind method : Int} {tn : Nat} {b : Array UInt8} {t1 t2 t3 t4 : Tok} (hk0 : 0 ≤ kind) (hk3 : kind ≤ 3) (hm0 : 0 ≤ method) (hm1 : method ≤ 1) (ht2 : tn < 2 ^ 200) (hb : b.size < 300) :
    Con w mean mg mb 51 [.int kind t1, .int method t2, .int (tn : Int) t3, .bytes b t4] [] 3 (fun t => .bytes (ob (idl kind method tn ++ lenl b.size) ++ b) t) := by
  have h := emit_ok (w := w) (mean := mean) (mg := mg) (mb := mb) (t1 := t1) (t2 := t2) (t3 := t3) (t4 := t4) (tag := (tn : Int)) hk0 hk3 hm0 hm1 (by omega) (by omega) hb (Nat.le_trans (hdr_size ht2) (by decide))
  rwa [hdr_eq] at h
end
local macro_rules | `(tactic| walk_at "call ref") => `(tactic| (k_here; (with_reducible show wpAny _ _ (call (Value.ref 51) [_, _, _, Value.bytes _ _] _) _ _ _); k_dflt (refine' Con.use (emit_ok2 (by walk_at "kp") (by walk_at "kp") (by walk_at "kp") (by walk_at "kp") (by walk_at "kp") (by walk_at "kp")) (by walk_at "kf") ?_; intro _ _ _ _ _; (try dsimp only); (try k_fold))))
section
theorem fr_taken {h₀ h : Heap} {L r d l : Addr} {rest : Str → Option Value} (F : Fr h₀ L h (fun y => if y = Str.ofString "head" then some (.ref r) else if y = Str.ofString "digits" then some (.ref d) else if y = Str.ofString "head" then some (.ref l) else rest y)) :
    Fr h₀ L h (fun y => if y = Str.ofString "digits" then some (.ref d) else if y = Str.ofString "head" then some (.ref r) else rest y) := by
  have e : (fun y => if y = Str.ofString "head" then some (.ref r) else if y = Str.ofString "digits" then some (.ref d) else if y = Str.ofString "head" then some (.ref l) else rest y) = (fun y => if y = Str.ofString "digits" then some (.ref d) else if y = Str.ofString "head" then some (.ref r) else rest y) := by
    funext y
    by_cases h1 : y = Str.ofString "head"
    · rw [if_pos h1, if_neg (by rw [h1]; decide), if_pos h1]
    · rw [if_neg h1, if_neg h1, if_neg h1]
  rw [← e]
  exact F
theorem fr_plain {h₀ h : Heap} {L r : Addr} {rest : Str → Option Value} (F : Fr h₀ L h (fun y => if y = Str.ofString "head" then some (.ref r) else rest y)) :
    Fr h₀ L h (fun y => if y = Str.ofString "digits" then rest (Str.ofString "digits") else if y = Str.ofString "head" then some (.ref r) else rest y) := by
  have e : (fun y => if y = Str.ofString "head" then some (.ref r) else rest y) = (fun y => if y = Str.ofString "digits" then rest (Str.ofString "digits") else if y = Str.ofString "head" then some (.ref r) else rest y) := by
    funext y
    by_cases h1 : y = Str.ofString "digits"
    · rw [if_pos h1, if_neg (by rw [h1]; decide), h1]
    · rw [if_neg h1]
  rw [← e]
  exact F
/-- behind the law's one if: the head is whole -/
def LawJoin (h₀ : Heap) (L : Addr) (rest : Str → Option Value) (news : List (Addr × Obj)) (ns : List Int) (s : Shared) (f : Flow) (s' : Shared) : Prop :=
  ∃ (r : Addr) (us : List Value) (c : Nat) (u : Option Value) (h' : Heap) (tk : Nat), f = .next ∧ s' = { s with heap := h', toks := tk } ∧ IntsAre us ns ∧
    Fr h₀ L h' (fun y => if y = Str.ofString "digits" then u else if y = Str.ofString "head" then some (.ref r) else rest y) ∧ News h₀ L h' ((r, listOf us.toArray c) :: news)
theorem law_join {M : Model} {A : Around} {E : Value → Shared → Prop} {t : Sem Flow} {h₀ : Heap} {L l : Addr} {o : Obj} {rest : Str → Option Value} {news : List (Addr × Obj)} {s : Shared} {Q : Flow → Shared → Prop} (ns : List Int)
    (_F : Fr h₀ L s.heap (fun y => if y = Str.ofString "head" then some (.ref l) else rest y)) (_N : News h₀ L s.heap ((l, o) :: news))
    (h1 : wpAny M A t (LawJoin h₀ L rest news ns s) E s)
    (h2 : ∀ (r : Addr) (us : List Value) (c : Nat) (u : Option Value) (h' : Heap) (tk : Nat), IntsAre us ns → Fr h₀ L h' (fun y => if y = Str.ofString "digits" then u else if y = Str.ofString "head" then some (.ref r) else rest y) → News h₀ L h' ((r, listOf us.toArray c) :: news) → Q .next { s with heap := h', toks := tk }) :
    wpAny M A t Q E s := by
  refine wpAny_mono h1 (fun f s' x => ?_) fun _ _ x => x
  obtain ⟨r, us, c, u, h', tk, rfl, rfl, I, F, N⟩ := x
  exact h2 r us c u h' tk I F N
local macro_rules | `(tactic| walk_at "exec If") => `(tactic| ((with_reducible show wpAny _ _ (exec (Stmt.If (Expr.Compare (Expr.Name ("tag" : Str) _) [CmpOp.GtE] _ _) _ _ _) _) _ _ _); (fail_if_success (with_reducible show wpAny _ _ _ (LawJoin _ _ _ _ _ _) _ _)); refine Halt.mk ?_))
local macro_rules | `(tactic| walk_at "LawJoin") => `(tactic| refine Halt.mk ?_)
noncomputable def S3 : PSigma (fun P : Prop => Hold P → S2.1) := by
  refine' ⟨_, fun hp => ?_⟩
  rotate_left
  focus
    (intro zw; revert zw)
    w_on
    w_top on
    k_fill
    intros
    rename_i tag hz1 hz2 dz9 g5 zeros method hma hmb g3 g4 kind hka hkb g1 g2 Y hY X hX F9 tk
    · obtain ⟨tn, rfl⟩ := Int.eq_ofNat_of_zero_le g5
      have gdl : (dg 128 tn).length ≤ 40 := dg_len128 (by omega)
      k_steps
      unfold Halt
      rename Fr _ _ _ _ => jF
      rename News _ _ _ _ => jN
      refine law_join (idl kind method tn) jF jN ?_ ?_
      · k_steps
        · unfold Halt
          rename 31 ≤ (tn : Int) => h31
          rename Fr _ _ _ _ => eF
          rename News _ _ _ _ => eN
          rename IntsAre _ (_ ++ _ ++ List.drop _ _) => eI
          rw [idl_high h31] at eI
          exact ⟨_, _, _, _, _, _, rfl, rfl, eI, fr_taken eF, cb_drop eN (by kcj_all)⟩
        · unfold Halt
          rename ¬ 31 ≤ (tn : Int) => h31
          exact ⟨_, _, _, _, _, _, rfl, rfl, idl_low h31 ▸ IntsAre.cons _ _ .nil, fr_plain (by assumption), by assumption⟩
      · clear jF jN
        intro r us c u h' tk I F N
        (try revert LO); (try revert LM); (try revert r); (try revert us); (try revert c); (try revert u); (try revert h'); (try revert tk); (try revert X); (try revert Y); (try revert kind); (try revert method); (try revert zeros); (try revert tn); (try revert tag); repeat (rename _ => z; revert z)
        exact Hold.get
end
section
theorem der_use {w : World} {mean : ExcName → Option Value} {mg mb : Str → Option Value} {b : Array UInt8} {t : Tok} {l : Addr} {us : List Value} {ns : List Int} {n : Nat} {news : List (Addr × Obj)} {dp un : Nat} {gd : Option (List Code)} {cn : Str} {cs : Scope} {a : Addr} {ccd : Value} {cl : List (Str × Addr)} {outer : List Env} {A₀ : Around} {base h₀ : Heap} {L : Addr} {m : Str → Option Value} {s : Shared} {Q E : Value → Shared → Prop}
    (p : Below A₀ base outer h₀ ∧ Fr h₀ L s.heap m ∧ (hd.heap_39 w.params).In h₀ ∧ News h₀ L s.heap ((l, listOf us.toArray n) :: news) ∧ Top hd.view_39 (looseW hd.view_39 [Str.ofString "int_to_bytes", Str.ofString "int_from_bytes", Str.ofString "parse", Str.ofString "_parse"]) mean mg mb h₀ ∧ cs.kind = .function ∧ dp + 2 < recursionLimit ∧ un + 8 * 2 < cLine) (hb : b.size < 300) (hI : IntsAre us ns) (hB : Byt ns) (hL : ns.length ≤ 300) (ret : CbRet h₀ L m ((l, listOf us.toArray n) :: news) s Q (fun t => .bytes (ob (ns ++ lenl b.size) ++ b) t)) :
    wpAny (model PySem.Challenge.rw_jf0003_01.row.prog w) (ktrTop dp un gd cn cs L a ccd cl outer) (call (.ref 95) [.ref l, .bytes b t]) Q E s := der_ok hb hI hB hL _ _ _ _ _ _ _ _ _ _ _ _ _ _ _ _ _ _ p.1 p.2.1 p.2.2.1 p.2.2.2.1 p.2.2.2.2.1 p.2.2.2.2.2.1 p.2.2.2.2.2.2.1 p.2.2.2.2.2.2.2 ret
theorem ConP.use {w : World} {mean : ExcName → Option Value} {mg mb : Str → Option Value} {vs : List Value} {k c tag ce : Int} {hb cb : Array UInt8} (C : ConP w mean mg mb vs k c tag ce hb cb)
    {news : List (Addr × Obj)} {dp un : Nat} {gd : Option (List Code)} {cn : Str} {cs : Scope} {a : Addr} {ccd : Value} {cl : List (Str × Addr)} {outer : List Env} {A₀ : Around} {base h₀ : Heap} {L : Addr} {m : Str → Option Value} {s : Shared} {Q E : Value → Shared → Prop}
    (p : Below A₀ base outer h₀ ∧ Fr h₀ L s.heap m ∧ (hd.heap_39 w.params).In h₀ ∧ News h₀ L s.heap news ∧ Top hd.view_39 (looseW hd.view_39 [Str.ofString "int_to_bytes", Str.ofString "int_from_bytes", Str.ofString "parse", Str.ofString "_parse"]) mean mg mb h₀ ∧ cs.kind = .function ∧ dp + 2 < recursionLimit ∧ un + 8 * 2 < cLine)
    (ret : ∀ (r r2 : Addr) (t1 t2 t3 t4 t5 t6 t7 : Tok) (n1 n2 : Nat) (h' : Heap) (tk' : Nat), Fr h₀ L h' m → News h₀ L h' ((r, ({ cls := .type "tuple", data := .seq #[.ref r2, .int ce t1] n1 } : Obj)) :: (r2, ({ cls := .type "tuple", data := .seq #[.int k t2, .int c t3, .int tag t4, .bytes hb t5, .bytes cb t6, .bytes #[] t7] n2 } : Obj)) :: news) → Q (.ref r) { s with heap := h', toks := tk' }) :
    wpAny (model PySem.Challenge.rw_jf0003_01.row.prog w) (ktrTop dp un gd cn cs L a ccd cl outer) (call (.ref 74) vs) Q E s := C _ _ _ _ _ _ _ _ _ _ _ _ _ _ _ _ _ _ p.1 p.2.1 p.2.2.1 p.2.2.2.1 p.2.2.2.2.1 p.2.2.2.2.2.1 p.2.2.2.2.2.2.1 p.2.2.2.2.2.2.2 ret
end
local macro_rules | `(tactic| walk_at "call ref") => `(tactic| (k_here; (with_reducible show wpAny _ _ (call (Value.ref 95) _ _) _ _ _); k_dflt (refine' der_use (by walk_at "kf") (by walk_at "kp") (by walk_at "kp") (by walk_at "kp") (by walk_at "kp") ?_; intro _ _ _ _ _; (try dsimp only); (try k_fold))))
section
theorem parse_X {w : World} {mean : ExcName → Option Value} {mg mb : Str → Option Value} {d X : Array UInt8} {k c : Int} {tn : Nat} {LN ys : List Int} {t u : Tok} {len : Int}
    (hd0 : KBw.bInts d = idl k c tn ++ (LN ++ (KBw.bInts X ++ ys))) (hL : LNok LN X.size) (hn : (idl k c tn ++ (LN ++ (KBw.bInts X ++ ys))).length ≤ 1000) (hlen : len = ((idl k c tn ++ (LN ++ (KBw.bInts X ++ ys))).length : Nat)) (hk0 : 0 ≤ k) (hk1 : k ≤ 3) (hc0 : 0 ≤ c) (hc1 : c ≤ 1) (ht : tn < 2 ^ 200) :
    ConP w mean mg mb [.bytes d t, .int len u] k c tn (((idl k c tn).length + LN.length : Nat) + (X.size : Int)) (ob (idl k c tn ++ LN)) X := by
  have h := parse_any (w := w) (mean := mean) (mg := mg) (mb := mb) (t := t) (u := u) hk0 hk1 hc0 hc1 ht hd0 hL (KBw.ints_length X) hn hlen
  rwa [← ob_of (rfl : KBw.bInts X = KBw.bInts X)] at h
theorem slice_u {prog : Program} {w : World} {A : Around} {E : Value → Shared → Prop} {s : Shared} {value slice : PySem.Expr} {b : Array UInt8} {ks : List Int} {t : Tok} {h₀ : Heap} {L : Addr} {m : PySem.Str → Option Value} {news : List (Addr × Obj)} {l u : Value} {hi : Int} {v : Array UInt8} {Q : Value → Shared → Prop} (hF : Fr h₀ L s.heap m) (hN : News h₀ L s.heap news)
    (hl : IsPart l none) (hu : IsPart u (some hi)) (hk : KBw.bInts b = ks) (hz : ks.length ≤ 1000) (h0 : 0 ≤ hi) (h2 : hi ≤ (ks.length : Int)) (hv : ob (ks.take hi.toNat) = v)
    (h : ∀ h' t' k, Fr h₀ L h' m → News h₀ L h' news → Q (.bytes v t') { s with heap := h', toks := k })
    (hs : subscripted slice false (.bytes b t) (.ref s.heap.objs.size) = operate [.ref s.heap.objs.size, .bytes b t] (getItem (.bytes b t) (.ref s.heap.objs.size)) := by with_unfolding_all rfl)
    (ht : ∀ r, letTemporaryGo value (.bytes b t) r = pure () := by intro _; with_unfolding_all rfl) :
    wpAny (model prog w) A (subscriptTail value slice (.bytes b t) (.ref s.heap.objs.size)) Q E { s with heap := s.heap.push { cls := .type "slice", data := .fields #[l, u, .none] } } := by
  refine KBc.slice_K hF hN hk hl hu (by omega) (fun h' t' k F' N' e => ?_) hs ht
  have e2 : KBy.picked b none (some hi) = v := by
    rw [← hv, ob_of e]
    have c2 : clipAt ks.length hi = hi.toNat := by
      have := clipAt_nat ks.length hi.toNat
      rw [Int.toNat_of_nonneg (by omega)] at this
      omega
    show ob ((ks.drop 0).take (clipAt ks.length hi - 0)) = _
    rw [c2]
    rfl
  rw [e2]
  exact h h' t' k F' N'
end
local macro_rules | `(tactic| walk_at "subscriptTail") => `(tactic| (k_here; (with_reducible show wpAny _ _ (subscriptTail _ (Expr.Slice none _ none _) (Value.bytes _ _) (Value.ref _)) _ _ _); (with_reducible rename Fr _ _ _ _ => F'); (with_reducible rename News _ _ _ _ => N'); k_dflt (refine' slice_u (s := ⟨_, _, _, _, _⟩) F' N' (by constructor) (by constructor) ?hk ?hz ?h0 ?h2 ?hv ?_; (case hk => with_reducible assumption); (case hz => with_reducible assumption); (case h0 => omega); (case h2 => omega); (case hv => with_reducible assumption); k_whole); intro _ _ _ _ _))
local macro_rules | `(tactic| walk_at "call builtin:len") => `(tactic| (k_here; (with_reducible show wpAny _ _ (call (Value.builtin "len") [Value.bytes _ _]) _ _ _); (refine len_bytes ?hsz ?_); (case hsz => ((try simp only [Array.size_append, List.size_toArray, List.length_cons, List.length_nil]); omega))))
section
theorem parse_Y {w : World} {mean : ExcName → Option Value} {mg mb : Str → Option Value} {d X hb : Array UInt8} {k c : Int} {tn : Nat} {LN ys : List Int} {t u : Tok} {len : Int}
    (hd0 : KBw.bInts d = idl k c tn ++ (LN ++ (KBw.bInts X ++ ys))) (hL : LNok LN X.size) (hn : (idl k c tn ++ (LN ++ (KBw.bInts X ++ ys))).length ≤ 1000) (hlen : len = ((idl k c tn ++ (LN ++ (KBw.bInts X ++ ys))).length : Nat)) (hhb : hb = ob (idl k c tn ++ LN)) (hk0 : 0 ≤ k) (hk1 : k ≤ 3) (hc0 : 0 ≤ c) (hc1 : c ≤ 1) (ht : tn < 2 ^ 200) :
    ConP w mean mg mb [.bytes d t, .int len u] k c tn (((idl k c tn).length + LN.length : Nat) + (X.size : Int)) hb X := by
  subst hhb
  exact parse_X hd0 hL hn hlen hk0 hk1 hc0 hc1 ht
end
local macro_rules | `(tactic| walk_at "call ref") => `(tactic| (k_here; (with_reducible show wpAny _ _ (call (Value.ref 74) _ _) _ _ _); k_dflt (refine' ConP.use (parse_Y (by walk_at "kp") (by walk_at "kp") (by walk_at "kp") (by walk_at "kp") (by walk_at "kp") (by walk_at "kp") (by walk_at "kp") (by walk_at "kp") (by walk_at "kp") (by walk_at "kp")) (by walk_at "kf") ?_; iterate 15 intro _; (try dsimp only); (try k_fold))))
section
theorem dl_facts {I LN : List Int} {X Y : Array UInt8} (hI : Byt I) (hN : Byt LN) (hIl : I.length ≤ 50) (hNl : LN.length ≤ 3) (hX : X.size < 300) (hY : Y.size ≤ 4) :
    KBw.bInts (ob (I ++ LN) ++ X) = (I ++ LN) ++ KBw.bInts X ∧ ((I ++ LN) ++ KBw.bInts X).length ≤ 1000 ∧ (ob (I ++ LN) ++ X).size = (ob (I ++ LN)).size + X.size ∧ ((I ++ LN) ++ KBw.bInts X).length = (ob (I ++ LN)).size + X.size ∧
      ob (List.take (((ob (I ++ LN) ++ X).size : Int) - (X.size : Int)).toNat ((I ++ LN) ++ KBw.bInts X)) = ob (I ++ LN) ∧
      KBw.bInts (ob (I ++ LN) ++ X ++ Y) = I ++ (LN ++ (KBw.bInts X ++ KBw.bInts Y)) ∧ (I ++ (LN ++ (KBw.bInts X ++ KBw.bInts Y))).length ≤ 1000 ∧ ((ob (I ++ LN) ++ X ++ Y).size : Int) = ((I ++ (LN ++ (KBw.bInts X ++ KBw.bInts Y))).length : Nat) ∧ (KBw.bInts X).length = X.size ∧ (ob (I ++ LN)).size = I.length + LN.length := by
  have h1 : KBw.bInts (ob (I ++ LN)) = I ++ LN := bInts_ob (hI.app hN)
  have h2 : KBw.bInts (ob (I ++ LN) ++ X) = (I ++ LN) ++ KBw.bInts X := KBw.ints_app h1 rfl
  have h3 : (ob (I ++ LN)).size = I.length + LN.length := by rw [ob_size, List.length_append]
  have h4 := KBw.ints_length X
  have h5 := KBw.ints_length Y
  refine ⟨h2, ?_, ?_, ?_, ?_, ?_, ?_, ?_, h4, h3⟩
  · rw [List.length_append, List.length_append, h4]; omega
  · rw [Array.size_append]
  · rw [List.length_append, List.length_append, h4, h3]
  · have e : (((ob (I ++ LN) ++ X).size : Int) - (X.size : Int)).toNat = (I ++ LN).length := by
      rw [Array.size_append, h3, List.length_append]; omega
    rw [e, List.take_left]
  · rw [KBw.ints_app h2 rfl]
    simp only [List.append_assoc]
  · simp only [List.length_append, h4, h5]; omega
  · rw [Array.size_append, Array.size_append, h3]
    simp only [List.length_append, h4, h5]
    omega
end
local macro_rules | `(tactic| walk_at "compareOp NotEq ref ref") => `(tactic| (k_here; k_dflt (refine' tup_ne ?N ?a ?b ?u ?_; (case N => k_asm); (case a => k_mem); (case b => k_mem); (case u => ke_room); k_whole)))
section
local macro_rules | `(tactic| walk_at "exec Assign") => `(tactic| ((with_reducible show wpAny _ _ (exec (Stmt.Assign [Expr.Name ("digits" : Str) _] _ _) _) _ _ _); refine Halt.mk ?_))
noncomputable def S4 : PSigma (fun P : Prop => Hold P → S3.1) := by
  refine' ⟨_, fun hp => ?_⟩
  rotate_left
  focus
    (intro zw; revert zw)
    w_on
    w_top on
    k_fill
    intros
    rename_i tn hz1 hz2 dz9 g5 gdl zeros method hma hmb g3 g4 kind hka hkb g1 g2 Y hY X hX tk h' u c us I r F N
    have hIB : Byt (idl kind method (tn : Int)) := idl_byt g1 g2 g3 g4
    have hIL : (idl kind method (tn : Int)).length ≤ 300 := Nat.le_trans (idl_len (by omega)).1 (by decide)
    have hDs : (ob (idl kind method (tn : Int) ++ lenl X.size)).size ≤ 60 := by rw [← hdr_eq]; exact hdr_size (by omega)
    have hNB : Byt (lenl X.size) := lenl_byt (by omega)
    have hL1 : LNok (lenl X.size) X.size := lenl_ok (by omega)
    obtain ⟨f1, f2, f3, f4, f5, f6, f7, f8, f9, f10⟩ := dl_facts (Y := Y) hIB hNB (idl_len (by omega)).1 (lenl_len X.size).1 hX hY
    have p0 : ob (idl kind method (tn : Int) ++ lenl X.size) = ob (idl kind method (tn : Int) ++ lenl X.size) := rfl
    dsimp only
    k_steps
    unfold Halt
    rename Fr _ _ _ _ => F8
    rename News _ _ _ _ => N8
    have N9 := News.skip (News.skip (News.skip (News.skip (News.skip N8))))
    clear N8
    (try revert LO); (try revert LM); (try revert r); (try revert us); (try revert c); (try revert u); (try revert h'); (try revert tk); (try revert X); (try revert Y); (try revert kind); (try revert method); (try revert zeros); (try revert tn); (try revert tag); repeat (rename _ => z; revert z)
    exact Hold.get
end
section
theorem any_toks {α : Type} {M : Model} {A : Around} {t : Sem α} {Q : α → Shared → Prop} {E : Value → Shared → Prop} {s : Shared} (H : ∀ tk, wpAny M A t Q E { s with toks := tk }) : wpAny M A t Q E s := H s.toks
end
local macro_rules | `(tactic| walk_at "execs cons") => `(tactic| (refine any_toks ?_; intro tk; refine wpAny_execs_cons ?_; (try dsimp only)))
local macro_rules | `(tactic| walk_at "execs nil") => `(tactic| (refine any_toks ?_; intro tk; refine wpAny_execs_nil ?_; (try dsimp only)))
section
local macro_rules | `(tactic| walk_at "exec Assign") => `(tactic| ((with_reducible show wpAny _ _ (exec (Stmt.Assign [Expr.Name ("read" : Str) _] _ _) _) _ _ _); refine Halt.mk ?_))
noncomputable def S5 : PSigma (fun P : Prop => Hold P → S4.1) := by
  refine' ⟨_, fun hp => ?_⟩
  rotate_left
  focus
    (intro zw; revert zw)
    w_on
    w_top on
    k_fill
    intros
    rename_i tn hz1 hz2 dz9 g5 gdl zeros method hma hmb g3 g4 kind hka hkb g1 g2 hIB hIL Y hY X hX hDs hNB hL1 f1 f2 f3 f4 f5 f6 f7 f8 f9 f10 p0 _ _ _ _ tk h' u c us I r _ _ _ _ _ _ _ _ _ _ _ N9
    have hd2 := dg_len (n := X.size) (by omega)
    have hzz0 := fmod_lo zeros (n := 4) (by decide)
    have hzz1 := fmod_hi zeros (n := 4) (by decide)
    have pIn := (lo_facts hIB (idl_len (by omega)).1 hX hzz0 hzz1).1
    k_steps
    unfold Halt
    rename Fr _ _ _ _ => F8
    rename News _ _ _ _ => N8
    obtain ⟨LO, LM, p2, p3, p4, p5, p6, p7, p8, F9⟩ := law_abs2 hIB (idl_len (by omega)).1 hX hzz0 hzz1 F8
    have N9 := News.skip (News.skip (News.skip (News.skip (News.skip (News.skip N8)))))
    clear F8 N8 pIn
    repeat (rename IntsAre _ (_ ++ _) => z; clear z)
    repeat (rename IntsAre _ (List.flatten _) => z; clear z)
    repeat (rename KBa.In _ => z; clear z)
    repeat (rename _ < _ ∧ _ => z; clear z)
    repeat (rename _ ≠ _ ∧ _ => z; clear z)
    (try revert LO); (try revert LM); (try revert r); (try revert us); (try revert c); (try revert u); (try revert h'); (try revert tk); (try revert X); (try revert Y); (try revert kind); (try revert method); (try revert zeros); (try revert tn); (try revert tag); repeat (rename _ => z; revert z)
    exact Hold.get
end
local macro_rules | `(tactic| walk_at "exec Raise some none") => `(tactic| (exfalso; omega))
section
local macro_rules | `(tactic| walk_at "exec Assign") => `(tactic| ((with_reducible show wpAny _ _ (exec (Stmt.Assign [Expr.Name ("odd" : Str) _] _ _) _) _ _ _); refine Halt.mk ?_))
set_option maxHeartbeats 1500000 in
noncomputable def S6 : PSigma (fun P : Prop => Hold P → S5.1) := by
  refine' ⟨_, fun hp => ?_⟩
  rotate_left
  focus
    (intro zw; revert zw)
    w_on
    w_top on
    k_fill
    intros
    rename_i tn hz1 hz2 dz9 g5 gdl zeros hzz0 hzz1 s1 e1 e2 e3 method hma hmb g3 g4 kind hka hkb g1 g2 hIL Y hY X hX hDs hL1 f1 f2 f3 f4 f5 f6 f7 f8 f9 f10 p0 _ _ _ _ hd2 I9 L9 tk h' u c us I r _ _ _ _ _ _ N9 LM p2 p5 LO p3 p4 p6 p7 p8 F9
    k_steps
    unfold Halt
    rename Fr _ _ _ _ => F8
    rename News _ _ _ _ => N8
    have N9 := News.skip (News.skip (News.skip N8))
    clear N8
    repeat (rename _ < _ ∧ _ => z; clear z)
    (try revert LO); (try revert LM); (try revert r); (try revert us); (try revert c); (try revert u); (try revert h'); (try revert tk); (try revert X); (try revert Y); (try revert kind); (try revert method); (try revert zeros); (try revert tn); (try revert tag); repeat (rename _ => z; revert z)
    exact Hold.get
end
section
theorem loadX_L {M : Model} {A : Around} {E : Value → Shared → Prop} {s : Shared} {h₀ : Heap} {L a : Addr} {m : Str → Option Value} {cn : Str} {cs : Scope} {ccd : Value} {cl : List (Str × Addr)} {x : Str} {v : Value} {Q : Value → Shared → Prop} (F : Fr h₀ L s.heap m) (hv : m x = some v) (h : Q v s)
    (hk : cs.kind = .function := by rfl) (hx : (envX cn cs L a ccd cl).kindOf x = some .local := by rfl) : wpAny M A (loadName (envX cn cs L a ccd cl) x) Q E s := wpAny_loadName_local hk hx F.ns hv h
theorem tot_size {I LN : List Int} {X Y : Array UInt8} : (ob (I ++ LN) ++ X ++ Y).size = I.length + LN.length + X.size + Y.size := by
  rw [Array.size_append, Array.size_append, ob_size, List.length_append]
/-- behind the first of the last three tries: odd is v -/
def OddJoin (h₀ : Heap) (L : Addr) (rest : Str → Option Value) (news : List (Addr × Obj)) (v : Int) (s : Shared) (f : Flow) (s' : Shared) : Prop :=
  ∃ (x : Int) (tO : Tok) (h' : Heap) (tk : Nat), f = .next ∧ s' = { s with heap := h', toks := tk } ∧ x = v ∧ Fr h₀ L h' (fun y => if y = Str.ofString "odd" then some (.int x tO) else rest y) ∧ News h₀ L h' news
theorem odd_join {M : Model} {A : Around} {E : Value → Shared → Prop} {t : Sem Flow} {h₀ : Heap} {L : Addr} {rest : Str → Option Value} {news : List (Addr × Obj)} {s : Shared} {Q : Flow → Shared → Prop} (v : Int)
    (_F : Fr h₀ L s.heap rest) (_N : News h₀ L s.heap news) (h1 : wpAny M A t (OddJoin h₀ L rest news v s) E s)
    (h2 : ∀ (tO : Tok) (h' : Heap) (tk : Nat), Fr h₀ L h' (fun y => if y = Str.ofString "odd" then some (.int v tO) else rest y) → News h₀ L h' news → Q .next { s with heap := h', toks := tk }) :
    wpAny M A t Q E s := by
  refine wpAny_mono h1 (fun f s' x => ?_) fun _ _ x => x
  obtain ⟨x, tO, h', tk, rfl, rfl, rfl, F, N⟩ := x
  exact h2 tO h' tk F N
local macro_rules | `(tactic| walk_at "binaryOp Mod str str") => `(tactic| (k_here; (with_reducible show wpAny _ _ (binaryOp Operator.Mod (Value.str _ _) (Value.str _ _)) _ _ _); (first | (refine' MsgS.mod msg_noclass ?hX ?h1 ?_; (case hX => (first | with_reducible rfl | decide +kernel))) | (refine' MsgS.mod msg_nobytes ?hX ?h1 ?_; (case hX => (first | with_reducible rfl | decide +kernel)))); (case h1 => decide +kernel); intro _ _ _))
local macro_rules | `(tactic| walk_at "binaryOp Mod str int") => `(tactic| (k_here; (with_reducible show wpAny _ _ (binaryOp Operator.Mod (Value.str _ _) (Value.int _ _)) _ _ _); (refine' MsgI.mod msg_extra ?hX ?h1 ?h2 (by decide) (by decide) ?_; (case hX => (first | with_reducible rfl | decide +kernel))); (case h1 => omega); (case h2 => omega); intro _ _ _))
local macro_rules | `(tactic| walk_at "loadName") => `(tactic| (k_here; k_dflt (refine' loadX_L ?F ?v ?_ ?a ?b; (case F => k_asm); (case a => rfl); (case b => rfl); (case v => rfl); k_whole)))
local macro_rules | `(tactic| walk_at "exec Try") => `(tactic| ((with_reducible show wpAny _ _ (exec (Stmt.Try _ [ExceptHandler.ExceptHandler (some (Expr.Name ("ValueError" : Str) _)) _ _ _] _ _ _) _) _ _ _); (fail_if_success (with_reducible show wpAny _ _ _ (OddJoin _ _ _ _ _ _) _ _)); refine Halt.mk ?_))
local macro_rules | `(tactic| walk_at "OddJoin") => `(tactic| refine Halt.mk ?_)
local macro_rules | `(tactic| walk_at "exec Return some") => `(tactic| ((with_reducible show wpAny _ _ (exec (Stmt.Return (some (Expr.Compare (Expr.Name ("odd" : Str) _) _ _ _)) _) _) _ _ _); (with_reducible rename (_ ∨ _) => hv); refine Halt.mk ?_))
set_option maxHeartbeats 3000000 in
theorem S7 : S6.1 := by
  (intro zw; revert zw)
  w_on
  w_top on
  k_fill
  intros
  rename_i tn hz1 hz2 dz9 g5 gdl zeros hzz0 hzz1 s1 e1 e2 e3 method hma hmb g3 g4 kind hka hkb g1 g2 hIL Y hY X hX hDs hL1 f1 f2 f3 f4 f5 f6 f7 f8 f9 f10 p0 _ _ _ _ hd2 I9 L9 _ tk h' u c us I r _ _ _ _ _ _ N9 LM p2 p5 LO p3 p4 p6 p7 p8 _ _ _ _ _ _ _ _
  have hT := tot_size (I := idl kind method (tn : Int)) (LN := lenl X.size) (X := X) (Y := Y)
  obtain ⟨v, hv⟩ : ∃ v : Int, (Y.size = 0 ∧ v = 0) ∨ (¬ Y.size = 0 ∧ v = 1) := by
    by_cases hY0 : Y.size = 0
    · exact ⟨0, .inl ⟨hY0, rfl⟩⟩
    · exact ⟨1, .inr ⟨hY0, rfl⟩⟩
  k_steps
  unfold Halt
  rename Fr _ _ _ _ => jF
  rename News _ _ _ _ => jN
  refine odd_join v jF jN ?_ ?_
  · rcases hv with ⟨hY0, rfl⟩ | ⟨hY0, rfl⟩
    · (w_on; w_top on; k_fill; k_steps)
      all_goals
        unfold Halt
        rename Fr _ _ _ _ => eF
        rename News _ _ _ _ => eN
        exact ⟨_, _, _, _, rfl, rfl, rfl, Fr.put eF rfl, cb_drop eN (by kcj_all)⟩
    · (w_on; w_top on; k_fill; k_steps)
      all_goals first
        | (exfalso; omega)
        | (unfold Halt
           rename Fr _ _ _ _ => eF
           rename News _ _ _ _ => eN
           exact ⟨_, _, _, _, rfl, rfl, rfl, eF, cb_drop eN (by kcj_all)⟩)
  · intro tO h' tk F N
    (w_on; w_top on; k_fill; k_steps)
    unfold Halt
    with_reducible rename (_ ∨ _) => hv
    rcases hv with ⟨hY0, rfl⟩ | ⟨hY0, rfl⟩
    · (w_on; w_top on; k_fill; k_steps)
    · (w_on; w_top on; k_fill; k_steps)
end
end
theorem law_holds : PySem.Challenge.rw_jf0003_01.Holds := S1.2 ⟨S2.2 ⟨S3.2 ⟨S4.2 ⟨S5.2 ⟨S6.2 ⟨S7⟩⟩⟩⟩⟩⟩
end J
theorem PySem.Challenge.cw_jf0003_01_holds : PySem.Challenge.rw_jf0003_01.Holds := by
  exact J.law_holds
