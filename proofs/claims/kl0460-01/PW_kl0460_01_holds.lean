import PyProof.Rows.All
import Wide.All
import OpenK.AllK
import Wide.FinOn
import Lean
import PySem.Challenge.RW_kl0460_01
set_option Elab.async false
open PySem PySem.W PyProof.Rows
local macro_rules | `(tactic| walk_at $s:str) => `(tactic| k_extra $s)
section
open PySem PySem.W PyProof.Rows
namespace Mine
set_option maxRecDepth 100000 in
set_option maxHeartbeats 8000000 in
open_top hd for PySem.Challenge.rw_kl0460_01
end Mine
end

section
set_option maxRecDepth 100000
namespace Mine
open PySem PySem.W PySem.Calls PyProof.Rows Builtin
theorem noI_bytes_add : typeLookup (.type "bytes") (dunderI "add") = pure none := by rw [typeLookup_type, builtinLookup_eq_fast]; kernel_rfl

section
variable {prog : Program} {w : World} {A : Around} {E : Value → Shared → Prop} {s : Shared} {b c : Array UInt8} {t u : Tok} {Q : Value → Shared → Prop} {h₀ : Heap} {L : Addr} {m : PySem.Str → Option Value} {news : List (Addr × Obj)}

theorem iadd_bytes (hsz : b.size + c.size ≤ 16777216) (h : ∀ t' k, Q (.bytes (b ++ c) t') { s with toks := k }) : wpAny (model prog w) A (inplaceOp .Add (.bytes b t) (.bytes c u)) Q E s := by
  refine iconcat_gives (typeIs_bytes s b t) (typeIs_bytes s c u) noI_bytes_add KBy.noFill_bytes_add KBy.seq_bytes_add FB.slot_bytes_add FB.entry_bytes_add (FB.args_bytes_add_2 _ _) (KBy.gives_bytes_add (KBy.tooLong_not hsz)) ?_
  by_cases hb : b.isEmpty = true
  · rw [if_pos hb]
    have e : b = #[] := Array.isEmpty_iff.1 hb
    have h' := h u s.toks
    rw [e, Array.empty_append] at h'
    exact h'
  · rw [if_neg hb]
    by_cases hc : c.isEmpty = true
    · rw [if_pos hc]
      have e : c = #[] := Array.isEmpty_iff.1 hc
      have h' := h t s.toks
      rw [e, Array.append_empty] at h'
      exact h'
    · rw [if_neg hc]
      exact ⟨by rw [Array.size_append, sizeLine_eq]; exact hsz, h s.toks (s.toks + 1)⟩

-- a slice of bytes, whatever the bytes are
theorem slice_bytes {value slice : PySem.Expr} {l v : Value} {lo hi : Option Int} (hF : Fr h₀ L s.heap m) (hN : News h₀ L s.heap news) (hl : IsPart l lo) (hu : IsPart v hi) (hz : b.size ≤ 16777216)
    (h : ∀ h' t' k, Fr h₀ L h' m → News h₀ L h' news → Q (.bytes (KBy.picked b lo hi) t') { s with heap := h', toks := k })
    (hs : subscripted slice false (.bytes b t) (.ref s.heap.objs.size) = operate [.ref s.heap.objs.size, .bytes b t] (getItem (.bytes b t) (.ref s.heap.objs.size)) := by with_unfolding_all rfl)
    (ht : ∀ r, letTemporaryGo value (.bytes b t) r = pure () := by intro _; with_unfolding_all rfl) :
    wpAny (model prog w) A (subscriptTail value slice (.bytes b t) (.ref s.heap.objs.size)) Q E { s with heap := s.heap.push { cls := .type "slice", data := .fields #[l, v, .none] } } :=
  KBc.slice_K hF hN rfl hl hu (by rw [KBw.ints_length]; exact hz) (fun h' t' k F N _ => h h' t' k F N) hs ht
end
end Mine
end

section
set_option maxRecDepth 100000
namespace Mine
open PySem PySem.W PySem.Calls PyProof.Rows Builtin
theorem noIndex_bytes : typeLookup (.type "bytes") "__index__" = pure none := by rw [typeLookup_type, builtinLookup_eq_fast]; kernel_rfl
theorem typeName_bytes : typeName (.type "bytes") = pure "bytes" := by
  show Sem.pure _ = Sem.pure _
  kernel_rfl
theorem cut_bytes {M : Model} {A : Around} {E : Value → Shared → Prop} {s : Shared} {x : Array UInt8} {t : Tok} {n : Nat} {Q : String → Shared → Prop} (h : Q "bytes" s) : wpAny M A (typeNameOfCut n (.bytes x t)) Q E s := by
  unfold typeNameOfCut shownTypeOf
  refine wpAny_bind (wpAny_bind (wpAny_typeOf (typeIs_bytes _ x t) ?_))
  simp only [show (Value.type "bytes" == Value.type "builtin_function_or_method") = false by decide, Bool.false_eq_true, if_false]
  refine wpAny_pure ?_
  rw [show typeNameCut n (.type "bytes") = typeName (.type "bytes") from rfl, typeName_bytes]
  exact wpAny_pure h
theorem asIndex_bytes {M : Model} {A : Around} {E : Value → Shared → Prop} {s : Shared} {x : Array UInt8} {t : Tok} {Q : Int → Shared → Prop} (hh : A.handled = none)
    (h : ∀ h' tk e, Heap.NewExc s.heap h' e "TypeError" → E (.ref e) { s with heap := h', toks := tk }) : wpAny M A (asIndex (.bytes x t)) Q E s := by
  unfold asIndex
  refine wpAny_bind (wpAny_of_eq (a := none) rfl ?_)
  refine wpAny_bind (wpAny_callSpecial?_none (T := "bytes") rfl noIndex_bytes ?_)
  refine wpAny_bind (cut_bytes ?_)
  exact wpAny_raiseErrorMade plainExc_TypeError hh h
theorem meets_bytes_contains (b c : Array UInt8) (t u : Tok) : Meets («bytes.__contains__» ⟨[.bytes b t, .bytes c u], []⟩)
    (fun A R s => A.handled = none ∧ ∀ h' tk, (∀ a o, s.heap.get? a = some o → h'.get? a = some o) → R (.ok (.ret (.bool (Bytes.find? b c 0 b.size).isSome))) { s with heap := h', toks := tk }) := by
  refine .of_wp fun prog w A R s hS => ?_
  obtain ⟨hh, h⟩ := hS
  show wpAny _ _ (Bytes.containsIn "bytes.__contains__" (.bytes b t) (.bytes c u) >>= fun r => _) _ _ s
  refine wpAny_bind ?_
  unfold Bytes.containsIn
  refine wpAny_bind (wpAny_attempt ?_)
  refine asIndex_bytes (by exact hh) fun h' tk e hx => ?_
  refine wpAny_bind (wpAny_of_eq KBy.buffer_eq ?_)
  dsimp only
  refine wpAny_bind (wpAny_of_eq KBy.buffer_eq ?_)
  dsimp only
  refine wpAny_bind (wpAny_rule ?_)
  refine wpAny_pure ?_
  exact wpAny_pure ⟨_, rfl, h h' tk hx.keeps⟩
section
variable {prog : Program} {w : World} {A : Around} {E : Value → Shared → Prop} {s : Shared} {b c : Array UInt8} {t u : Tok} {Q : Value → Shared → Prop} {h₀ : Heap} {L : Addr} {m : PySem.Str → Option Value} {news : List (Addr × Obj)}
theorem in_bytes (hh : A.handled = none) (F : Fr h₀ L s.heap m) (N : News h₀ L s.heap news)
    (h : ∀ h' tk, Fr h₀ L h' m → News h₀ L h' news → Q (.bool (Bytes.find? b c 0 b.size).isSome) { s with heap := h', toks := tk }) :
    wpAny (model prog w) A (compareOp .In (.bytes c u) (.bytes b t)) Q E s := by
  show wpAny _ _ (do return .bool (← contains (.bytes b t) (.bytes c u))) Q E s
  refine wpAny_bind (wpAny_contains_slot (typeIs_bytes s b t) FB.slot_bytes_contains ?_)
  refine call_meets FB.slot_bytes_contains (typeIs_bytes s b t) FB.entry_bytes_contains (FB.args_bytes_contains_2 _ _) (meets_bytes_contains b c t u) ⟨hh, fun h' tk hk => ?_⟩
  exact wpAny_pure (wpAny_pure (h h' tk (F.keptAll hk) (N.grown hk)))
end
end Mine
end

section
set_option maxRecDepth 100000
namespace Mine
open PySem PySem.W PySem.Calls PyProof.Rows Builtin
theorem slot_rfind : Slot "bytes" "rfind" "bytes.rfind" :=
  .of (owner := "bytes") (n := "rfind") (by rw [typeLookup_type, builtinLookup_eq_fast]; kernel_rfl) (by decide +kernel) (by decide +kernel) (by decide +kernel)
    (by first | exact .inl (by decide +kernel) | exact .inr (by decide +kernel)) (by rw [isSubtype_type]; kernel_rfl)
theorem type_rfind : typeOf (.builtin "bytes.rfind") = pure (.type "method_descriptor") := by show builtinType _ = _; rw [builtinType_eq_fast]; kernel_rfl
theorem entry_rfind : entryFor table "bytes.rfind" = some Builtin.«bytes.rfind» := entryFor_of_tree (by kernel_rfl)
theorem args_rfind (a b : Value) : argsOk "bytes.rfind" ⟨[a, b], []⟩ := by
  unfold argsOk; rw [signature?_of (id := "bytes.rfind") (n := ['d', 'n', 'i', 'f', 'r']) (o := ['s', 'e', 't', 'y', 'b']) (by kernel_rfl) FB.owner_bytes]; kernel_rfl
def rfindI (b c : Array UInt8) : Int := match Bytes.rfind? b c 0 b.size with
  | some i => (i : Int)
  | none => -1
theorem rfind_short {b c : Array UInt8} (h : b.size < c.size) : Bytes.rfind? b c 0 b.size = none := by
  unfold Bytes.rfind?
  have e : b.size + 1 - (0 + c.size) = 0 := by omega
  rw [e]
  rfl
theorem meets_rfind (b c : Array UInt8) (t u : Tok) : Meets («bytes.rfind» ⟨[.bytes b t, .bytes c u], []⟩) (fun _ R s => ∀ t' k, R (.ok (.ret (.int (rfindI b c) t'))) { s with toks := k }) := by
  refine .of_wp fun prog w A R s h => ?_
  unfold Builtin.«bytes.rfind» Bytes.searchM
  refine wpAny_bind ?_
  unfold Bytes.searchArgs
  refine wpAny_bind (wpAny_of_eq (a := (Value.bytes b t, [Value.bytes c u])) rfl ?_)
  dsimp only
  refine wpAny_bind (wpAny_of_eq (a := none) rfl ?_)
  refine wpAny_bind (wpAny_of_eq (a := none) rfl ?_)
  refine wpAny_bind (wpAny_of_eq KBy.buffer_eq ?_)
  dsimp only
  refine wpAny_bind (wpAny_pure ?_)
  refine wpAny_bind (wpAny_of_eq (a := b) rfl ?_)
  refine wpAny_pure ?_
  have ew : Bytes.window b.size none none = (0, (b.size : Int)) := by
    unfold Bytes.window
    have hn : ¬ ((b.size : Int) < 0) := by omega
    simp [hn]
  rw [ew]
  dsimp only
  by_cases hs : (b.size : Int) - 0 < c.size
  · rw [if_pos hs]
    have hn := rfind_short (b := b) (c := c) (by omega)
    simp only [Option.bind_none]
    refine wpAny_bind (wpAny_rule ?_)
    simp only [Bool.false_eq_true, if_false]
    refine wpAny_bind (wpAny_mkInt (wpAny_pure ⟨_, rfl, ?_⟩))
    have h' := h s.toks (s.toks + 1)
    unfold rfindI at h'
    rw [hn] at h'
    exact h'
  · rw [if_neg hs]
    simp only [Option.bind_some, if_true, Int.toNat_zero, Int.toNat_natCast]
    unfold rfindI at h
    cases hr : Bytes.rfind? b c 0 b.size with
    | none =>
      rw [hr] at h
      refine wpAny_bind (wpAny_rule ?_)
      simp only [Bool.false_eq_true, if_false]
      exact wpAny_bind (wpAny_mkInt (wpAny_pure ⟨_, rfl, h s.toks (s.toks + 1)⟩))
    | some i =>
      rw [hr] at h
      exact wpAny_bind (wpAny_mkInt (wpAny_pure ⟨_, rfl, h s.toks (s.toks + 1)⟩))
section
variable {prog : Program} {w : World} {A : Around} {E : Value → Shared → Prop} {s : Shared} {b c : Array UInt8} {t u : Tok} {Q : Value → Shared → Prop}
theorem call_rfind (h : ∀ t' k, Q (.int (rfindI b c) t') { s with toks := k }) : wpAny (model prog w) A (call (.builtin "bytes.rfind") [.bytes b t, .bytes c u]) Q E s :=
  call_meets slot_rfind (typeIs_bytes _ _ _) entry_rfind (args_rfind _ _) (meets_rfind b c t u) h
theorem meth_rfind {M : Model} {pl : Sem Bool} {Q : Value × List Value → Shared → Prop} (h : Q (.builtin "bytes.rfind", [.bytes b t]) s) : wpAny M A (getMethod (.bytes b t) "rfind" pl) Q E s := by
  with_reducible exact KBd.method_of (.bytes b t) (typeIs_bytes _ _ _) slot_rfind type_rfind KBd.noRef h
end
end Mine
end

section
set_option maxRecDepth 100000
namespace Mine
open PySem PySem.W PySem.Calls PyProof.Rows Builtin
theorem kind_unpack : builtinKind "_struct.unpack" = none := by kernel_rfl
theorem plain_unpack : plainId "_struct.unpack" = true := by decide +kernel
theorem entry_unpack : entryFor table "_struct.unpack" = some Builtin.«_struct.unpack» := entryFor_of_tree (by kernel_rfl)
theorem args_unpack (a b : Value) : argsOk "_struct.unpack" ⟨[a, b], []⟩ := by unfold argsOk; kernel_rfl

def fmtA : Struct.Format := { bigEndian := false, native := false, codes := [⟨'s', 4, 0, 1⟩, ⟨'H', 4, 4, 2⟩, ⟨'L', 2, 12, 4⟩, ⟨'H', 1, 20, 2⟩], size := 22, items := 8 }
def fmtB : Struct.Format := { bigEndian := false, native := false, codes := [⟨'s', 4, 0, 1⟩, ⟨'L', 1, 4, 4⟩, ⟨'Q', 1, 8, 8⟩, ⟨'L', 1, 16, 4⟩], size := 20, items := 4 }
theorem parse_A : Struct.parse #[60, 52, 115, 52, 72, 50, 76, 72] = pure fmtA := by
  show _ = Sem.pure _
  kernel_rfl
theorem parse_B : Struct.parse #[60, 52, 115, 76, 81, 76] = pure fmtB := by
  show _ = Sem.pure _
  kernel_rfl
theorem fb_A (t : Tok) : Struct.formatBytes (.bytes #[60, 52, 115, 52, 72, 50, 76, 72] t) = pure #[60, 52, 115, 52, 72, 50, 76, 72] := by
  unfold Struct.formatBytes
  rw [KBy.isInstance_eq]
  show _ = Sem.pure _
  kernel_rfl
theorem mf_A (t : Tok) : Struct.moduleFormat (.bytes #[60, 52, 115, 52, 72, 50, 76, 72] t) = pure fmtA := by
  unfold Struct.moduleFormat
  rw [fb_A, ← parse_A]
  kernel_rfl
theorem fb_B (t : Tok) : Struct.formatBytes (.str "<4sLQL" t) = pure #[60, 52, 115, 76, 81, 76] := by
  unfold Struct.formatBytes
  show _ = Sem.pure _
  kernel_rfl
theorem mf_B (t : Tok) : Struct.moduleFormat (.str "<4sLQL" t) = pure fmtB := by
  unfold Struct.moduleFormat
  rw [fb_B, ← parse_B]
  kernel_rfl

-- what unpack makes of 22 octets by the first format: the first four, and seven ints
def RecOf (b : Array UInt8) (vs : List Value) : Prop :=
  ∃ (t0 t1 t2 t3 t4 t5 t6 t7 : Tok) (n1 n2 n3 n4 n5 n6 n7 : Nat), vs = [.bytes (b.extract 0 4) t0, .int n1 t1, .int n2 t2, .int n3 t3, .int n4 t4, .int n5 t5, .int n6 t6, .int n7 t7]
def LocOf (b : Array UInt8) (vs : List Value) : Prop :=
  ∃ (t0 t1 t2 t3 : Tok) (n1 n2 n3 : Nat), vs = [.bytes (b.extract 0 4) t0, .int n1 t1, .int n2 t2, .int n3 t3]

theorem wp_tuple_new {M : Model} {A : Around} {E : Value → Shared → Prop} {s : Shared} {vs : List Value} {Q : Value → Shared → Prop} (hz : vs.length ≤ 100)
    (h : Q (.ref s.heap.objs.size) { s with heap := s.heap.push { cls := .type "tuple", data := .seq vs.toArray } }) : wpAny M A (newTuple vs) Q E s := by
  unfold newTuple
  exact wpAny_newObj_type h (by show vs.toArray.size ≤ sizeLine; rw [List.size_toArray, sizeLine_eq]; omega)
theorem list22 : ∀ l : List UInt8, l.length = 22 → ∃ c0 c1 c2 c3 c4 c5 c6 c7 c8 c9 c10 c11 c12 c13 c14 c15 c16 c17 c18 c19 c20 c21, l = [c0, c1, c2, c3, c4, c5, c6, c7, c8, c9, c10, c11, c12, c13, c14, c15, c16, c17, c18, c19, c20, c21]
  | [c0, c1, c2, c3, c4, c5, c6, c7, c8, c9, c10, c11, c12, c13, c14, c15, c16, c17, c18, c19, c20, c21], _ => ⟨c0, c1, c2, c3, c4, c5, c6, c7, c8, c9, c10, c11, c12, c13, c14, c15, c16, c17, c18, c19, c20, c21, rfl⟩
theorem list20 : ∀ l : List UInt8, l.length = 20 → ∃ c0 c1 c2 c3 c4 c5 c6 c7 c8 c9 c10 c11 c12 c13 c14 c15 c16 c17 c18 c19, l = [c0, c1, c2, c3, c4, c5, c6, c7, c8, c9, c10, c11, c12, c13, c14, c15, c16, c17, c18, c19]
  | [c0, c1, c2, c3, c4, c5, c6, c7, c8, c9, c10, c11, c12, c13, c14, c15, c16, c17, c18, c19], _ => ⟨c0, c1, c2, c3, c4, c5, c6, c7, c8, c9, c10, c11, c12, c13, c14, c15, c16, c17, c18, c19, rfl⟩
theorem unpacked_A_eq (c0 c1 c2 c3 c4 c5 c6 c7 c8 c9 c10 c11 c12 c13 c14 c15 c16 c17 c18 c19 c20 c21 : UInt8) : Struct.unpacked "_struct.unpack" fmtA #[c0, c1, c2, c3, c4, c5, c6, c7, c8, c9, c10, c11, c12, c13, c14, c15, c16, c17, c18, c19, c20, c21] 0 = Sem.bind (mkBytes (Array.extract #[c0, c1, c2, c3, c4, c5, c6, c7, c8, c9, c10, c11, c12, c13, c14, c15, c16, c17, c18, c19, c20, c21] 0 4)) fun v0 => Sem.bind (mkInt (Struct.natOf false (Array.extract #[c0, c1, c2, c3, c4, c5, c6, c7, c8, c9, c10, c11, c12, c13, c14, c15, c16, c17, c18, c19, c20, c21] 4 6) : Nat)) fun v1 =>
    Sem.bind (mkInt (Struct.natOf false (Array.extract #[c0, c1, c2, c3, c4, c5, c6, c7, c8, c9, c10, c11, c12, c13, c14, c15, c16, c17, c18, c19, c20, c21] 6 8) : Nat)) fun v2 => Sem.bind (mkInt (Struct.natOf false (Array.extract #[c0, c1, c2, c3, c4, c5, c6, c7, c8, c9, c10, c11, c12, c13, c14, c15, c16, c17, c18, c19, c20, c21] 8 10) : Nat)) fun v3 => Sem.bind (mkInt (Struct.natOf false (Array.extract #[c0, c1, c2, c3, c4, c5, c6, c7, c8, c9, c10, c11, c12, c13, c14, c15, c16, c17, c18, c19, c20, c21] 10 12) : Nat)) fun v4 =>
    Sem.bind (mkInt (Struct.natOf false (Array.extract #[c0, c1, c2, c3, c4, c5, c6, c7, c8, c9, c10, c11, c12, c13, c14, c15, c16, c17, c18, c19, c20, c21] 12 16) : Nat)) fun v5 => Sem.bind (mkInt (Struct.natOf false (Array.extract #[c0, c1, c2, c3, c4, c5, c6, c7, c8, c9, c10, c11, c12, c13, c14, c15, c16, c17, c18, c19, c20, c21] 16 20) : Nat)) fun v6 => Sem.bind (mkInt (Struct.natOf false (Array.extract #[c0, c1, c2, c3, c4, c5, c6, c7, c8, c9, c10, c11, c12, c13, c14, c15, c16, c17, c18, c19, c20, c21] 20 22) : Nat)) fun v7 =>
    newTuple [v0, v1, v2, v3, v4, v5, v6, v7] := by
  kernel_rfl
theorem unpacked_B_eq (c0 c1 c2 c3 c4 c5 c6 c7 c8 c9 c10 c11 c12 c13 c14 c15 c16 c17 c18 c19 : UInt8) : Struct.unpacked "_struct.unpack" fmtB #[c0, c1, c2, c3, c4, c5, c6, c7, c8, c9, c10, c11, c12, c13, c14, c15, c16, c17, c18, c19] 0 = Sem.bind (mkBytes (Array.extract #[c0, c1, c2, c3, c4, c5, c6, c7, c8, c9, c10, c11, c12, c13, c14, c15, c16, c17, c18, c19] 0 4)) fun v0 => Sem.bind (mkInt (Struct.natOf false (Array.extract #[c0, c1, c2, c3, c4, c5, c6, c7, c8, c9, c10, c11, c12, c13, c14, c15, c16, c17, c18, c19] 4 8) : Nat)) fun v1 =>
    Sem.bind (mkInt (Struct.natOf false (Array.extract #[c0, c1, c2, c3, c4, c5, c6, c7, c8, c9, c10, c11, c12, c13, c14, c15, c16, c17, c18, c19] 8 16) : Nat)) fun v2 => Sem.bind (mkInt (Struct.natOf false (Array.extract #[c0, c1, c2, c3, c4, c5, c6, c7, c8, c9, c10, c11, c12, c13, c14, c15, c16, c17, c18, c19] 16 20) : Nat)) fun v3 =>
    newTuple [v0, v1, v2, v3] := by
  kernel_rfl

theorem mkBytes_small {M : Model} {A : Around} {E : Value → Shared → Prop} {s : Shared} {b : Array UInt8} {lo hi : Nat} {Q : Value → Shared → Prop} (hz : b.size ≤ 1000) (h : ∀ t k, Q (.bytes (b.extract lo hi) t) { s with toks := k }) : wpAny M A (mkBytes (b.extract lo hi)) Q E s :=
  wpAny_mkBytes (h _ _) (by rw [sizeLine_eq, Array.size_extract]; omega)
theorem wp_fields {M : Model} {A : Around} {E : Value → Shared → Prop} {s : Shared} {i : Int} {Q : Value → Shared → Prop} (h : ∀ t k, Q (.int i t) { s with toks := k }) : wpAny M A (mkInt i) Q E s := wpAny_mkInt (h _ _)
theorem unpacked_A {M : Model} {A : Around} {E : Value → Shared → Prop} {s : Shared} {b : Array UInt8} {Q : Value → Shared → Prop} (hz : b.size = 22)
    (h : ∀ vs tk, RecOf b vs → Q (.ref s.heap.objs.size) { s with heap := s.heap.push { cls := .type "tuple", data := .seq vs.toArray }, toks := tk }) : wpAny M A (Struct.unpacked "_struct.unpack" fmtA b 0) Q E s := by
  obtain ⟨l⟩ := b
  have hl : l.length = 22 := hz
  obtain ⟨c0, c1, c2, c3, c4, c5, c6, c7, c8, c9, c10, c11, c12, c13, c14, c15, c16, c17, c18, c19, c20, c21, e⟩ := list22 l hl
  have hz' : (Array.mk l).size ≤ 1000 := by rw [hz]; decide
  have e2 := unpacked_A_eq c0 c1 c2 c3 c4 c5 c6 c7 c8 c9 c10 c11 c12 c13 c14 c15 c16 c17 c18 c19 c20 c21
  rw [show (#[c0, c1, c2, c3, c4, c5, c6, c7, c8, c9, c10, c11, c12, c13, c14, c15, c16, c17, c18, c19, c20, c21] : Array UInt8) = Array.mk l from by rw [e]] at e2
  rw [e2]
  refine wpAny_bind (mkBytes_small hz' fun t0 k0 => ?_)
  refine wpAny_bind (wp_fields fun t1 k1 => ?_)
  refine wpAny_bind (wp_fields fun t2 k2 => ?_)
  refine wpAny_bind (wp_fields fun t3 k3 => ?_)
  refine wpAny_bind (wp_fields fun t4 k4 => ?_)
  refine wpAny_bind (wp_fields fun t5 k5 => ?_)
  refine wpAny_bind (wp_fields fun t6 k6 => ?_)
  refine wpAny_bind (wp_fields fun t7 k7 => ?_)
  exact wp_tuple_new (by simp) (h _ _ ⟨t0, t1, t2, t3, t4, t5, t6, t7, _, _, _, _, _, _, _, rfl⟩)
theorem unpacked_B {M : Model} {A : Around} {E : Value → Shared → Prop} {s : Shared} {b : Array UInt8} {Q : Value → Shared → Prop} (hz : b.size = 20)
    (h : ∀ vs tk, LocOf b vs → Q (.ref s.heap.objs.size) { s with heap := s.heap.push { cls := .type "tuple", data := .seq vs.toArray }, toks := tk }) : wpAny M A (Struct.unpacked "_struct.unpack" fmtB b 0) Q E s := by
  obtain ⟨l⟩ := b
  have hl : l.length = 20 := hz
  obtain ⟨c0, c1, c2, c3, c4, c5, c6, c7, c8, c9, c10, c11, c12, c13, c14, c15, c16, c17, c18, c19, e⟩ := list20 l hl
  have hz' : (Array.mk l).size ≤ 1000 := by rw [hz]; decide
  have e2 := unpacked_B_eq c0 c1 c2 c3 c4 c5 c6 c7 c8 c9 c10 c11 c12 c13 c14 c15 c16 c17 c18 c19
  rw [show (#[c0, c1, c2, c3, c4, c5, c6, c7, c8, c9, c10, c11, c12, c13, c14, c15, c16, c17, c18, c19] : Array UInt8) = Array.mk l from by rw [e]] at e2
  rw [e2]
  refine wpAny_bind (mkBytes_small hz' fun t0 k0 => ?_)
  refine wpAny_bind (wp_fields fun t1 k1 => ?_)
  refine wpAny_bind (wp_fields fun t2 k2 => ?_)
  refine wpAny_bind (wp_fields fun t3 k3 => ?_)
  exact wp_tuple_new (by simp) (h _ _ ⟨t0, t1, t2, t3, _, _, _, rfl⟩)
section
variable {prog : Program} {w : World} {A : Around} {E : Value → Shared → Prop} {s : Shared} {b : Array UInt8} {t u : Tok} {Q : Value → Shared → Prop} {h₀ : Heap} {L : Addr} {m : PySem.Str → Option Value} {news : List (Addr × Obj)}
theorem call_unpack_A (F : Fr h₀ L s.heap m) (N : News h₀ L s.heap news) (hz : b.size = 22)
    (h : ∀ q vs h' tk, RecOf b vs → Fr h₀ L h' m → News h₀ L h' ((q, { cls := .type "tuple", data := .seq vs.toArray }) :: news) → (∀ p ∈ news, p.1 < q) → Q (.ref q) { s with heap := h', toks := tk }) :
    wpAny (model prog w) A (call (.builtin "_struct.unpack") [.bytes #[60, 52, 115, 52, 72, 50, 76, 72] t, .bytes b u]) Q E s := by
  refine Calls.call_function_entry kind_unpack plain_unpack entry_unpack (args_unpack _ _) ?_
  unfold Builtin.«_struct.unpack»
  refine wpAny_bind (wpAny_of_eq (a := ()) rfl ?_)
  refine wpAny_bind (wpAny_of_eq (a := ()) rfl ?_)
  refine wpAny_bind (wpAny_of_eq (mf_A t) ?_)
  unfold Struct.unpackExact
  refine wpAny_bind (wpAny_of_eq KBd.like_eq ?_)
  refine wpAny_bind (wpAny_pure ?_)
  rw [if_neg (by rw [hz]; decide)]
  refine wpAny_bind (unpacked_A hz fun vs tk hv => ?_)
  exact wpAny_pure ⟨_, rfl, h _ vs _ tk hv (F.push _) (N.push F _) fun p hp => Heap.lt_size (N p hp).1⟩
theorem call_unpack_B (F : Fr h₀ L s.heap m) (N : News h₀ L s.heap news) (hz : b.size = 20)
    (h : ∀ q vs h' tk, LocOf b vs → Fr h₀ L h' m → News h₀ L h' ((q, { cls := .type "tuple", data := .seq vs.toArray }) :: news) → (∀ p ∈ news, p.1 < q) → Q (.ref q) { s with heap := h', toks := tk }) :
    wpAny (model prog w) A (call (.builtin "_struct.unpack") [.str "<4sLQL" t, .bytes b u]) Q E s := by
  refine Calls.call_function_entry kind_unpack plain_unpack entry_unpack (args_unpack _ _) ?_
  unfold Builtin.«_struct.unpack»
  refine wpAny_bind (wpAny_of_eq (a := ()) rfl ?_)
  refine wpAny_bind (wpAny_of_eq (a := ()) rfl ?_)
  refine wpAny_bind (wpAny_of_eq (mf_B t) ?_)
  unfold Struct.unpackExact
  refine wpAny_bind (wpAny_of_eq KBd.like_eq ?_)
  refine wpAny_bind (wpAny_pure ?_)
  rw [if_neg (by rw [hz]; decide)]
  refine wpAny_bind (unpacked_B hz fun vs tk hv => ?_)
  exact wpAny_pure ⟨_, rfl, h _ vs _ tk hv (F.push _) (N.push F _) fun p hp => Heap.lt_size (N p hp).1⟩
end
end Mine
end

section
open PySem PySem.W PyProof.Rows
namespace Mine
abbrev PG : Program := Challenge.rw_kl0460_01.row.prog
def PureC (w : World) (f : Addr) (vs : List Value) (Post : Value → Prop) : Prop :=
  ∀ (p : Program) (loose : List Str) (mean : ExcName → Option Value) (mg mb : Str → Option Value) (dp un : Nat) (gd : Option (List Code)) (cn : Str) (cs : Scope) (a : Addr) (ccd : Value) (cl : List (Str × Addr)) (outer : List Env) (A₀ : Around) (base h₀ : Heap) (L : Addr) (m : Str → Option Value) (news : List (Addr × Obj)) (s : Shared) (Q E : Value → Shared → Prop),
    Below A₀ base outer h₀ → Fr h₀ L s.heap m → (Mine.hd.heap_39 w.params).In h₀ → News h₀ L s.heap news → Top p loose mean mg mb h₀ → cs.kind = .function → dp + 20 < recursionLimit → un + 400 < cLine →
    (∀ v h' tk', Post v → Fr h₀ L h' m → News h₀ L h' news → Q v { s with heap := h', toks := tk' }) →
    wpAny (model Challenge.rw_kl0460_01.row.prog w) (ktrTop dp un gd cn cs L a ccd cl outer) (call (.ref f) vs) Q E s
end Mine
end

section
open PySem PySem.W PySem.Calls PyProof.Rows PySem.Spec
namespace Mine
section
variable {l : List (Addr × Obj)} {a d : Addr}
theorem ne_lt (h : ∀ p ∈ l, p.1 < d) : ∀ p ∈ l, p.1 ≠ d := fun p hp => Nat.ne_of_lt (h p hp)
theorem ne_up (h : ∀ p ∈ l, p.1 < a) (e : a ≤ d) : ∀ p ∈ l, p.1 ≠ d := fun p hp => Nat.ne_of_lt (Nat.lt_of_lt_of_le (h p hp) e)
theorem ne_all (h : AllLt d l) : ∀ p ∈ l, p.1 ≠ d := ne_lt (ktn_ltOf h)
theorem ne_all1 (h : AllLt a l) : ∀ p ∈ l, p.1 ≠ a + 1 := ne_up (ktn_ltOf h) (Nat.le_add_right a 1)
theorem ne_all2 (h : AllLt a l) : ∀ p ∈ l, p.1 ≠ a + 1 + 1 := ne_up (ktn_ltOf h) (Nat.le_add_right a 2)
theorem ne_all3 (h : AllLt a l) : ∀ p ∈ l, p.1 ≠ a + 1 + 1 + 1 := ne_up (ktn_ltOf h) (Nat.le_add_right a 3)
theorem ne_all4 (h : AllLt a l) : ∀ p ∈ l, p.1 ≠ a + 1 + 1 + 1 + 1 := ne_up (ktn_ltOf h) (Nat.le_add_right a 4)
theorem ne_all5 (h : AllLt a l) : ∀ p ∈ l, p.1 ≠ a + 1 + 1 + 1 + 1 + 1 := ne_up (ktn_ltOf h) (Nat.le_add_right a 5)
end
-- a name that stands in a cell of the ledger's tail
theorem free_rest {M : Model} {A : Around} {E : Value → Shared → Prop} {s : Shared} {h₀ : Heap} {L a : Addr} {cn : Str} {cs : Scope} {ccd : Value} {cl : List (Str × Addr)} {x : Str} {pos : Pos} {v : Value} {Q : Value → Shared → Prop} {p1 p2 : Addr × Obj} {rest : List (Addr × Obj)} {c : Addr} {o : Obj}
    (N : News h₀ L s.heap (p1 :: p2 :: rest)) (hc : cl.lookup x = some c) (hm : (c, o) ∈ rest) (hd : o.data = .cell (some v)) (h : Q v s)
    (hk : cs.kind = .function := by rfl) (hx : (envX cn cs L a ccd cl).kindOf x = some .free := by rfl) (hb : (x == ("__debug__" : Str)) = false := by decide) (hn : (x == ("__classdict__" : Str)) = false := by decide) :
    wpAny M A (eval (.Name x pos) (envX cn cs L a ccd cl)) Q E s := nameX_F N hc (List.mem_cons_of_mem _ (List.mem_cons_of_mem _ hm)) hd h hk hx hb hn
end Mine
end

section
set_option maxRecDepth 100000
namespace Mine
open PySem PySem.W PySem.Calls PyProof.Rows PySem.Spec

theorem fmem {env : Env} {outer : List Env} {L b : Addr} (hf : env.frame = some L) (hm : b ∈ (env :: outer).filterMap (·.frame)) : b = L ∨ b ∈ outer.filterMap (·.frame) := by
  obtain ⟨x, he, hx⟩ := List.mem_filterMap.mp hm
  rcases List.mem_cons.mp he with rfl | he
  · exact .inl (Option.some.inj (hf.symm.trans hx)).symm
  · exact .inr (List.mem_filterMap.mpr ⟨x, he, hx⟩)

def Part (base G : Heap) (l : List Env) (news : List (Addr × Obj)) (B : Heap) : Prop :=
  base.StaysIn B ∧ (∀ b o, G.get? b = some o → b ∉ l.filterMap (·.frame) → B.get? b = some o) ∧ ∀ q ∈ news, B.get? q.1 = some q.2 ∧ G.get? q.1 = none ∧ base.get? q.1 = none
def Flew (base G : Heap) (l : List Env) (e : Addr) (cls a0 : Value) (news : List (Addr × Obj)) (h : Heap) : Prop := ∃ B, Part base G l news B ∧ Heap.FlyingW B l e cls a0 h
def FlewH (base G : Heap) (l : List Env) (e : Addr) (cls a0 : Value) (L : Addr) (news : List (Addr × Obj)) (h : Heap) : Prop := ∃ B, Part base G l news B ∧ Heap.HeldW B l e cls a0 L h

theorem Part.step {base g g₂ B : Heap} {env : Env} {outer : List Env} {L : Addr} {m : Str → Option Value} {news : List (Addr × Obj)} (hf : env.frame = some L) (F : Fr g L g₂ m) (P : Part base g₂ (env :: outer) news B) : Part base g outer news B :=
  ⟨P.1, fun b o q nm => P.2.1 b o (F.keep b o q) fun hm => by
    rcases fmem hf hm with z | z
    · rw [z, kts_self F] at q
      cases q
    · exact nm z, fun q hq => ⟨(P.2.2 q hq).1, kts_none F.keep (P.2.2 q hq).2.1, (P.2.2 q hq).2.2⟩⟩

section
variable {M : Model} {A : Around} {E : Value → Shared → Prop} {s' : Shared} {base g g₂ h : Heap} {outer : List Env} {env : Env} {L e : Addr} {cls a0 : Value} {m : Str → Option Value} {Q : Unit → Shared → Prop} {news news' : List (Addr × Obj)}

theorem flew_on (K : Below A base outer g) (F : Fr g L g₂ m) (hf : env.frame = some L) (R : Flew base g₂ (env :: outer) e cls a0 news s'.heap) (hsm : g₂.UpToSlots s'.heap)
    (hQ : ∀ h', Flew base g outer e cls a0 news h' → g.UpToSlots h' → Q () { s' with heap := h' }) : wpAny M (A.deeper env) (leaving env (.ref e)) Q E s' := by
  obtain ⟨B, P, hfl⟩ := R
  exact wpAny_leaves_onW (Around.frames_deeper K.stack) hf hfl fun h' x1 x2 => hQ h' ⟨B, P.step hf F, x1⟩ ((Heap.UpToSlots.of_keeps F.keep).trans (hsm.trans x2))

theorem flewH_on (K : Below A base outer g) (F : Fr g L g₂ m) (hf : env.frame = some L) (R : FlewH base g₂ (env :: outer) e cls a0 L news s'.heap) (hsm : g₂.UpToSlots s'.heap)
    (hQ : ∀ h', Flew base g outer e cls a0 news h' → g.UpToSlots h' → Q () { s' with heap := h' }) : wpAny M (A.deeper env) (leaving env (.ref e)) Q E s' := by
  obtain ⟨B, P, hfl⟩ := R
  unfold leaving
  refine wpAny_bind (wpAny_noteFrame_againW hf hfl.2.2.2 ?_)
  refine wpAny_landsW hfl fun h' x1 x2 => ?_
  obtain ⟨k1, k2, ⟨_, _, k3⟩, k4⟩ := x1
  exact hQ h' ⟨B, P.step hf F, k1, k2, k3, k4⟩ ((Heap.UpToSlots.of_keeps F.keep).trans (hsm.trans x2))

theorem flew_raise {oe : Obj} {vs : Array Value} (K : Below A base outer g) (F : Fr g L s'.heap m) (N : News g L s'.heap news) (hf : env.frame = some L) (hk : env.scope.kind = .function) (he : (e, oe) ∈ news) (hd : oe.data = .fields vs)
    (h1 : vs[1]? = some .none) (h0 : vs[0]? = some a0) (hc : oe.cls = cls) (sub : ∀ q ∈ news', q ∈ news ∧ q.1 ≠ e)
    (hQ : ∀ h', Flew base g outer e cls a0 news' h' → g.UpToSlots h' → Q () { s' with heap := h' }) : wpAny M (A.deeper env) (leaving env (.ref e)) Q E s' := by
  have K' := pushX K F hf hk
  have hin : ∀ x ∈ (env :: outer), ∀ b, x.frame = some b → b ∈ e :: (env :: outer).filterMap (·.frame) := fun x hx b hb => List.mem_cons_of_mem _ (List.mem_filterMap.mpr ⟨x, hx, hb⟩)
  have ne := N _ he
  have hen : base.get? e = none := fresh_of_stays K.stays ne.2.2
  have st : base.StaysIn (hideAll s'.heap (e :: (env :: outer).filterMap (·.frame))) := fun b o q => hideAll_get _ (K'.stays b o q) fun hm => by
    rcases List.mem_cons.mp hm with z | hm
    · rw [z, hen] at q; cases q
    · rw [(K'.frames.mem hm).1] at q; cases q
  have sg : ∀ b o, g.get? b = some o → b ∉ outer.filterMap (·.frame) → (hideAll s'.heap (e :: (env :: outer).filterMap (·.frame))).get? b = some o := fun b o q nm => hideAll_get _ (F.keep b o q) fun hm => by
    rcases List.mem_cons.mp hm with z | hm
    · rw [z, ne.2.2] at q; cases q
    · rcases fmem hf hm with z | z
      · rw [z, kts_self F] at q
        cases q
      · exact nm z
  have hl : ∀ q ∈ news', (hideAll s'.heap (e :: (env :: outer).filterMap (·.frame))).get? q.1 = some q.2 ∧ g.get? q.1 = none ∧ base.get? q.1 = none := fun q hq => by
    obtain ⟨hq, hqe⟩ := sub q hq
    refine ⟨hideAll_get _ (N q hq).1 fun hm => ?_, (N q hq).2.2, fresh_of_stays K.stays (N q hq).2.2⟩
    rcases List.mem_cons.mp hm with z | hm
    · exact hqe z
    · rcases fmem hf hm with z | z
      · exact (N q hq).2.1 z
      · obtain ⟨o, ho, _⟩ := (K.frames.mem z).2
        rw [(N q hq).2.2] at ho; cases ho
  refine wpAny_leaving_firstW (base := hideAll s'.heap (e :: (env :: outer).filterMap (·.frame))) (a0 := a0) K'.stack (funFrames_hide K'.frames hin) hf ne.1 (fun b o q => of_hideAll _ q) (hideAll_none _ (List.mem_cons_self ..)) hd h1 h0 fun h' hL => ?_
  obtain ⟨k1, ⟨_, _, k2⟩, k3, k4⟩ := hL
  exact hQ h' ⟨_, ⟨st, sg, hl⟩, k1, hideAll_none _ (List.mem_cons_self ..), k2, by rw [← hc]; exact k3⟩ ((Heap.UpToSlots.of_keeps F.keep).trans k4)
end
end Mine
end

section
set_option maxRecDepth 100000
namespace Mine
open PySem PySem.W PySem.Calls PyProof.Rows PySem.Spec

theorem flyingW_keeps {B h h' : Heap} {l : List Env} {e : Addr} {cls a0 : Value} (R : Heap.FlyingW B l e cls a0 h) (hk : ∀ b o, h.get? b = some o → h'.get? b = some o) : Heap.FlyingW B l e cls a0 h' := by
  obtain ⟨k1, k2, k3, oe, vs, T, oT, ts, he, hc, hd, h1, hn, hne, hT, hdT, h3⟩ := R
  exact ⟨fun b o q => hk b o (k1 b o q), k2, k3.of_keeps (fun b o q _ => ⟨o, hk b o q, rfl⟩), oe, vs, T, oT, ts, hk _ _ he, hc, hd, h1, hn, hne, hk _ _ hT, hdT, h3⟩
theorem flew_keeps {base G h h' : Heap} {l : List Env} {e : Addr} {cls a0 : Value} {news : List (Addr × Obj)} (R : Flew base G l e cls a0 news h) (hk : ∀ b o, h.get? b = some o → h'.get? b = some o) : Flew base G l e cls a0 news h' :=
  let ⟨B, P, f⟩ := R; ⟨B, P, flyingW_keeps f hk⟩

theorem flew_land {A₀ : Around} {base g G h : Heap} {outer : List Env} {L a e : Addr} {cls a0 : Value} {m : Str → Option Value} {name : Str} {scope : Scope} {cd : Value} {news : List (Addr × Obj)}
    (R : Flew base G (envOf name scope L a cd :: outer) e cls a0 news h) (F : Fr g L G m) (K : Below A₀ base outer g) (hsm : G.UpToSlots h) :
    ∃ g', KtsTurn (outer.filterMap (·.frame)) g g' ∧ Fr g' L h m ∧ News g' L h news ∧ Below A₀ base outer g' := by
  obtain ⟨B, P, hfl⟩ := R
  have hL : B.get? L = none := by
    obtain ⟨_, ⟨L', _, hf, hn', _⟩, _⟩ := hfl.2.2.1
    obtain rfl : L = L' := Option.some.inj hf
    exact hn'
  obtain ⟨g', T, F', K'⟩ := kts_ground K F P.2.1 hfl.1 hsm
  exact ⟨g', T, F', fun q hq => ⟨hfl.1 _ _ (P.2.2 q hq).1, (fun z => by have := (P.2.2 q hq).1; rw [z, hL] at this; cases this), T.none_ _ (kts_none F.keep (P.2.2 q hq).2.1)⟩, K'⟩
theorem flew_there {base G h : Heap} {l : List Env} {e : Addr} {cls a0 : Value} {news : List (Addr × Obj)} (R : Flew base G l e cls a0 news h) : ∃ oe vs, h.get? e = some oe ∧ oe.cls = cls ∧ oe.data = .fields vs ∧ vs[0]? = some a0 :=
  let ⟨_, _, f⟩ := R; f.first

-- what the test of a clause must do: say b of every state in which e flies by the class cls
def Tests (prog : Program) (w : World) (A : Around) (KF : Frag) (p : Program) (loose : List Str) (mean : ExcName → Option Value) (mg mb : Str → Option Value) (env : Env) (L : Addr) (m : Str → Option Value) (t : Expr) (e : Addr) (cls : Value) (b : Bool) : Prop :=
  ∀ (s : Shared) (g : Heap) (Q : Bool → Shared → Prop), Fr g L s.heap m → KF.In g → Top p loose mean mg mb g → (∃ ob, s.heap.get? e = some ob ∧ ob.cls = cls) →
    (∀ h' tk, (∀ c o, s.heap.get? c = some o → h'.get? c = some o) → Q b { s with heap := h', toks := tk }) →
    wpAny (model prog w) A (eval t env) (fun c s₁ => wpAny (model prog w) A (excMatches (.ref e) c) Q (fun _ _ => False) s₁) (fun _ _ => False) s

section
variable {prog : Program} {w : World} {A₀ : Around} {E : Value → Shared → Prop} {s' : Shared} {base g G : Heap} {outer : List Env} {L a e : Addr} {cls a0 : Value} {m : Str → Option Value} {name : Str} {scope : Scope} {cd : Value}
  {b₀ : Stmt} {suite : List Stmt} {pos : Pos} {rest : List ExceptHandler} {t : Expr} {n : Str} {Q : Flow → Shared → Prop} {news : List (Addr × Obj)} {KF : Frag}
  {p : Program} {loose : List Str} {mean : ExcName → Option Value} {mg mb : Str → Option Value}

theorem flew_note (hs : List ExceptHandler) (R : Flew base G (envOf name scope L a cd :: outer) e cls a0 news s'.heap) (K : Below A₀ base outer g) (hsm : G.UpToSlots s'.heap)
    (k : ∀ h', Flew base G (envOf name scope L a cd :: outer) e cls a0 news h' → G.UpToSlots h' → wpAny (model prog w) (A₀.deeper (envOf name scope L a cd)) (handleBy (.ref e) (envOf name scope L a cd) hs) Q E { s' with heap := h' }) :
    wpAny (model prog w) (A₀.deeper (envOf name scope L a cd)) (noteFrame (.ref e) (envOf name scope L a cd))
      (fun _ s₂ => wpAny (model prog w) (A₀.deeper (envOf name scope L a cd)) (setFlight (.ref e) none) (fun _ s₃ =>
        wpAny (model prog w) (A₀.deeper (envOf name scope L a cd)) (handleBy (.ref e) (envOf name scope L a cd) hs) Q E s₃) E s₂) E s' := by
  obtain ⟨B, P, hfl⟩ := R
  refine wpAny_looks_onW (Around.frames_deeper K.stack) rfl hfl fun h₄ hheld₄ hsm₄ => ?_
  refine wpAny_landsW hheld₄ fun h₅ hheld hsm₅ => ?_
  exact k h₅ ⟨B, P, hheld⟩ ((hsm.trans hsm₄).trans hsm₅)

theorem flew_hit (R : Flew base G (envOf name scope L a cd :: outer) e cls a0 news s'.heap) (F : Fr g L G m) (K : Below A₀ base outer g) (hsm : G.UpToSlots s'.heap) (XB : KF.In base) (TB : Top p loose mean mg mb base)
    (D : KtsDicts (outer.filterMap (·.frame)) g) (ht : Tests prog w ((A₀.deeper (envOf name scope L a cd)).mark (some (.ref e))) KF p loose mean mg mb (envOf name scope L a cd) L m t e cls true)
    (k : ∀ h' tk g', KtsTurn (outer.filterMap (·.frame)) g g' → Fr g' L h' m → News g' L h' news → Below A₀ base outer g' → KF.In g' → Top p loose mean mg mb g' → KtsDicts (outer.filterMap (·.frame)) g' →
      wpAny (model prog w) ((A₀.deeper (envOf name scope L a cd)).mark (some (.ref e))) (execs (b₀ :: suite) (envOf name scope L a cd)) Q (fun _ _ => False) { s' with heap := h', toks := tk }) :
    wpAny (model prog w) (A₀.deeper (envOf name scope L a cd)) (handleBy (.ref e) (envOf name scope L a cd) (.ExceptHandler (some t) none (b₀ :: suite) pos :: rest)) Q E s' := by
  obtain ⟨g₁, T₁, F₁, N₁, K₁⟩ := flew_land R F K hsm
  obtain ⟨oe, vs, he, hc, _⟩ := flew_there R
  refine wpAny_handleBy_cons (codeAny_handlers_test (wpAny_mono (ht s' g₁ _ F₁ (XB.keeps K₁.stays) (TB.keeps K₁.stays) ⟨oe, he, hc⟩ fun h₂ tk₂ hk₂ => ?_) (fun _ _ x => wpAny_mono x (fun _ _ y => y) fun _ _ y => y.elim) fun _ _ x => x.elim)) (by intro q; cases q)
  simp only [if_true]
  refine codeAny_handlers_suite ?_
  have R₂ := flew_keeps R hk₂
  obtain ⟨B, P, hfl⟩ := R₂
  refine lands_againW hfl fun h₆ hfl₆ hsm₆ => ?_
  obtain ⟨g₆, T₆, F₆, N₆, K₆⟩ := flew_land ⟨B, P, hfl₆⟩ F K ((hsm.trans (Heap.UpToSlots.of_keeps hk₂)).trans hsm₆)
  exact wpAny_mono (k h₆ tk₂ g₆ T₆ F₆ N₆ K₆ (XB.keeps K₆.stays) (TB.keeps K₆.stays) (D.turn T₆)) (fun _ _ x => x) fun _ _ x => x.elim

theorem flew_hit_as (R : Flew base G (envOf name scope L a cd :: outer) e cls a0 news s'.heap) (F : Fr g L G m) (K : Below A₀ base outer g) (hsm : G.UpToSlots s'.heap) (XB : KF.In base) (TB : Top p loose mean mg mb base)
    (D : KtsDicts (outer.filterMap (·.frame)) g) (ht : Tests prog w ((A₀.deeper (envOf name scope L a cd)).mark (some (.ref e))) KF p loose mean mg mb (envOf name scope L a cd) L m t e cls true)
    (k : ∀ h' tk g' oe vs, KtsTurn (outer.filterMap (·.frame)) g g' → Fr g' L h' (fun y => if y = n then some (.ref e) else m y) → News g' L h' news → Below A₀ base outer g' → KF.In g' → Top p loose mean mg mb g' → KtsDicts (outer.filterMap (·.frame)) g' →
      h'.get? e = some oe → oe.cls = cls → oe.data = .fields vs → vs[0]? = some a0 →
      wpAny (model prog w) ((A₀.deeper (envOf name scope L a cd)).mark (some (.ref e))) (execs (b₀ :: suite) (envOf name scope L a cd))
        (fun f s₄ => wpAny (model prog w) (A₀.deeper (envOf name scope L a cd)) (do bindName (envOf name scope L a cd) n .none; unbindBehindTheSuite (envOf name scope L a cd) n pos) (fun _ s₅ => Q f s₅) E s₄) (fun _ _ => False) { s' with heap := h', toks := tk })
    (hk : scope.kind = .function := by rfl) (hlo : (envOf name scope L a cd).kindOf n = some .local := by rfl) :
    wpAny (model prog w) (A₀.deeper (envOf name scope L a cd)) (handleBy (.ref e) (envOf name scope L a cd) (.ExceptHandler (some t) (some n) (b₀ :: suite) pos :: rest)) Q E s' := by
  obtain ⟨g₁, T₁, F₁, N₁, K₁⟩ := flew_land R F K hsm
  obtain ⟨oe, vs, he, hc, _⟩ := flew_there R
  refine wpAny_handleBy_cons (codeAny_handlers_test (wpAny_mono (ht s' g₁ _ F₁ (XB.keeps K₁.stays) (TB.keeps K₁.stays) ⟨oe, he, hc⟩ fun h₂ tk₂ hk₂ => ?_) (fun _ _ x => wpAny_mono x (fun _ _ y => y) fun _ _ y => y.elim) fun _ _ x => x.elim)) (by intro q; cases q)
  simp only [if_true]
  refine codeAny_handlers_suite_as ?_
  have R₂ := flew_keeps R hk₂
  obtain ⟨B, P, hfl⟩ := R₂
  refine lands_againW hfl fun h₆ hfl₆ hsm₆ => ?_
  obtain ⟨g₆, T₆, F₆, N₆, K₆⟩ := flew_land ⟨B, P, hfl₆⟩ F K ((hsm.trans (Heap.UpToSlots.of_keeps hk₂)).trans hsm₆)
  obtain ⟨oe₆, vs₆, he₆, hc₆, hd₆, h0₆⟩ := hfl₆.first
  have ne₆ : e ≠ L := fun q => by
    obtain ⟨oL, es, ep, hL, hLd, _⟩ := F₆.ns
    rw [q, hL] at he₆
    cases he₆
    rw [hLd] at hd₆
    cases hd₆
  have hg : g₆.get? e = none := by
    cases q : g₆.get? e with
    | none => rfl
    | some o =>
      have q2 := F₆.keep _ _ q
      exfalso
      by_cases hm : e ∈ outer.filterMap (·.frame)
      · obtain ⟨_, o', ho', hd'⟩ := K₆.frames.mem hm
        rw [q] at ho'
        cases ho'
        rw [he₆] at q2
        cases q2
        exact hd' _ hd₆
      · cases q3 : g.get? e with
        | none => rw [T₆.none_ _ q3] at q; cases q
        | some o₃ =>
          have q4 := P.2.1 e o₃ (F.keep _ _ q3) (fun hm' => by
            rcases fmem rfl hm' with z | z
            · exact ne₆ z
            · exact hm z)
          rw [hfl₆.2.1] at q4
          cases q4
  refine stN F₆ (news := (e, oe₆) :: news) (fun q hq => by
    rcases List.mem_cons.mp hq with rfl | hq
    · exact ⟨he₆, ne₆, hg⟩
    · exact N₆ q hq) (fun h₇ F₇ N₇ => ?_) hk hlo
  exact wpAny_mono (k h₇ _ g₆ oe₆ vs₆ T₆ F₇ (fun q hq => N₇ q (List.mem_cons_of_mem _ hq)) K₆ (XB.keeps K₆.stays) (TB.keeps K₆.stays) (D.turn T₆) (N₇ _ (List.mem_cons_self ..)).1 hc₆ hd₆ h0₆) (fun _ _ x => wpAny_mono x (fun _ _ y => y) fun _ _ y => y) fun _ _ x => x.elim

theorem flew_miss (R : Flew base G (envOf name scope L a cd :: outer) e cls a0 news s'.heap) (F : Fr g L G m) (K : Below A₀ base outer g) (hsm : G.UpToSlots s'.heap) (XB : KF.In base) (TB : Top p loose mean mg mb base)
    (ht : Tests prog w ((A₀.deeper (envOf name scope L a cd)).mark (some (.ref e))) KF p loose mean mg mb (envOf name scope L a cd) L m t e cls false) {nm : Option Str} {st : List Stmt}
    (k : ∀ h' tk, FlewH base G (envOf name scope L a cd :: outer) e cls a0 L news h' → G.UpToSlots h' → E (.ref e) { s' with heap := h', toks := tk }) :
    wpAny (model prog w) (A₀.deeper (envOf name scope L a cd)) (handleBy (.ref e) (envOf name scope L a cd) [.ExceptHandler (some t) nm st pos]) Q E s' := by
  obtain ⟨g₁, T₁, F₁, N₁, K₁⟩ := flew_land R F K hsm
  obtain ⟨oe, vs, he, hc, _⟩ := flew_there R
  refine wpAny_handleBy_cons (codeAny_handlers_test (wpAny_mono (ht s' g₁ _ F₁ (XB.keeps K₁.stays) (TB.keeps K₁.stays) ⟨oe, he, hc⟩ fun h₂ tk₂ hk₂ => ?_) (fun _ _ x => wpAny_mono x (fun _ _ y => y) fun _ _ y => y.elim) fun _ _ x => x.elim)) (by intro q; cases q)
  simp only [Bool.false_eq_true, if_false]
  obtain ⟨B, P, hfl⟩ := flew_keeps R hk₂
  obtain ⟨_, _, _, oe, ws, T, oT, ts, he, hc, hd, h1, _⟩ := id hfl
  refine wpAny_handleBy_nil ?_
  unfold PySem.passOn
  refine wpAny_bind (wpAny_field he hd h1 ?_)
  rw [if_neg (show ¬ ((Value.ref T == Value.none) = true) from by simp)]
  first
    | exact wpAny_bind (wpAny_pure (wpAny_bind (setFlight_onW hfl fun h' hh hs => wpAny_throw (k h' tk₂ ⟨B, P, hh⟩ ((hsm.trans (Heap.UpToSlots.of_keeps hk₂)).trans hs)))))
    | exact wpAny_bind (setFlight_onW hfl fun h' hh hs => wpAny_throw (k h' tk₂ ⟨B, P, hh⟩ ((hsm.trans (Heap.UpToSlots.of_keeps hk₂)).trans hs)))
end
end Mine
end

section
set_option maxRecDepth 100000
namespace Mine
open PySem PySem.W PySem.Calls PyProof.Rows PySem.Spec
theorem boot_os : bootBuiltins (Str.ofString "OSError") = some (.type "OSError") := by kernel_rfl
set_option maxHeartbeats 8000000 in
theorem ns_os (P : Params) : nsIn (Mine.hd.heap_39 P) mainGlobals (Str.ofString "OSError") = some none := by kernel_rfl
set_option maxHeartbeats 8000000 in
theorem ns_ve (P : Params) : nsIn (Mine.hd.heap_39 P) mainGlobals (Str.ofString "ValueError") = some none := by kernel_rfl
set_option maxHeartbeats 8000000 in
theorem ns_bad (P : Params) : nsIn (Mine.hd.heap_39 P) mainGlobals (Str.ofString "BadZipFile") = some (some (.ref 59)) := by kernel_rfl

-- the three classes that a torn thing breaks off with
inductive Kd : Nat → Value → Prop
  | os : Kd 0 (.type "OSError")
  | bad : Kd 1 (.ref 59)
  | ve : Kd 2 (.type "ValueError")
set_option maxHeartbeats 8000000 in
theorem exm_os_os (P : Params) : exmOne (Mine.hd.heap_39 P) (.type "OSError") (.type "OSError") = some true := by kernel_rfl
set_option maxHeartbeats 8000000 in
theorem exm_bad_os (P : Params) : exmOne (Mine.hd.heap_39 P) (.ref 59) (.type "OSError") = some false := by kernel_rfl
set_option maxHeartbeats 8000000 in
theorem exm_ve_os (P : Params) : exmOne (Mine.hd.heap_39 P) (.type "ValueError") (.type "OSError") = some false := by kernel_rfl
set_option maxHeartbeats 8000000 in
theorem exm_ve_ve (P : Params) : exmOne (Mine.hd.heap_39 P) (.type "ValueError") (.type "ValueError") = some true := by kernel_rfl
set_option maxHeartbeats 8000000 in
theorem exm_os_2 (P : Params) : exmAny (Mine.hd.heap_39 P) (.type "OSError") [.type "OSError", .ref 59] = some true := by kernel_rfl
set_option maxHeartbeats 8000000 in
theorem exm_bad_2 (P : Params) : exmAny (Mine.hd.heap_39 P) (.ref 59) [.type "OSError", .ref 59] = some true := by kernel_rfl
set_option maxHeartbeats 8000000 in
theorem exm_ve_2 (P : Params) : exmAny (Mine.hd.heap_39 P) (.type "ValueError") [.type "OSError", .ref 59] = some false := by kernel_rfl
theorem kd_os {k : Nat} {cls : Value} (h : Kd k cls) (P : Params) : exmOne (Mine.hd.heap_39 P) cls (.type "OSError") = some (k == 0) := by
  cases h with
  | os => exact exm_os_os P
  | bad => exact exm_bad_os P
  | ve => exact exm_ve_os P
theorem kd_2 {k : Nat} {cls : Value} (h : Kd k cls) (P : Params) : exmAny (Mine.hd.heap_39 P) cls [.type "OSError", .ref 59] = some (k != 2) := by
  cases h with
  | os => exact exm_os_2 P
  | bad => exact exm_bad_2 P
  | ve => exact exm_ve_2 P
theorem looks_cls {M : Model} {h : Heap} {e : Addr} {cls : Value} (he : ∃ ob, h.get? e = some ob ∧ ob.cls = cls) : Looks M h (typeOf (.ref e)) cls := by
  obtain ⟨ob, ho, hc⟩ := he
  subst hc
  exact (Looks.ld ho).andThen .now
section
variable {w : World} {A : Around} {p : Program} {loose : List Str} {mean : ExcName → Option Value} {mg mb : Str → Option Value} {L a e : Addr} {m : Str → Option Value} {name : Str} {scope : Scope} {cd cls : Value} {np : Pos} {k : Nat}
theorem tests_os (hk : Kd k cls) (hkk : scope.kind = .function := by rfl) (hx : (envOf name scope L a cd).kindOf (Str.ofString "OSError") = some .globalImplicit := by rfl) :
    Tests Challenge.rw_kl0460_01.row.prog w A (Mine.hd.heap_39 w.params) p loose mean mg mb (envOf name scope L a cd) L m (.Name (Str.ofString "OSError") np) e cls (k == 0) := by
  intro s g Q F X T he h
  refine name_B F X (topRead_of T) (ns_os _) boot_os (by decide) ?_ hkk hx
  exact (exm_one (X.keeps F.keep) (looks_cls he) (kd_os hk _)).here (h s.heap s.toks fun _ _ e => e)
theorem tests_ve (hkk : scope.kind = .function := by rfl) (hx : (envOf name scope L a cd).kindOf (Str.ofString "ValueError") = some .globalImplicit := by rfl) :
    Tests Challenge.rw_kl0460_01.row.prog w A (Mine.hd.heap_39 w.params) p loose mean mg mb (envOf name scope L a cd) L m (.Name (Str.ofString "ValueError") np) e (.type "ValueError") true := by
  intro s g Q F X T he h
  refine name_B F X (topRead_of T) (ns_ve _) PyProof.Rows.Boot.«ValueError» (by decide) ?_ hkk hx
  exact (exm_one (X.keeps F.keep) (looks_cls he) (exm_ve_ve _)).here (h s.heap s.toks fun _ _ e => e)
theorem tests_2 {np2 tp : Pos} {n : Nat} (hk : Kd k cls) (hkk : scope.kind = .function := by rfl) (hx : (envOf name scope L a cd).kindOf (Str.ofString "OSError") = some .globalImplicit := by rfl) (hx2 : (envOf name scope L a cd).kindOf (Str.ofString "BadZipFile") = some .globalImplicit := by rfl) :
    Tests Challenge.rw_kl0460_01.row.prog w A (Mine.hd.heap_39 w.params) p loose mean mg mb (envOf name scope L a cd) L m (.Tuple [.Name (Str.ofString "OSError") np, .Name (Str.ofString "BadZipFile") np2] n tp) e cls (k != 2) := by
  intro s g Q F X T he h
  refine Tuple_ ?_
  refine spliced_more (name_B F X (topRead_of T) (ns_os _) boot_os (by decide) ?_ hkk hx)
  refine spliced_more (name_K F X (topRead_of T) (ns_bad _) ?_ hkk hx2)
  refine spliced_none ?_
  refine wp_tuple_new (by simp) ?_
  have hk2 : ∀ c o, s.heap.get? c = some o → (s.heap.push { cls := .type "tuple", data := .seq [Value.type "OSError", Value.ref 59].toArray }).get? c = some o := fun c o q => Heap.get?_push_of_some _ q
  obtain ⟨ob, ho, hc⟩ := he
  exact (exm_tup2 ((X.keeps F.keep).keeps hk2) (looks_cls ⟨ob, hk2 _ _ ho, hc⟩) (Heap.get?_push_size _ rfl) (kd_2 hk _)).here (h _ s.toks hk2)
end
end Mine
end

section
set_option maxRecDepth 100000
namespace Mine
open PySem PySem.W PySem.Calls PyProof.Rows PySem.Spec
set_option maxHeartbeats 8000000 in
theorem exm_bad_bad (P : Params) : exmOne (Mine.hd.heap_39 P) (.ref 59) (.ref 59) = some true := by kernel_rfl
set_option maxHeartbeats 8000000 in
theorem bs_os (P : Params) : subIn (Mine.hd.heap_39 P) (.type "OSError") (.type "BaseException") = some true := by kernel_rfl
set_option maxHeartbeats 8000000 in
theorem bs_ve (P : Params) : subIn (Mine.hd.heap_39 P) (.type "ValueError") (.type "BaseException") = some true := by kernel_rfl
set_option maxHeartbeats 8000000 in
theorem bs_bad (P : Params) : subIn (Mine.hd.heap_39 P) (.ref 59) (.type "BaseException") = some true := by kernel_rfl
theorem kd_self {k : Nat} {cls : Value} (h : Kd k cls) (P : Params) : exmOne (Mine.hd.heap_39 P) cls cls = some true := by
  cases h
  · exact exm_os_os P
  · exact exm_bad_bad P
  · exact exm_ve_ve P
theorem kd_base {k : Nat} {cls : Value} (h : Kd k cls) (P : Params) : subIn (Mine.hd.heap_39 P) cls (.type "BaseException") = some true := by
  cases h
  · exact bs_os P
  · exact bs_bad P
  · exact bs_ve P
theorem kd_type {M : Model} {K : Frag} {h : Heap} {cls : Value} (X : K.In h) (e : exmOne K cls cls = some true) : Looks M h (typeOf cls) (.type "type") := by
  unfold exmOne at e
  split at e
  · exact (kit_cls (M := M) X e).1
  · cases e
section
variable {M : Model} {w : World} {A : Around} {E : Value → Shared → Prop} {s : Shared} {env : Env} {e : Addr} {cls a0 : Value} {k : Nat} {Q : Flow → Shared → Prop}
theorem isType_inst {oe : Obj} {vs : Array Value} {Q : Bool → Shared → Prop} (he : s.heap.get? e = some oe) (hd : oe.data = .fields vs) (h : Q false s) : wpAny M A (isType (.ref e)) Q E s := by
  unfold isType loadHead
  refine wpAny_bind (wpAny_loadPart he ?_)
  rw [hd]
  exact wpAny_pure h
theorem raise_inst {x : Str} {np pos : Pos} {oe : Obj} {vs : Array Value} (hh : A.handled = none) (hk : Kd k cls) (X : (Mine.hd.heap_39 w.params).In s.heap) (he : s.heap.get? e = some oe) (hc : oe.cls = cls) (hd : oe.data = .fields vs) (h1 : vs[1]? = some .none)
    (hn : ∀ Q', Q' (.ref e) s → wpAny M A (eval (.Name x np) env) Q' E s) (h : E (.ref e) s) : wpAny M A (exec (.Raise (some (.Name x np)) none pos) env) Q E s := by
  rw [arm_exec_Raise]
  refine wpAny_bind (wpAny_standAt ?_)
  unfold raiseStmt
  simp only [evalOpt, Option.map]
  refine wpAny_bind (wpAny_bind (hn _ (wpAny_bind (wpAny_standAt (wpAny_pure ?_)))))
  refine wpAny_bind (wpAny_pure ?_)
  have LT : Looks M s.heap (typeOf (.ref e)) cls := looks_cls ⟨oe, he, hc⟩
  have LB : Looks M s.heap (isInstance (.ref e) (.type "BaseException")) true := LT.andThen (looks_subIn X (kd_base hk _))
  refine wpAny_bind (wpAny_holding ?_)
  unfold excFromValue isExcClass
  refine wpAny_bind (wpAny_bind (isType_inst he hd ?_))
  simp only [Bool.false_eq_true, if_false]
  refine wpAny_pure ?_
  simp only [Bool.false_eq_true, if_false]
  refine wpAny_bind (LB.here ?_)
  simp only [if_true]
  refine wpAny_pure ?_
  refine wpAny_bind (isType_inst he hd ?_)
  simp only [Bool.false_eq_true, if_false]
  refine wpAny_bind ?_
  unfold raisedInstance
  refine wpAny_bind (LT.here (wpAny_bind ((kd_type X (kd_self hk _)).here ?_)))
  simp only [beq_self_eq_true, if_true]
  refine wpAny_pure ?_
  refine wpAny_bind ?_
  unfold setFlight
  refine wpAny_bind (wpAny_field he hd h1 ?_)
  simp only [bne_self_eq_false, Bool.false_eq_true, if_false]
  refine wpAny_pure ?_
  unfold raiseNew
  refine wpAny_bind (wpAny_handled ?_)
  rw [hh]
  first
    | exact wpAny_throw h
    | exact wpAny_bind (wpAny_pure (wpAny_throw h))
end
end Mine
end

section
open PySem PySem.W PySem.Calls PyProof.Rows
namespace Mine
-- the parts of the given text that the law's things are made of
def fBody : Stmt → List Stmt
  | .FunctionDef _ _ b _ _ _ _ _ _ _ => b
  | _ => []
def fArgs : Stmt → Arguments
  | .FunctionDef _ a _ _ _ _ _ _ _ _ => a
  | _ => ⟨[], [], none, [], [], none, []⟩
def fScope : Stmt → Scope
  | .FunctionDef _ _ _ _ _ _ sc _ _ _ => sc
  | _ => default
def stmtAt (l : List Stmt) (i : Nat) : Stmt := (l[i]?).getD (.Pass ⟨0, 0, 0, 0⟩)
def fileStmt : Stmt := stmtAt Challenge.pw_kl0460_01.main.body 33
def deedStmt : Stmt := stmtAt (fBody fileStmt) 1
def seekStmt : Stmt := stmtAt (fBody fileStmt) 2
def readStmt : Stmt := stmtAt (fBody fileStmt) 3
def deedObj (cT cF cE : Addr) (qual : Str) (doc pm ct : Value) (c' : Addr) : Obj :=
  fnMade (Str.ofString "_law_deed") qual (fArgs deedStmt) (fBody deedStmt) (fScope deedStmt) [(Str.ofString "tear", cT), (Str.ofString "file", cF), (Str.ofString "error", cE)] doc pm c' ct
def seekObj (cO cF cD : Addr) (qual : Str) (dT doc pm ct : Value) (c' : Addr) : Obj :=
  kdv_obj (Str.ofString "_law_seek") qual (fArgs seekStmt) (.stmts (fBody seekStmt)) (fScope seekStmt) [(Str.ofString "octets", cO), (Str.ofString "file", cF), (Str.ofString "_law_deed", cD)] dT doc pm c' ct
def readObj (cO cF cD : Addr) (qual : Str) (dT doc pm ct : Value) (c' : Addr) : Obj :=
  kdv_obj (Str.ofString "_law_read") qual (fArgs readStmt) (.stmts (fBody readStmt)) (fScope readStmt) [(Str.ofString "octets", cO), (Str.ofString "file", cF), (Str.ofString "_law_deed", cD)] dT doc pm c' ct
-- the thing's own dict
abbrev dictF (w : World) (t1 t2 t3 t4 : Tok) (fs fr : Addr) (n : Int) (tn : Tok) (o : Int) (to : Tok) : Obj :=
  dictOf [⟨PyData.keyHash w.params (Str.ofString "fp"), .str (Str.ofString "fp") t1, .int n tn⟩, ⟨PyData.keyHash w.params (Str.ofString "offset"), .str (Str.ofString "offset") t2, .int o to⟩,
    ⟨PyData.keyHash w.params (Str.ofString "seek"), .str (Str.ofString "seek") t3, .ref fs⟩, ⟨PyData.keyHash w.params (Str.ofString "read"), .str (Str.ofString "read") t4, .ref fr⟩] 4
end Mine
end

section
set_option maxRecDepth 100000
namespace Mine
open PySem PySem.W PySem.Calls PyProof.Rows PySem.Spec PySem.Builtin.OSError
-- OSError(v): the eleven fields
def osObj (t : Addr) : Obj := { cls := .type "OSError", data := .fields (#[.ref t, .none, .none, .none, .bool false, .none] ++ osNothingGiven) }
theorem os_entry_new : entryFor table "OSError.__new__" = some Builtin.«OSError.__new__» := entryFor_of_fast (by kernel_rfl)
theorem os_entry_init : entryFor table "OSError.__init__" = some Builtin.«OSError.__init__» := entryFor_of_fast (by kernel_rfl)
theorem os_lookup_init : typeLookup (.type "OSError") (Str.ofString "__init__") = pure (some (.builtin "OSError.__init__")) := by rw [typeLookup_type, builtinLookup_eq_fast]; kernel_rfl
theorem os_sub : isSubtype (.type "OSError") (.type "OSError") = pure true := by rw [isSubtype_type]; kernel_rfl
theorem os_reads : osReadsInInit (.type "OSError") = pure false := by
  unfold osReadsInInit
  have e := os_lookup_init
  show (typeLookup (.type "OSError") (Str.ofString "__init__") >>= _) = _
  rw [e]
  simp only [pure_bind]
  rw [if_pos (by decide +kernel)]
  have e2 : ("OSError.__init__".dropRight ".__init__".length) = "OSError" := by decide +kernel
  rw [e2, os_sub]
  simp
theorem os_madeBy : Bind.madeBy (.type "OSError") = pure (some "OSError.__new__") := by kernel_rfl
theorem os_newCheck (v : Value) : checkBuiltinCall "OSError.__new__" ⟨[.type "OSError", v], []⟩ = pure () := by kernel_rfl
theorem os_typeCall (rest : List Value) : checkTypeCall "OSError" ⟨rest, []⟩ = pure () := by kernel_rfl
theorem os_mro : ∃ l, mroOf (.type "OSError") = pure l ∧ l.isEmpty = false := by
  rw [mroOf_type]
  have h : (fastBuiltinMro "OSError").map (·.isEmpty) = some false := by kernel_rfl
  cases hm : fastBuiltinMro "OSError" with
  | none => rw [hm] at h; cases h
  | some l => rw [hm] at h; exact ⟨l, rfl, by simpa using h⟩
theorem os_init_slot : Slot "OSError" "__init__" "OSError.__init__" :=
  .of (owner := "OSError") (n := "__init__") (by rw [typeLookup_type, builtinLookup_eq_fast]; kernel_rfl) (by decide +kernel) (by decide +kernel) (by decide +kernel)
    (by first | exact .inl (by decide +kernel) | exact .inr (by decide +kernel)) (by rw [isSubtype_type]; kernel_rfl)
section
variable {prog : Program} {w : World} {A : Around} {E : Value → Shared → Prop} {s : Shared}
theorem osPut_ {a : Addr} {o : Obj} {vs : Array Value} {i : Nat} {x y : Value} {Q : Unit → Shared → Prop} (ho : s.heap.get? a = some o) (hd : o.data = .fields vs) (hi : vs[i]? = some y)
    (h : Q () { s with heap := s.heap.update a (Obj.mapFields (·.setIfInBounds i x)) }) : wpAny (model prog w) A (osPut (.ref a) i x) Q E s := by
  unfold osPut
  refine wpAny_bind (wpAny_field ho hd hi (wpAny_bind (wpAny_setField ho hd (Array.getElem?_eq_some_iff.mp hi).1 ?_)))
  exact wpAny_letGo h
theorem update_get {h : Heap} {a : Addr} {o : Obj} {vs : Array Value} {f : Array Value → Array Value} (ho : h.get? a = some o) (hd : o.data = .fields vs) : (h.update a (Obj.mapFields f)).get? a = some (o.mapFields f) :=
  Heap.get?_update_self _ ho (Obj.isFreed_of_fields (Obj.data_mapFields hd _))
theorem new_os {v : Value} {Q : Value → Shared → Prop}
    (h : ∀ h' e t, (∀ b o, s.heap.get? b = some o → h'.get? b = some o) → s.heap.get? e = none → h'.get? e = some (osObj t) → Q (.ref e) { s with heap := h' }) :
    wpAny (model prog w) A (call (.builtin "OSError.__new__") [.type "OSError", v]) Q E s := by
  refine call_builtin_at (by decide +kernel) os_entry_new (os_newCheck v) ?_
  refine wpAt_of_any ?_
  unfold Builtin.«OSError.__new__»
  dsimp only
  refine wpAny_bind (m := isType _) (wpAny_of_eq (a := true) rfl ?_)
  simp only [Bool.not_true, Bool.false_eq_true, if_false]
  refine wpAny_bind (wpAny_of_eq os_sub ?_)
  simp only [Bool.not_true, Bool.false_eq_true, if_false]
  refine wpAny_bind (wpAny_of_eq os_reads ?_)
  simp only [Bool.false_eq_true, if_false]
  rw [if_neg (by simp)]
  rw [if_neg (by simp)]
  unfold newTuple
  refine wpAny_bind (wpAny_bind (wpAny_newObj_type (wpAny_newObj_type ?_ (by show sizeOk (.fields _); simp only [sizeOk, sizeLine_eq, osNothingGiven, Array.size_append]; simp)) (by size_fits)))
  refine wpAny_bind ?_
  have hx : ((s.heap.push { cls := .type "tuple", data := .seq #[] }).push { cls := .type "OSError", data := .fields (#[.ref s.heap.objs.size, .none, .none, .none, .bool false, .none] ++ osNothingGiven) }).get? (s.heap.push { cls := .type "tuple", data := .seq #[] }).objs.size = some { cls := .type "OSError", data := .fields (#[.ref s.heap.objs.size, .none, .none, .none, .bool false, .none] ++ osNothingGiven) } := Heap.get?_push_size _ rfl
  unfold osGiveMeaning
  dsimp only [List.length]
  refine wpAny_bind (osPut_ hx rfl rfl ?_)
  have h1 := update_get (f := (·.setIfInBounds 6 osUnset)) hx rfl
  refine wpAny_bind (osPut_ h1 rfl rfl ?_)
  have h2 := update_get (f := (·.setIfInBounds 7 osUnset)) h1 rfl
  unfold newTuple
  refine wpAny_bind (wpAny_newObj_type ?_ (by size_fits))
  have h3 := Heap.get?_push_of_some { cls := .type "tuple", data := .seq [v].toArray } h2
  refine osPut_ h3 rfl rfl ?_
  show wpAny (model prog w) A.in1 (pure (Fin.done (.ret (.ref (s.heap.push { cls := .type "tuple", data := .seq #[] }).objs.size)))) _ E _
  refine wpAny_pure ⟨_, rfl, h _ _ _ (fun b o hb => ?_) (Heap.get?_none_of_le (by simp)) (update_get h3 rfl)⟩
  have hne : b ≠ (s.heap.push { cls := .type "tuple", data := .seq #[] }).objs.size := Nat.ne_of_lt (Nat.lt_of_lt_of_le (Heap.lt_size hb) (by simp))
  rw [Heap.get?_update_other _ _ hne.symm]
  refine Heap.get?_push_of_some _ ?_
  rw [Heap.get?_update_other _ _ hne.symm, Heap.get?_update_other _ _ hne.symm]
  exact Heap.get?_push_of_some _ (Heap.get?_push_of_some _ hb)
theorem os_initKind : builtinKind "OSError.__init__" = some .slot := by decide +kernel
theorem os_initSplit : splitId "OSError.__init__" = some ("OSError", "__init__") := by decide +kernel
theorem os_initSig : Manifest.signature? "OSError.__init__" = some ⟨.any, "OSError", "OSError", .self, [⟨"args", .varPos, false⟩, ⟨"kwargs", .varKw, false⟩]⟩ := by kernel_rfl
theorem os_initArgs (e : Addr) (v : Value) : Bind.checkArgs "OSError.__init__" ⟨.any, "OSError", "OSError", .self, [⟨"args", .varPos, false⟩, ⟨"kwargs", .varKw, false⟩]⟩ ⟨[.ref e, v], []⟩ = pure () := by kernel_rfl
theorem init_os {e t : Addr} {v : Value} {Q : Value → Shared → Prop} (he : s.heap.get? e = some (osObj t)) (h : Q .none s) : wpAny (model prog w) A (call (.builtin "OSError.__init__") [.ref e, v]) Q E s := by
  have hT : s.TypeIs (.ref e) "OSError" := ⟨_, he, rfl⟩
  refine wpAny_call (codeAny_call_builtin os_init_slot.plain os_entry_init ?_)
  simp only [checkBuiltinCall, os_initKind, os_initSplit, os_initSig]
  refine wpAny_bind (wpAny_isInstance hT os_sub ?_)
  simp only [Bool.not_true, Bool.false_eq_true, if_false]
  rw [os_initArgs]
  refine wpAny_pure ?_
  unfold Builtin.«OSError.__init__»
  dsimp only
  refine wpAny_bind (wpAny_typeOf hT (wpAny_bind (wpAny_of_eq os_reads ?_)))
  simp only [Bool.not_false, if_true]
  exact wpAny_bind (wpAny_rule (wpAny_pure h))
theorem os_notType : (Value.type "OSError" == Value.type "type") = false := by decide +kernel
theorem os_canNew : (((Manifest.find? "OSError").bind (·.mro.findSome? fun (t : String) => (Manifest.find? t).bind fun b => if b.noNew then some true else if b.attrs.any (·.1 == "__new__") then some false else none)).getD false) = false := by decide +kernel
theorem weight_os (rest : List Value) (kw : List (Str × Value)) : (Code.builtin "type.__call__" ⟨.type "OSError" :: rest, kw⟩).weight = 0 := by kernel_rfl
theorem call_os {v : Value} {Q : Value → Shared → Prop}
    (h : ∀ h' e t, (∀ b o, s.heap.get? b = some o → h'.get? b = some o) → s.heap.get? e = none → h'.get? e = some (osObj t) → Q (.ref e) { s with heap := h' }) :
    wpAny (model prog w) A (call (.type "OSError") [v]) Q E s := by
  refine wpAny_call (codeAny_of_tree ?_)
  show wpAny _ _ (callAny (.type "OSError") ⟨[v], []⟩) _ _ s
  simp only [callAny]
  refine wpAny_pure ⟨Code.quiet_builtin _ (by decide +kernel), codeAny_builtin entry_type_call ?_⟩
  rw [Around.under_plain (weight_os [v] _) (by first | rfl | kernel_rfl | decide +kernel)]
  unfold Builtin.«type.__call__»
  dsimp only
  rw [if_neg (by rw [os_notType]; exact Bool.false_ne_true), if_neg (by rw [os_canNew]; exact Bool.false_ne_true)]
  obtain ⟨l, hl, hle⟩ := os_mro
  refine wpAny_bind (wpAny_of_eq (os_typeCall [v]) (wpAny_bind (wpAny_of_eq hl ?_)))
  rw [if_neg (by rw [hle]; exact Bool.false_ne_true)]
  refine wpAny_bind (wpAny_of_eq os_madeBy ?_)
  dsimp only
  refine wpAny_bind (wpAny_pure (wpAny_bind (wpAny_holding (new_os fun h' e t hk hn he => ?_))))
  refine wpAny_bind (wpAny_isInstance (T := "OSError") ⟨_, he, rfl⟩ os_sub ?_)
  simp only [Bool.not_true, Bool.false_eq_true, if_false]
  refine wpAny_bind (wpAny_holding (wpAny_callSpecial?_slot (name := Str.ofString "__init__") (T := "OSError") ⟨_, he, rfl⟩ os_init_slot (init_os he ?_)))
  dsimp only
  rw [if_neg (by simp)]
  exact wpAny_pure (h _ _ _ hk hn he)
end
end Mine
end

section
set_option maxRecDepth 100000
namespace Mine
open PySem PySem.W PySem.Calls PyProof.Rows PySem.Spec

def drop (d : Addr) (l : List (Addr × Obj)) : List (Addr × Obj) := l.filter fun p => p.1 != d
theorem mem_drop {d : Addr} {l : List (Addr × Obj)} {p : Addr × Obj} : p ∈ drop d l ↔ p ∈ l ∧ p.1 ≠ d := by
  unfold drop
  rw [List.mem_filter]
  simp
theorem drop_ne {d : Addr} {l : List (Addr × Obj)} : ∀ p ∈ drop d l, p.1 ≠ d := fun _ h => (mem_drop.mp h).2
theorem drop_sub {d : Addr} {l : List (Addr × Obj)} : ∀ p ∈ drop d l, p ∈ l := fun _ h => (mem_drop.mp h).1
theorem drop_mono {d : Addr} {l l' : List (Addr × Obj)} (h : ∀ p ∈ l, p.1 ≠ d → p ∈ l') : ∀ p ∈ drop d l, p ∈ drop d l' := fun p hp => mem_drop.mpr ⟨h p (drop_sub p hp) (drop_ne p hp), drop_ne p hp⟩

-- the parts of a thing that stay
inductive St (b : Array UInt8) (τ : Int) (er : Value) (x d fs fr : Addr) (l : List (Addr × Obj)) : Prop
  | mk (fd cO cT cF cE cD kd ks kr ts tr : Addr) (oO oT oF oE oD od os or : Obj) (qd qs qr : Str) (u1 u2 u3 u4 u5 u6 u7 u8 u9 : Value) (v1 v2 v3 : Array Value) (k1 k2 k3 k4 k5 k6 k7 : Tok)
    (hx : (x, instObj 135 d) ∈ l)
    (hfd : (fd, deedObj cT cF cE qd u1 u2 u3 kd) ∈ l) (hkd : (kd, od) ∈ l) (hod : od.data = .fields v1) (hv1 : v1[1]? = some (.str qd k1))
    (hfs : (fs, seekObj cO cF cD qs (.ref ts) u4 u5 u6 ks) ∈ l) (hks : (ks, os) ∈ l) (hos : os.data = .fields v2) (hv2 : v2[1]? = some (.str qs k2)) (hts : (ts, kdv_tup [.int 0 k4]) ∈ l)
    (hfr : (fr, readObj cO cF cD qr (.ref tr) u7 u8 u9 kr) ∈ l) (hkr : (kr, or) ∈ l) (hor : or.data = .fields v3) (hv3 : v3[1]? = some (.str qr k3)) (htr : (tr, kdv_tup [.int (-1) k5]) ∈ l)
    (hcO : (cO, oO) ∈ l) (hoO : oO.data = .cell (some (.bytes b k6))) (hcT : (cT, oT) ∈ l) (hoT : oT.data = .cell (some (.int τ k7))) (hcF : (cF, oF) ∈ l) (hoF : oF.data = .cell (some (.ref x)))
    (hcE : (cE, oE) ∈ l) (hoE : oE.data = .cell (some er)) (hcD : (cD, oD) ∈ l) (hoD : oD.data = .cell (some (.ref fd)))
theorem St.mono {b : Array UInt8} {τ : Int} {er : Value} {x d fs fr : Addr} {l l' : List (Addr × Obj)} (h : ∀ p ∈ l, p ∈ l') : St b τ er x d fs fr l → St b τ er x d fs fr l'
  | .mk fd cO cT cF cE cD kd ks kr ts tr oO oT oF oE oD od os or qd qs qr u1 u2 u3 u4 u5 u6 u7 u8 u9 v1 v2 v3 k1 k2 k3 k4 k5 k6 k7 hx hfd hkd hod hv1 hfs hks hos hv2 hts hfr hkr hor hv3 htr hcO hoO hcT hoT hcF hoF hcE hoE hcD hoD =>
    .mk fd cO cT cF cE cD kd ks kr ts tr oO oT oF oE oD od os or qd qs qr u1 u2 u3 u4 u5 u6 u7 u8 u9 v1 v2 v3 k1 k2 k3 k4 k5 k6 k7 (h _ hx) (h _ hfd) (h _ hkd) hod hv1 (h _ hfs) (h _ hks) hos hv2 (h _ hts) (h _ hfr) (h _ hkr) hor hv3 (h _ htr) (h _ hcO) hoO (h _ hcT) hoT (h _ hcF) hoF (h _ hcE) hoE (h _ hcD) hoD

section
variable {w : World} {A : Around} {E : Value → Shared → Prop} {s : Shared} {h₀ : Heap} {L x d fs fr : Addr} {m : Str → Option Value} {l : List (Addr × Obj)} {t1 t2 t3 t4 tn to : Tok} {n o : Int}
set_option maxHeartbeats 4000000 in
theorem pg_fp (P : Params) : plainGet (Mine.hd.heap_39 P) 135 (Str.ofString "fp") = true := by kernel_rfl
set_option maxHeartbeats 4000000 in
theorem pg_off (P : Params) : plainGet (Mine.hd.heap_39 P) 135 (Str.ofString "offset") = true := by kernel_rfl
set_option maxHeartbeats 4000000 in
theorem pg_seek (P : Params) : plainGet (Mine.hd.heap_39 P) 135 (Str.ofString "seek") = true := by kernel_rfl
set_option maxHeartbeats 4000000 in
theorem pg_read (P : Params) : plainGet (Mine.hd.heap_39 P) 135 (Str.ofString "read") = true := by kernel_rfl
set_option maxHeartbeats 4000000 in
theorem hd_135 (P : Params) : hasDictIn (Mine.hd.heap_39 P) 135 = true := by kernel_rfl
set_option maxHeartbeats 4000000 in
theorem fi_fp (P : Params) : findIn (Mine.hd.heap_39 P) (.ref 135) (Str.ofString "fp") = some none := by kernel_rfl
set_option maxHeartbeats 4000000 in
theorem fi_off (P : Params) : findIn (Mine.hd.heap_39 P) (.ref 135) (Str.ofString "offset") = some none := by kernel_rfl
set_option maxHeartbeats 4000000 in
theorem fi_seek (P : Params) : findIn (Mine.hd.heap_39 P) (.ref 135) (Str.ofString "seek") = some none := by kernel_rfl
set_option maxHeartbeats 4000000 in
theorem fi_read (P : Params) : findIn (Mine.hd.heap_39 P) (.ref 135) (Str.ofString "read") = some none := by kernel_rfl
set_option maxHeartbeats 4000000 in
theorem sa_135 (P : Params) : findIn (Mine.hd.heap_39 P) (.ref 135) (Str.ofString "__setattr__") = some (some (.builtin "object.__setattr__")) := by kernel_rfl
set_option maxHeartbeats 4000000 in
theorem po_135 (P : Params) : plainOver (Mine.hd.heap_39 P) 135 = true := by kernel_rfl
set_option maxHeartbeats 4000000 in
theorem tk_fp (P : Params) : takerIn (Mine.hd.heap_39 P) 135 (Str.ofString "fp") = some none := by kernel_rfl
set_option maxHeartbeats 4000000 in
theorem tk_off (P : Params) : takerIn (Mine.hd.heap_39 P) 135 (Str.ofString "offset") = some none := by kernel_rfl

theorem inst_F (N : News h₀ L s.heap ((d, dictF w t1 t2 t3 t4 fs fr n tn o to) :: l)) (hX : (x, instObj 135 d) ∈ l) : InstAt s.heap x (instObj 135 d) 135 (some (dictF w t1 t2 t3 t4 fs fr n tn o to)) :=
  InstAt.of_news N (List.mem_cons_of_mem _ hX) (List.mem_cons_self ..)
theorem get_fp {ex : Bool} {Q : Value → Shared → Prop} (F : Fr h₀ L s.heap m) (X : (Mine.hd.heap_39 w.params).In h₀) (N : News h₀ L s.heap ((d, dictF w t1 t2 t3 t4 fs fr n tn o to) :: l)) (hX : (x, instObj 135 d) ∈ l) (h : Q (.int n tn) { s with toks := s.toks + 1 }) :
    wpAny (model Challenge.rw_kl0460_01.row.prog w) A (getAttr (.ref x) (Str.ofString "fp") ex) Q E s :=
  get_own F X (inst_F N hX) (pg_fp _) (hd_135 _) (fi_fp _) rfl rfl rfl h
theorem get_off {ex : Bool} {Q : Value → Shared → Prop} (F : Fr h₀ L s.heap m) (X : (Mine.hd.heap_39 w.params).In h₀) (N : News h₀ L s.heap ((d, dictF w t1 t2 t3 t4 fs fr n tn o to) :: l)) (hX : (x, instObj 135 d) ∈ l) (h : Q (.int o to) { s with toks := s.toks + 1 }) :
    wpAny (model Challenge.rw_kl0460_01.row.prog w) A (getAttr (.ref x) (Str.ofString "offset") ex) Q E s :=
  get_own F X (inst_F N hX) (pg_off _) (hd_135 _) (fi_off _) rfl rfl rfl h
theorem pgt {K : Frag} {C : Addr} {name : Str} (h : plainGet K C name = true) : findIn K (.ref C) "__getattribute__" = some (some (.builtin "object.__getattribute__")) ∧ findIn K (.ref C) "__getattr__" = some none := plainGet_of h
theorem meth_seek {pl : Sem Bool} {Q : Value × List Value → Shared → Prop} (F : Fr h₀ L s.heap m) (X : (Mine.hd.heap_39 w.params).In h₀) (N : News h₀ L s.heap ((d, dictF w t1 t2 t3 t4 fs fr n tn o to) :: l)) (hX : (x, instObj 135 d) ∈ l) (h : Q (.ref fs, []) { s with toks := s.toks + 1 }) :
    wpAny (model Challenge.rw_kl0460_01.row.prog w) A (getMethod (.ref x) (Str.ofString "seek") pl) Q E s :=
  method_usual (X.keeps F.keep) (inst_F N hX) (pgt (pg_seek _)).1 (pgt (pg_seek _)).2 (fi_seek _) rfl (get_own F X (inst_F N hX) (pg_seek _) (hd_135 _) (fi_seek _) rfl rfl rfl h)
theorem meth_read {pl : Sem Bool} {Q : Value × List Value → Shared → Prop} (F : Fr h₀ L s.heap m) (X : (Mine.hd.heap_39 w.params).In h₀) (N : News h₀ L s.heap ((d, dictF w t1 t2 t3 t4 fs fr n tn o to) :: l)) (hX : (x, instObj 135 d) ∈ l) (h : Q (.ref fr, []) { s with toks := s.toks + 1 }) :
    wpAny (model Challenge.rw_kl0460_01.row.prog w) A (getMethod (.ref x) (Str.ofString "read") pl) Q E s :=
  method_usual (X.keeps F.keep) (inst_F N hX) (pgt (pg_read _)).1 (pgt (pg_read _)).2 (fi_read _) rfl (get_own F X (inst_F N hX) (pg_read _) (hd_135 _) (fi_read _) rfl rfl rfl h)
theorem put_fp {Q : Unit → Shared → Prop} {n' : Int} {t' : Tok} (F : Fr h₀ L s.heap m) (X : (Mine.hd.heap_39 w.params).In h₀) (N : News h₀ L s.heap ((d, dictF w t1 t2 t3 t4 fs fr n tn o to) :: l)) (hX : (x, instObj 135 d) ∈ l) (hoff : ∀ p ∈ l, p.1 ≠ d)
    (h : ∀ h', Fr h₀ L h' m → News h₀ L h' ((d, dictF w t1 t2 t3 t4 fs fr n' t' o to) :: l) → Q () { s with heap := h', toks := s.toks + 2 }) :
    wpAny (model Challenge.rw_kl0460_01.row.prog w) A (setAttr (.ref x) (Str.ofString "fp") (.int n' t')) Q E s :=
  set_dict (dx := d) F X N (inst_F N hX) rfl (sa_135 _) (po_135 _) (tk_fp _) (hd_135 _) rfl rfl (.head hoff) (Nat.le_of_ble_eq_true rfl) h
theorem put_off {Q : Unit → Shared → Prop} {n' : Int} {t' : Tok} (F : Fr h₀ L s.heap m) (X : (Mine.hd.heap_39 w.params).In h₀) (N : News h₀ L s.heap ((d, dictF w t1 t2 t3 t4 fs fr n tn o to) :: l)) (hX : (x, instObj 135 d) ∈ l) (hoff : ∀ p ∈ l, p.1 ≠ d)
    (h : ∀ h', Fr h₀ L h' m → News h₀ L h' ((d, dictF w t1 t2 t3 t4 fs fr n tn n' t') :: l) → Q () { s with heap := h', toks := s.toks + 2 }) :
    wpAny (model Challenge.rw_kl0460_01.row.prog w) A (setAttr (.ref x) (Str.ofString "offset") (.int n' t')) Q E s :=
  set_dict (dx := d) F X N (inst_F N hX) rfl (sa_135 _) (po_135 _) (tk_off _) (hd_135 _) rfl rfl (.head hoff) (Nat.le_of_ble_eq_true rfl) h
end
section
variable {M : Model} {A : Around} {E : Value → Shared → Prop} {s : Shared} {h₀ : Heap} {L a : Addr} {cn : Str} {cs : Scope} {ccd : Value} {cl : List (Str × Addr)} {x : Str} {pos : Pos} {v : Value} {Q : Value → Shared → Prop} {p1 : Addr × Obj} {R : List (Addr × Obj)} {c : Addr} {o : Obj}
-- a name that stands in a cell of the ledger's tail
theorem free_R (N : News h₀ L s.heap (p1 :: R)) (hc : cl.lookup x = some c) (hm : (c, o) ∈ R) (hd : o.data = .cell (some v)) (h : Q v s)
    (hk : cs.kind = .function := by rfl) (hx : (envX cn cs L a ccd cl).kindOf x = some .free := by rfl) (hb : (x == ("__debug__" : Str)) = false := by decide) (hn : (x == ("__classdict__" : Str)) = false := by decide) :
    wpAny M A (eval (.Name x pos) (envX cn cs L a ccd cl)) Q E s := nameX_F N hc (List.mem_cons_of_mem _ hm) hd h hk hx hb hn
end
section
variable {M : Model} {w : World} {A : Around} {E : Value → Shared → Prop} {s : Shared} {env : Env} {h₀ : Heap} {L : Addr} {m : Str → Option Value} {p1 : Addr × Obj} {R : List (Addr × Obj)} {e : Addr} {cls : Value} {k : Nat} {Q : Flow → Shared → Prop}
theorem raise_R {x : Str} {np pos : Pos} {oe : Obj} {vs : Array Value} (F : Fr h₀ L s.heap m) (X : (Mine.hd.heap_39 w.params).In h₀) (N : News h₀ L s.heap (p1 :: R)) (me : (e, oe) ∈ R) (hc : oe.cls = cls) (hd : oe.data = .fields vs) (h1 : vs[1]? = some .none) (hk : Kd k cls)
    (hn : ∀ Q', Q' (.ref e) s → wpAny M A (eval (.Name x np) env) Q' E s) (h : E (.ref e) s) (hh : A.handled = none := by rfl) : wpAny M A (exec (.Raise (some (.Name x np)) none pos) env) Q E s :=
  raise_inst hh hk (X.keeps F.keep) (N _ (List.mem_cons_of_mem _ me)).1 hc hd h1 hn h
end
theorem sub_drop {d e : Addr} {oe o : Obj} {R : List (Addr × Obj)} (me : (e, oe) ∈ R) (hoff : ∀ p ∈ R, p.1 ≠ d) : ∀ q ∈ (d, o) :: drop e R, q ∈ (d, o) :: R ∧ q.1 ≠ e := fun q hq => by
  rcases List.mem_cons.mp hq with rfl | hq
  · exact ⟨List.mem_cons_self .., fun z => hoff _ me z.symm⟩
  · exact ⟨List.mem_cons_of_mem _ (drop_sub q hq), drop_ne q hq⟩
def ErrIn (er : Value) (e : Addr) (k : Nat) (cls a0 : Value) (l : List (Addr × Obj)) : Prop := er = .ref e ∧ Kd k cls ∧ ∃ oe vs, (e, oe) ∈ l ∧ oe.cls = cls ∧ oe.data = .fields vs ∧ vs[1]? = some .none ∧ vs[0]? = some a0
end Mine
end

section
set_option maxRecDepth 100000
namespace Mine
open PySem PySem.W PySem.Calls PyProof.Rows PySem.Spec
def RaisK (P : Params) (E : Value → Shared → Prop) (v : Value) (s : Shared) : Prop :=
  ∃ e oe vs k cls, Kd k cls ∧ v = .ref e ∧ (Mine.hd.heap_39 P).In s.heap ∧ s.heap.get? e = some oe ∧ oe.cls = cls ∧ oe.data = .fields vs ∧ vs[1]? = some .none ∧ E (.ref e) s
section
variable {M : Model} {w : World} {A : Around} {E : Value → Shared → Prop} {s : Shared} {env : Env} {e : Addr} {cls a0 : Value} {k : Nat} {Q : Flow → Shared → Prop}
theorem raise_gen {prog : Program} {ex : Expr} {pos : Pos} (h : wpAny (model prog w) A (eval ex env) (RaisK w.params E) E s) (hh : A.handled = none := by rfl) : wpAny (model prog w) A (exec (.Raise (some ex) none pos) env) Q E s := by
  rw [arm_exec_Raise]
  refine wpAny_bind (wpAny_standAt ?_)
  unfold raiseStmt
  simp only [evalOpt, Option.map]
  refine wpAny_bind (wpAny_bind (wpAny_mono h (fun v s₁ h₁ => wpAny_bind (wpAny_standAt (wpAny_pure ?_))) fun _ _ x => x))
  obtain ⟨e, oe, vs, k, cls, hk, rfl, X, he, hc, hd, h1, hE⟩ := h₁
  refine wpAny_bind (wpAny_pure ?_)
  have LT : Looks (model prog w) s₁.heap (typeOf (.ref e)) cls := looks_cls ⟨oe, he, hc⟩
  have LB : Looks (model prog w) s₁.heap (isInstance (.ref e) (.type "BaseException")) true := LT.andThen (looks_subIn X (kd_base hk _))
  refine wpAny_bind (wpAny_holding ?_)
  unfold excFromValue isExcClass
  refine wpAny_bind (wpAny_bind (isType_inst he hd ?_))
  simp only [Bool.false_eq_true, if_false]
  refine wpAny_pure ?_
  simp only [Bool.false_eq_true, if_false]
  refine wpAny_bind (LB.here ?_)
  simp only [if_true]
  refine wpAny_pure ?_
  refine wpAny_bind (isType_inst he hd ?_)
  simp only [Bool.false_eq_true, if_false]
  refine wpAny_bind ?_
  unfold raisedInstance
  refine wpAny_bind (LT.here (wpAny_bind ((kd_type X (kd_self hk _)).here ?_)))
  simp only [beq_self_eq_true, if_true]
  refine wpAny_pure ?_
  refine wpAny_bind ?_
  unfold setFlight
  refine wpAny_bind (wpAny_field he hd h1 ?_)
  simp only [bne_self_eq_false, Bool.false_eq_true, if_false]
  refine wpAny_pure ?_
  unfold raiseNew
  refine wpAny_bind (wpAny_handled ?_)
  rw [hh]
  first
    | exact wpAny_throw hE
    | exact wpAny_bind (wpAny_pure (wpAny_throw hE))
-- OSError(v), over the ledger
theorem os_L {prog : Program} {h₀ : Heap} {L : Addr} {m : Str → Option Value} {l : List (Addr × Obj)} {v : Value} {Q : Value → Shared → Prop} (F : Fr h₀ L s.heap m) (N : News h₀ L s.heap l)
    (h : ∀ h' e t, Fr h₀ L h' m → News h₀ L h' ((e, osObj t) :: l) → (∀ p ∈ l, p.1 ≠ e) → Q (.ref e) { s with heap := h' }) : wpAny (model prog w) A (call (.type "OSError") [v]) Q E s := by
  refine call_os fun h' e t hk hn he => h h' e t (F.keeps hk) (fun p hp => ?_) (fun p hp z => ?_)
  · rcases List.mem_cons.mp hp with rfl | hp
    · refine ⟨he, fun z => ?_, ?_⟩
      · obtain ⟨o, _, _, ho, _⟩ := F.ns
        dsimp only at z
        subst z
        rw [hn] at ho
        cases ho
      · cases q : h₀.get? e with
        | none => rfl
        | some o => have := F.keep _ _ q; rw [hn] at this; cases this
    · exact ⟨hk _ _ (N p hp).1, (N p hp).2⟩
  · have := (N p hp).1
    rw [z, hn] at this
    cases this
end
theorem fnat_deed {h₀ h : Heap} {L f cT cF cE kd : Addr} {p1 : Addr × Obj} {R : List (Addr × Obj)} {q : Str} {u1 u2 u3 : Value} (N : News h₀ L h (p1 :: R)) (hm : (f, deedObj cT cF cE q u1 u2 u3 kd) ∈ R) : FnAt f h := FnAt.of N (List.mem_cons_of_mem _ hm)
theorem fnat_seek {h₀ h : Heap} {L f cT cF cE kd : Addr} {p1 : Addr × Obj} {R : List (Addr × Obj)} {q : Str} {u u1 u2 u3 : Value} (N : News h₀ L h (p1 :: R)) (hm : (f, seekObj cT cF cE q u u1 u2 u3 kd) ∈ R) : FnAt f h := FnAt.of N (List.mem_cons_of_mem _ hm)
theorem fnat_read {h₀ h : Heap} {L f cT cF cE kd : Addr} {p1 : Addr × Obj} {R : List (Addr × Obj)} {q : Str} {u u1 u2 u3 : Value} (N : News h₀ L h (p1 :: R)) (hm : (f, readObj cT cF cE q u u1 u2 u3 kd) ∈ R) : FnAt f h := FnAt.of N (List.mem_cons_of_mem _ hm)
theorem raisK_os {M : Model} {P : Params} {A : Around} {E : Value → Shared → Prop} {s : Shared} {base g : Heap} {outer : List Env} {env : Env} {L e t : Addr} {m : Str → Option Value} {l : List (Addr × Obj)} (K : Below A base outer g) (F : Fr g L s.heap m) (X : (Mine.hd.heap_39 P).In g) (N : News g L s.heap ((e, osObj t) :: l))
    (hoff : ∀ p ∈ l, p.1 ≠ e) (hf : env.frame = some L) (hk : env.scope.kind = .function) (hQ : ∀ h', Flew base g outer e (.type "OSError") (.ref t) l h' → g.UpToSlots h' → E (.ref e) { s with heap := h' }) :
    RaisK P (fun e s' => wpAny M (A.deeper env) (leaving env e) (fun _ s'' => E e s'') (fun e' s'' => E e' s'') s') (.ref e) s :=
  ⟨e, osObj t, _, 0, _, .os, rfl, X.keeps F.keep, (N _ (List.mem_cons_self ..)).1, rfl, rfl, rfl,
    flew_raise (a0 := .ref t) (cls := .type "OSError") K F N hf hk (List.mem_cons_self ..) rfl rfl rfl rfl (fun q hq => ⟨List.mem_cons_of_mem _ hq, hoff q hq⟩) fun h' R S => hQ h' R S⟩
end Mine
end

section
open PySem PySem.W PySem.Calls PyProof.Rows
set_option maxRecDepth 100000
namespace Mine
local macro_rules | `(tactic| units_room) => `(tactic| ktr_units)
local macro_rules | `(tactic| k_room) => `(tactic| ktr_room)
local macro_rules | `(tactic| k_all) => `(tactic| first | assumption | exact ne_all (by assumption) | exact ne_lt (by assumption))
set_option maxHeartbeats 400000 in
theorem c_deed {w : World} {p : Program} {loose : List Str} {mean : ExcName → Option Value} {mg mb : Str → Option Value} {dp un : Nat} {gd : Option (List Code)} {cn : Str} {cs : Scope} {a : Addr} {ccd : Value} {cl : List (Str × Addr)} {outer : List Env} {A₀ : Around} {base h₀ : Heap} {L : Addr} {m : Str → Option Value} {R : List (Addr × Obj)} {s : Shared} {Q E : Value → Shared → Prop}
    {d x fs fr fd cT cF cE kd : Addr} {oT oF oE od : Obj} {t1 t2 t3 t4 tn to tt qt : Tok} {n o τ : Int} {er : Value} {qual : Str} {doc pm ct : Value} {vd : Array Value} {k : Nat} {e : Addr} {cls a0 : Value} :
    Below A₀ base outer h₀ → Fr h₀ L s.heap m → (Mine.hd.heap_39 w.params).In h₀ → News h₀ L s.heap ((d, dictF w t1 t2 t3 t4 fs fr n tn o to) :: R) → (∀ p ∈ R, p.1 ≠ d) → Top p loose mean mg mb h₀ → cs.kind = .function → dp + 20 < recursionLimit → un + 400 < cLine →
    (x, instObj 135 d) ∈ R → (n + 1 = τ → ErrIn er e k cls a0 R) →
    (fd, deedObj cT cF cE qual doc pm ct kd) ∈ R → (kd, od) ∈ R → od.data = .fields vd → vd[1]? = some (.str qual qt) → (cT, oT) ∈ R → oT.data = .cell (some (.int τ tt)) → (cF, oF) ∈ R → oF.data = .cell (some (.ref x)) → (cE, oE) ∈ R → oE.data = .cell (some er) →
    (n + 1 ≠ τ → ∀ h' tk tn', Fr h₀ L h' m → News h₀ L h' ((d, dictF w t1 t2 t3 t4 fs fr (n + 1) tn' o to) :: R) → Q .none { s with heap := h', toks := tk }) →
    (n + 1 = τ → ∀ G h' tk tn', Fr h₀ L G m → Flew base G (envX cn cs L a ccd cl :: outer) e cls a0 ((d, dictF w t1 t2 t3 t4 fs fr (n + 1) tn' o to) :: drop e R) h' → G.UpToSlots h' → E (.ref e) { s with heap := h', toks := tk }) →
    wpAny (model Challenge.rw_kl0460_01.row.prog w) (ktrTop dp un gd cn cs L a ccd cl outer) (call (.ref fd) []) Q E s := by
  w_top off
  k_with_none
  k_with "eval Name" =>
    ((k_here; k_dflt (refine' free_R ?z9aN ?z9ac ?z9am ?z9ad ?_ ?z9aa ?z9ab; (case z9aa => rfl); (case z9ab => rfl); (case z9aN => k_asm); (case z9ac => rfl); (case z9am => with_reducible assumption); (case z9ad => with_reducible assumption))))
  k_with "getAttr ref" =>
    ((k_here; k_dflt (refine' get_fp ?z9bF ?z9bX ?z9bN ?z9bhX ?_; (case z9bF => k_asm); (case z9bX => k_asm); (case z9bN => k_asm); (case z9bhX => with_reducible assumption))))
  k_with "setAttr ref" =>
    ((k_here; k_dflt (refine' put_fp ?z9cF ?z9cX ?z9cN ?z9chX ?z9chD ?_; (case z9cF => k_asm); (case z9cX => k_asm); (case z9cN => k_asm); (case z9chX => with_reducible assumption); (case z9chD => with_reducible assumption)); intro h9 F9 N9))
  k_with "exec Raise some none" =>
    ((k_here; k_dflt (refine' raise_R ?z9dF ?z9dX ?z9dN ?z9dme ?z9dhc ?z9dhd ?z9dh1 ?z9dhk ?z9dhn ?_; (case z9dF => k_asm); (case z9dX => k_asm); (case z9dN => k_asm); (case z9dme => with_reducible assumption); (case z9dhc => with_reducible assumption); (case z9dhd => with_reducible assumption); (case z9dh1 => with_reducible assumption); (case z9dhk => with_reducible assumption); (case z9dhn => intro _ hq; refine free_R (by k_asm) rfl (by with_reducible assumption) (by with_reducible assumption) hq))))
  k_fill
  intro B F X N hoff T hk hd hu mX hE m1 m2 hod hvd m3 hoT m4 hoF m5 hoE hret htorn
  obtain ⟨ck, cn1, cn2, cn3, cn4⟩ := cs
  have hk' : ck = .function := hk
  subst hk'
  refine wpAny_call ?_
  refine code_nest B F X N T rfl rfl rfl (List.mem_cons_of_mem _ m1) (codeRec_news N (List.mem_cons_of_mem _ m2) hod hvd) (by ktr_room) (BindsTo.of_eq rfl) (locs rfl) ?_ rfl rfl rfl (by decide)
  intro g' L' h' FG' F' N' B' X' T'
  have eb : fBody deedStmt = fBody deedStmt := rfl
  conv at eb => rhs; whnf
  have es : fScope deedStmt = fScope deedStmt := rfl
  conv at es => rhs; whnf
  have ea : fArgs deedStmt = fArgs deedStmt := rfl
  conv at ea => rhs; whnf
  simp only [eb, es, ea]
  (try dsimp only); (try k_fold)
  clear eb es ea
  by_cases hn : n + 1 = τ
  · obtain ⟨her, hkd, oe, vs, me, hec, hed, he1, he0⟩ := hE hn
    subst her
    k_steps
    · refine flew_raise (a0 := a0) (cls := cls) (news' := (d, _) :: drop e R) B' (by k_asm) (by k_asm) rfl rfl (List.mem_cons_of_mem _ me) hed he1 he0 hec (sub_drop me hoff) fun h8 R8 S8 => ?_
      exact htorn hn _ _ _ _ FG' R8 S8
    · exact absurd hn (by assumption)
  · k_steps
    · exact absurd (by assumption) hn
    · exact hret hn _ _ _ (by assumption) (by assumption)
end Mine
end

section
open PySem PySem.W PySem.Calls PyProof.Rows
set_option maxRecDepth 100000
namespace Mine
local macro_rules | `(tactic| units_room) => `(tactic| ktr_units)
local macro_rules | `(tactic| k_room) => `(tactic| ktr_room)
local macro_rules | `(tactic| k_all) => `(tactic| first | assumption | exact ne_all (by assumption) | exact ne_lt (by assumption))
set_option maxHeartbeats 400000 in
theorem c_seek2 {w : World} {p : Program} {loose : List Str} {mean : ExcName → Option Value} {mg mb : Str → Option Value} {dp un : Nat} {gd : Option (List Code)} {cn : Str} {cs : Scope} {a : Addr} {ccd : Value} {cl : List (Str × Addr)} {outer : List Env} {A₀ : Around} {base h₀ : Heap} {L : Addr} {m : Str → Option Value} {R : List (Addr × Obj)} {s : Shared} {Q E : Value → Shared → Prop}
    {d x fs fr : Addr} {t1 t2 t3 t4 tn to u1 u2 : Tok} {n o τ off wh pl : Int} {er : Value} {k : Nat} {e : Addr} {cls a0 : Value} {b : Array UInt8} :
    Below A₀ base outer h₀ → Fr h₀ L s.heap m → (Mine.hd.heap_39 w.params).In h₀ → News h₀ L s.heap ((d, dictF w t1 t2 t3 t4 fs fr n tn o to) :: R) → (∀ p ∈ R, p.1 ≠ d) → Top p loose mean mg mb h₀ → cs.kind = .function → dp + 40 < recursionLimit → un + 800 < cLine →
    St b τ er x d fs fr R → (n + 1 = τ → ErrIn er e k cls a0 R) → b.size ≤ 1000 → (wh = 0 → pl = off) → (wh ≠ 0 → pl = (b.size : Int) + off) →
    (n + 1 ≠ τ → 0 ≤ pl → ∀ h' tk tn' to' tv, Fr h₀ L h' m → News h₀ L h' ((d, dictF w t1 t2 t3 t4 fs fr (n + 1) tn' pl to') :: R) → Q (.int pl tv) { s with heap := h', toks := tk }) →
    (n + 1 = τ → ∀ G h' tk tn', Fr h₀ L G m → Flew base G (envX cn cs L a ccd cl :: outer) e cls a0 ((d, dictF w t1 t2 t3 t4 fs fr (n + 1) tn' o to) :: drop e R) h' → G.UpToSlots h' → E (.ref e) { s with heap := h', toks := tk }) →
    (n + 1 ≠ τ → pl < 0 → ∀ G h' tk tn' e' a0', Fr h₀ L G m → Flew base G (envX cn cs L a ccd cl :: outer) e' (.type "OSError") a0' ((d, dictF w t1 t2 t3 t4 fs fr (n + 1) tn' o to) :: R) h' → G.UpToSlots h' → E (.ref e') { s with heap := h', toks := tk }) →
    wpAny (model Challenge.rw_kl0460_01.row.prog w) (ktrTop dp un gd cn cs L a ccd cl outer) (call (.ref fs) [.int off u1, .int wh u2]) Q E s := by
  w_top off
  k_with_none
  k_with "eval Name" =>
    ((k_here; k_dflt (refine' free_R ?z9aN ?z9ac ?z9am ?z9ad ?_ ?z9aa ?z9ab; (case z9aa => rfl); (case z9ab => rfl); (case z9aN => k_asm); (case z9ac => rfl); (case z9am => with_reducible assumption); (case z9ad => with_reducible assumption))))
  k_with "getAttr ref" =>
    ((k_here; k_dflt (refine' get_off ?z9bF ?z9bX ?z9bN ?z9bhX ?_; (case z9bF => k_asm); (case z9bX => k_asm); (case z9bN => k_asm); (case z9bhX => with_reducible assumption))))
  k_with "setAttr ref" =>
    ((k_here; k_dflt (refine' put_off ?z9cF ?z9cX ?z9cN ?z9chX ?z9chD ?_; (case z9cF => k_asm); (case z9cX => k_asm); (case z9cN => k_asm); (case z9chX => with_reducible assumption); (case z9chD => with_reducible assumption)); intro h9 F9 N9))
  k_with "call ref" =>
    ((k_here; (with_reducible show wpAny _ _ (call (Value.ref _) []) _ _ _); k_dflt (refine' c_deed ?z9dB ?z9dF ?z9dX ?z9dN ?z9doff ?z9dT ?z9dk ?z9dd ?z9du ?z9dmX ?z9dE ?z9dfd ?z9dkd ?z9dod ?z9dvd ?z9dcT ?z9doT ?z9dcF ?z9doF ?z9dcE ?z9doE (fun hn9 h9 tk9 tn9 F9 N9 => ?_) (fun hn9 G9 h9 tk9 tn9 F9 R9 S9 => ?_); (case z9dB => k_asm); (case z9dF => k_asm); (case z9dX => k_asm); (case z9dN => k_asm); (case z9doff => with_reducible assumption); (case z9dT => k_asm); (case z9dk => rfl); (case z9dd => ktr_room); (case z9du => ktr_units); (case z9dmX => with_reducible assumption); (case z9dE => with_reducible assumption); (case z9dfd => with_reducible assumption); (case z9dkd => with_reducible assumption); (case z9dod => with_reducible assumption); (case z9dvd => with_reducible assumption); (case z9dcT => with_reducible assumption); (case z9doT => with_reducible assumption); (case z9dcF => with_reducible assumption); (case z9doF => with_reducible assumption); (case z9dcE => with_reducible assumption); (case z9doE => with_reducible assumption))))
  k_with "callWith ref" =>
    ((k_here; k_dflt (refine' callWith_F0 ?z9ek1 ?_; (case z9ek1 => exact fnat_deed (by k_asm) (by with_reducible assumption)); try dsimp only [List.nil_append, List.cons_append])))
  k_with "exec Raise some none" =>
    ((k_here; k_dflt (refine raise_gen ?_)))
  k_with "call type:OSError" =>
    ((k_here; k_dflt (refine' os_L ?z9gF ?z9gN (fun h9 e9 t9 F9 N9 d9 => ?_); (case z9gF => k_asm); (case z9gN => k_asm))))
  k_with "eval Name" =>
    ((k_here; (with_reducible show wpAny _ _ (eval (Expr.Name (Str.ofString "OSError") _) _) _ _ _); k_dflt (refine' nameX_B ?z9hF ?z9hX ?z9hT ?z9he ?z9hv ?z9hn ?_ ?z9ha ?z9hb; (case z9hF => k_asm); (case z9hX => k_asm); (case z9hT => k_asm); (case z9ha => rfl); (case z9hb => rfl); (case z9he => exact ns_os _); (case z9hv => exact boot_os); (case z9hn => decide))))
  k_with "call builtin:len" =>
    ((k_here; (with_reducible show wpAny _ _ (call (Value.builtin _) [Value.bytes _ _]) _ _ _); refine len_bytes (by omega) ?_))
  k_fill
  intro B F X N hoff T hk hd hu hS hE hs hp1 hp2 hret htorn hahead
  obtain ⟨fd, cO, cT, cF, cE, cD, kd, ks, kr, ts, tr, oO, oT, oF, oE, oD, od, os, or, qd, qs, qr, y1, y2, y3, y4, y5, y6, y7, y8, y9, v1, v2, v3, k1, k2, k3, k4, k5, k6, k7, hx, hfd, hkd, hod, hv1, hfs, hks, hos, hv2, hts, hfr, hkr, hor, hv3, htr, hcO, hoO, hcT, hoT, hcF, hoF, hcE, hoE, hcD, hoD⟩ := hS
  obtain ⟨ck, cn1, cn2, cn3, cn4⟩ := cs
  have hk' : ck = .function := hk
  subst hk'
  refine wpAny_call ?_
  refine' kdv_code B F X N T rfl rfl rfl (List.mem_cons_of_mem _ hfs) (codeRec_news N (List.mem_cons_of_mem _ hks) hos hv2) (by ktr_room) ?k9 ?kB ?_ rfl rfl rfl (by decide)
  case k9 => refine' kdv_binds N ?m9 ?d9 ?h19 ?h29; (case d9 => exact rfl); (case m9 => exact (List.mem_cons_of_mem _ hts)); (case h19 => exact rfl); (case h29 => exact rfl)
  case kB => exact locs rfl
  intro g' L' h' FG' F' N' B' X' T'
  have eb : fBody seekStmt = fBody seekStmt := rfl
  conv at eb => rhs; whnf
  have es : fScope seekStmt = fScope seekStmt := rfl
  conv at es => rhs; whnf
  have ea : fArgs seekStmt = fArgs seekStmt := rfl
  conv at ea => rhs; whnf
  simp only [eb, es, ea]
  (try dsimp only); (try k_lift B'); (try k_fold)
  clear eb es ea
  k_steps
  · obtain rfl : pl = off := hp1 (by assumption)
    exact raisK_os B' (by k_asm) (by k_asm) (by k_asm) (by assumption) rfl rfl (fun h8 R8 S8 => hahead (by assumption) (by assumption) _ _ _ _ _ _ FG' R8 S8)
  · obtain rfl : pl = off := hp1 (by assumption)
    exact hret (by assumption) (by omega) _ _ _ _ _ (by assumption) (by assumption)
  · obtain rfl : pl = (b.size : Int) + off := hp2 (by assumption)
    exact raisK_os B' (by k_asm) (by k_asm) (by k_asm) (by assumption) rfl rfl (fun h8 R8 S8 => hahead (by assumption) (by assumption) _ _ _ _ _ _ FG' R8 S8)
  · obtain rfl : pl = (b.size : Int) + off := hp2 (by assumption)
    exact hret (by assumption) (by omega) _ _ _ _ _ (by assumption) (by assumption)
  · refine flew_on B' (by assumption) rfl (by assumption) (by assumption) fun h8 R8 S8 => ?_
    exact htorn (by assumption) _ _ _ _ FG' R8 S8
end Mine
end

section
open PySem PySem.W PySem.Calls PyProof.Rows
set_option maxRecDepth 100000
namespace Mine
local macro_rules | `(tactic| units_room) => `(tactic| ktr_units)
local macro_rules | `(tactic| k_room) => `(tactic| ktr_room)
local macro_rules | `(tactic| k_all) => `(tactic| first | assumption | exact ne_all (by assumption) | exact ne_lt (by assumption))
set_option maxHeartbeats 400000 in
theorem c_seek1 {w : World} {p : Program} {loose : List Str} {mean : ExcName → Option Value} {mg mb : Str → Option Value} {dp un : Nat} {gd : Option (List Code)} {cn : Str} {cs : Scope} {a : Addr} {ccd : Value} {cl : List (Str × Addr)} {outer : List Env} {A₀ : Around} {base h₀ : Heap} {L : Addr} {m : Str → Option Value} {R : List (Addr × Obj)} {s : Shared} {Q E : Value → Shared → Prop}
    {d x fs fr : Addr} {t1 t2 t3 t4 tn to u1 : Tok} {n o τ off : Int} {er : Value} {k : Nat} {e : Addr} {cls a0 : Value} {b : Array UInt8} :
    Below A₀ base outer h₀ → Fr h₀ L s.heap m → (Mine.hd.heap_39 w.params).In h₀ → News h₀ L s.heap ((d, dictF w t1 t2 t3 t4 fs fr n tn o to) :: R) → (∀ p ∈ R, p.1 ≠ d) → Top p loose mean mg mb h₀ → cs.kind = .function → dp + 40 < recursionLimit → un + 800 < cLine →
    St b τ er x d fs fr R → (n + 1 = τ → ErrIn er e k cls a0 R) → b.size ≤ 1000 → 
    (n + 1 ≠ τ → 0 ≤ off → ∀ h' tk tn' to' tv, Fr h₀ L h' m → News h₀ L h' ((d, dictF w t1 t2 t3 t4 fs fr (n + 1) tn' off to') :: R) → Q (.int off tv) { s with heap := h', toks := tk }) →
    (n + 1 = τ → ∀ G h' tk tn', Fr h₀ L G m → Flew base G (envX cn cs L a ccd cl :: outer) e cls a0 ((d, dictF w t1 t2 t3 t4 fs fr (n + 1) tn' o to) :: drop e R) h' → G.UpToSlots h' → E (.ref e) { s with heap := h', toks := tk }) →
    (n + 1 ≠ τ → off < 0 → ∀ G h' tk tn' e' a0', Fr h₀ L G m → Flew base G (envX cn cs L a ccd cl :: outer) e' (.type "OSError") a0' ((d, dictF w t1 t2 t3 t4 fs fr (n + 1) tn' o to) :: R) h' → G.UpToSlots h' → E (.ref e') { s with heap := h', toks := tk }) →
    wpAny (model Challenge.rw_kl0460_01.row.prog w) (ktrTop dp un gd cn cs L a ccd cl outer) (call (.ref fs) [.int off u1]) Q E s := by
  w_top off
  k_with_none
  k_with "eval Name" =>
    ((k_here; k_dflt (refine' free_R ?z9aN ?z9ac ?z9am ?z9ad ?_ ?z9aa ?z9ab; (case z9aa => rfl); (case z9ab => rfl); (case z9aN => k_asm); (case z9ac => rfl); (case z9am => with_reducible assumption); (case z9ad => with_reducible assumption))))
  k_with "getAttr ref" =>
    ((k_here; k_dflt (refine' get_off ?z9bF ?z9bX ?z9bN ?z9bhX ?_; (case z9bF => k_asm); (case z9bX => k_asm); (case z9bN => k_asm); (case z9bhX => with_reducible assumption))))
  k_with "setAttr ref" =>
    ((k_here; k_dflt (refine' put_off ?z9cF ?z9cX ?z9cN ?z9chX ?z9chD ?_; (case z9cF => k_asm); (case z9cX => k_asm); (case z9cN => k_asm); (case z9chX => with_reducible assumption); (case z9chD => with_reducible assumption)); intro h9 F9 N9))
  k_with "call ref" =>
    ((k_here; (with_reducible show wpAny _ _ (call (Value.ref _) []) _ _ _); k_dflt (refine' c_deed ?z9dB ?z9dF ?z9dX ?z9dN ?z9doff ?z9dT ?z9dk ?z9dd ?z9du ?z9dmX ?z9dE ?z9dfd ?z9dkd ?z9dod ?z9dvd ?z9dcT ?z9doT ?z9dcF ?z9doF ?z9dcE ?z9doE (fun hn9 h9 tk9 tn9 F9 N9 => ?_) (fun hn9 G9 h9 tk9 tn9 F9 R9 S9 => ?_); (case z9dB => k_asm); (case z9dF => k_asm); (case z9dX => k_asm); (case z9dN => k_asm); (case z9doff => with_reducible assumption); (case z9dT => k_asm); (case z9dk => rfl); (case z9dd => ktr_room); (case z9du => ktr_units); (case z9dmX => with_reducible assumption); (case z9dE => with_reducible assumption); (case z9dfd => with_reducible assumption); (case z9dkd => with_reducible assumption); (case z9dod => with_reducible assumption); (case z9dvd => with_reducible assumption); (case z9dcT => with_reducible assumption); (case z9doT => with_reducible assumption); (case z9dcF => with_reducible assumption); (case z9doF => with_reducible assumption); (case z9dcE => with_reducible assumption); (case z9doE => with_reducible assumption))))
  k_with "callWith ref" =>
    ((k_here; k_dflt (refine' callWith_F0 ?z9ek1 ?_; (case z9ek1 => exact fnat_deed (by k_asm) (by with_reducible assumption)); try dsimp only [List.nil_append, List.cons_append])))
  k_with "exec Raise some none" =>
    ((k_here; k_dflt (refine raise_gen ?_)))
  k_with "call type:OSError" =>
    ((k_here; k_dflt (refine' os_L ?z9gF ?z9gN (fun h9 e9 t9 F9 N9 d9 => ?_); (case z9gF => k_asm); (case z9gN => k_asm))))
  k_with "eval Name" =>
    ((k_here; (with_reducible show wpAny _ _ (eval (Expr.Name (Str.ofString "OSError") _) _) _ _ _); k_dflt (refine' nameX_B ?z9hF ?z9hX ?z9hT ?z9he ?z9hv ?z9hn ?_ ?z9ha ?z9hb; (case z9hF => k_asm); (case z9hX => k_asm); (case z9hT => k_asm); (case z9ha => rfl); (case z9hb => rfl); (case z9he => exact ns_os _); (case z9hv => exact boot_os); (case z9hn => decide))))
  k_with "call builtin:len" =>
    ((k_here; (with_reducible show wpAny _ _ (call (Value.builtin _) [Value.bytes _ _]) _ _ _); refine len_bytes (by omega) ?_))
  k_fill
  intro B F X N hoff T hk hd hu hS hE hs hret htorn hahead
  obtain ⟨fd, cO, cT, cF, cE, cD, kd, ks, kr, ts, tr, oO, oT, oF, oE, oD, od, os, or, qd, qs, qr, y1, y2, y3, y4, y5, y6, y7, y8, y9, v1, v2, v3, k1, k2, k3, k4, k5, k6, k7, hx, hfd, hkd, hod, hv1, hfs, hks, hos, hv2, hts, hfr, hkr, hor, hv3, htr, hcO, hoO, hcT, hoT, hcF, hoF, hcE, hoE, hcD, hoD⟩ := hS
  obtain ⟨ck, cn1, cn2, cn3, cn4⟩ := cs
  have hk' : ck = .function := hk
  subst hk'
  refine wpAny_call ?_
  refine' kdv_code B F X N T rfl rfl rfl (List.mem_cons_of_mem _ hfs) (codeRec_news N (List.mem_cons_of_mem _ hks) hos hv2) (by ktr_room) ?k9 ?kB ?_ rfl rfl rfl (by decide)
  case k9 => refine' kdv_binds N ?m9 ?d9 ?h19 ?h29; (case d9 => exact rfl); (case m9 => exact (List.mem_cons_of_mem _ hts)); (case h19 => exact rfl); (case h29 => exact rfl)
  case kB => exact locs rfl
  intro g' L' h' FG' F' N' B' X' T'
  have eb : fBody seekStmt = fBody seekStmt := rfl
  conv at eb => rhs; whnf
  have es : fScope seekStmt = fScope seekStmt := rfl
  conv at es => rhs; whnf
  have ea : fArgs seekStmt = fArgs seekStmt := rfl
  conv at ea => rhs; whnf
  simp only [eb, es, ea]
  (try dsimp only); (try k_lift B'); (try k_fold)
  clear eb es ea
  k_steps
  · exact raisK_os B' (by k_asm) (by k_asm) (by k_asm) (by assumption) rfl rfl (fun h8 R8 S8 => hahead (by assumption) (by assumption) _ _ _ _ _ _ FG' R8 S8)
  · exact hret (by assumption) (by omega) _ _ _ _ _ (by assumption) (by assumption)
  · refine flew_on B' (by assumption) rfl (by assumption) (by assumption) fun h8 R8 S8 => ?_
    exact htorn (by assumption) _ _ _ _ FG' R8 S8
end Mine
end

section
open PySem PySem.W PySem.Calls PyProof.Rows
set_option maxRecDepth 100000
namespace Mine
theorem picked_size (b : Array UInt8) (lo hi : Option Int) : (KBy.picked b lo hi).size ≤ b.size := by
  rw [KBc.picked_eq, List.size_toArray, List.length_take, List.length_drop, Array.length_toList]
  omega
theorem picked_fits {b : Array UInt8} {lo hi : Option Int} (h : b.size ≤ 1000) : (KBy.picked b lo hi).size ≤ 1099511627776 := by
  have := picked_size b lo hi
  omega
local macro_rules | `(tactic| units_room) => `(tactic| ktr_units)
local macro_rules | `(tactic| k_room) => `(tactic| ktr_room)
local macro_rules | `(tactic| k_all) => `(tactic| first | assumption | exact ne_all (by assumption) | exact ne_lt (by assumption))
set_option maxHeartbeats 400000 in
theorem c_read {w : World} {p : Program} {loose : List Str} {mean : ExcName → Option Value} {mg mb : Str → Option Value} {dp un : Nat} {gd : Option (List Code)} {cn : Str} {cs : Scope} {a : Addr} {ccd : Value} {cl : List (Str × Addr)} {outer : List Env} {A₀ : Around} {base h₀ : Heap} {L : Addr} {m : Str → Option Value} {R : List (Addr × Obj)} {s : Shared} {Q E : Value → Shared → Prop}
    {d x fs fr : Addr} {t1 t2 t3 t4 tn to u1 : Tok} {n o τ cnt : Int} {er : Value} {k : Nat} {e : Addr} {cls a0 : Value} {b : Array UInt8} :
    Below A₀ base outer h₀ → Fr h₀ L s.heap m → (Mine.hd.heap_39 w.params).In h₀ → News h₀ L s.heap ((d, dictF w t1 t2 t3 t4 fs fr n tn o to) :: R) → (∀ p ∈ R, p.1 ≠ d) → Top p loose mean mg mb h₀ → cs.kind = .function → dp + 40 < recursionLimit → un + 800 < cLine →
    St b τ er x d fs fr R → (n + 1 = τ → ErrIn er e k cls a0 R) → b.size ≤ 1000 →
    (n + 1 ≠ τ → ∀ h' tk tn' to' tv, Fr h₀ L h' m → News h₀ L h' ((d, dictF w t1 t2 t3 t4 fs fr (n + 1) tn' (o + (KBy.picked b (some o) (some (o + cnt))).size) to') :: R) → Q (.bytes (KBy.picked b (some o) (some (o + cnt))) tv) { s with heap := h', toks := tk }) →
    (n + 1 = τ → ∀ G h' tk tn', Fr h₀ L G m → Flew base G (envX cn cs L a ccd cl :: outer) e cls a0 ((d, dictF w t1 t2 t3 t4 fs fr (n + 1) tn' o to) :: drop e R) h' → G.UpToSlots h' → E (.ref e) { s with heap := h', toks := tk }) →
    wpAny (model Challenge.rw_kl0460_01.row.prog w) (ktrTop dp un gd cn cs L a ccd cl outer) (call (.ref fr) [.int cnt u1]) Q E s := by
  w_top off
  k_with_none
  k_with "eval Name" =>
    ((k_here; k_dflt (refine' free_R ?z9aN ?z9ac ?z9am ?z9ad ?_ ?z9aa ?z9ab; (case z9aa => rfl); (case z9ab => rfl); (case z9aN => k_asm); (case z9ac => rfl); (case z9am => with_reducible assumption); (case z9ad => with_reducible assumption))))
  k_with "getAttr ref" =>
    ((k_here; k_dflt (refine' get_off ?z9bF ?z9bX ?z9bN ?z9bhX ?_; (case z9bF => k_asm); (case z9bX => k_asm); (case z9bN => k_asm); (case z9bhX => with_reducible assumption))))
  k_with "setAttr ref" =>
    ((k_here; k_dflt (refine' put_off ?z9cF ?z9cX ?z9cN ?z9chX ?z9chD ?_; (case z9cF => k_asm); (case z9cX => k_asm); (case z9cN => k_asm); (case z9chX => with_reducible assumption); (case z9chD => with_reducible assumption)); intro h9 F9 N9))
  k_with "call ref" =>
    ((k_here; (with_reducible show wpAny _ _ (call (Value.ref _) []) _ _ _); k_dflt (refine' c_deed ?z9dB ?z9dF ?z9dX ?z9dN ?z9doff ?z9dT ?z9dk ?z9dd ?z9du ?z9dmX ?z9dE ?z9dfd ?z9dkd ?z9dod ?z9dvd ?z9dcT ?z9doT ?z9dcF ?z9doF ?z9dcE ?z9doE (fun hn9 h9 tk9 tn9 F9 N9 => ?_) (fun hn9 G9 h9 tk9 tn9 F9 R9 S9 => ?_); (case z9dB => k_asm); (case z9dF => k_asm); (case z9dX => k_asm); (case z9dN => k_asm); (case z9doff => with_reducible assumption); (case z9dT => k_asm); (case z9dk => rfl); (case z9dd => ktr_room); (case z9du => ktr_units); (case z9dmX => with_reducible assumption); (case z9dE => with_reducible assumption); (case z9dfd => with_reducible assumption); (case z9dkd => with_reducible assumption); (case z9dod => with_reducible assumption); (case z9dvd => with_reducible assumption); (case z9dcT => with_reducible assumption); (case z9doT => with_reducible assumption); (case z9dcF => with_reducible assumption); (case z9doF => with_reducible assumption); (case z9dcE => with_reducible assumption); (case z9doE => with_reducible assumption))))
  k_with "callWith ref" =>
    ((k_here; k_dflt (refine' callWith_F0 ?z9ek1 ?_; (case z9ek1 => exact fnat_deed (by k_asm) (by with_reducible assumption)); try dsimp only [List.nil_append, List.cons_append])))
  k_with "exec Raise some none" =>
    ((k_here; k_dflt (refine raise_gen ?_)))
  k_with "call type:OSError" =>
    ((k_here; k_dflt (refine' os_L ?z9gF ?z9gN (fun h9 e9 t9 F9 N9 d9 => ?_); (case z9gF => k_asm); (case z9gN => k_asm))))
  k_with "eval Name" =>
    ((k_here; (with_reducible show wpAny _ _ (eval (Expr.Name (Str.ofString "OSError") _) _) _ _ _); k_dflt (refine' nameX_B ?z9hF ?z9hX ?z9hT ?z9he ?z9hv ?z9hn ?_ ?z9ha ?z9hb; (case z9hF => k_asm); (case z9hX => k_asm); (case z9hT => k_asm); (case z9ha => rfl); (case z9hb => rfl); (case z9he => exact ns_os _); (case z9hv => exact boot_os); (case z9hn => decide))))
  k_with "call builtin:len" =>
    ((k_here; (with_reducible show wpAny _ _ (call (Value.builtin _) [Value.bytes _ _]) _ _ _); refine len_bytes (by first | omega | exact picked_fits (by assumption)) ?_))
  k_with "subscriptTail" =>
    ((k_here; (with_reducible show wpAny _ _ (subscriptTail _ (Expr.Slice _ _ none _) (Value.bytes _ _) (Value.ref _)) _ _ _); (with_reducible rename Fr _ _ _ _ => F'); (with_reducible rename News _ _ _ _ => N'); (refine slice_bytes (s := ⟨_, _, _, _, _⟩) F' N' (by constructor) (by constructor) (by omega) ?_); intro _ _ _ F' N'))
  k_fill
  intro B F X N hoff T hk hd hu hS hE hs hret htorn
  obtain ⟨fd, cO, cT, cF, cE, cD, kd, ks, kr, ts, tr, oO, oT, oF, oE, oD, od, os, or, qd, qs, qr, y1, y2, y3, y4, y5, y6, y7, y8, y9, v1, v2, v3, k1, k2, k3, k4, k5, k6, k7, hx, hfd, hkd, hod, hv1, hfs, hks, hos, hv2, hts, hfr, hkr, hor, hv3, htr, hcO, hoO, hcT, hoT, hcF, hoF, hcE, hoE, hcD, hoD⟩ := hS
  obtain ⟨ck, cn1, cn2, cn3, cn4⟩ := cs
  have hk' : ck = .function := hk
  subst hk'
  refine wpAny_call ?_
  refine' kdv_code B F X N T rfl rfl rfl (List.mem_cons_of_mem _ hfr) (codeRec_news N (List.mem_cons_of_mem _ hkr) hor hv3) (by ktr_room) ?k9 ?kB ?_ rfl rfl rfl (by decide)
  case k9 => refine' kdv_binds N ?m9 ?d9 ?h19 ?h29; (case d9 => exact rfl); (case m9 => exact (List.mem_cons_of_mem _ htr)); (case h19 => exact rfl); (case h29 => exact rfl)
  case kB => exact locs rfl
  intro g' L' h' FG' F' N' B' X' T'
  have eb : fBody readStmt = fBody readStmt := rfl
  conv at eb => rhs; whnf
  have es : fScope readStmt = fScope readStmt := rfl
  conv at es => rhs; whnf
  have ea : fArgs readStmt = fArgs readStmt := rfl
  conv at ea => rhs; whnf
  simp only [eb, es, ea]
  (try dsimp only); (try k_lift B'); (try k_fold)
  clear eb es ea
  k_steps
  · exact hret (by assumption) _ _ _ _ _ (by assumption) (by assumption)
  · refine flew_on B' (by assumption) rfl (by assumption) (by assumption) fun h8 R8 S8 => ?_
    exact htorn (by assumption) _ _ _ _ FG' R8 S8
end Mine
end

section
open PySem PySem.W PyProof.Rows
set_option maxRecDepth 100000
namespace Mine
theorem mul_lo (n : Int) : -1048576 ≤ 1 + (n.fdiv 8).fmod 20 := by
  have h := Int.fmod_nonneg_of_pos (n.fdiv 8) (b := 20) (by decide)
  omega
theorem mul_hi (n : Int) : 1 + (n.fdiv 8).fmod 20 ≤ 1048576 := by
  have h := Int.fmod_lt_of_pos (n.fdiv 8) (b := 20) (by decide)
  omega
def No7 (b : Array UInt8) : Prop := ∀ x ∈ b.toList, x ≠ 7
theorem no7_mk {l : List UInt8} (h : ∀ x ∈ l, x ≠ 7) : No7 l.toArray := h
theorem picked_sub {b : Array UInt8} {lo hi : Option Int} : ∀ x ∈ (KBy.picked b lo hi).toList, x ∈ b.toList := by
  intro x hx
  rw [KBc.picked_eq] at hx
  exact List.mem_of_mem_drop (List.mem_of_mem_take hx)
theorem no7_picked {b : Array UInt8} {lo hi : Option Int} (h : No7 b) : No7 (KBy.picked b lo hi) := fun x hx => h x (picked_sub x hx)
theorem picked22 (b : Array UInt8) : (KBy.picked b (some (-22)) none).size ≤ 22 := by
  rw [KBc.picked_eq, List.size_toArray, List.length_take, List.length_drop, Array.length_toList]
  have e : clipAt b.size (-22) = b.size - 22 := by
    unfold clipAt
    first | omega | (simp; omega) | (split <;> omega)
  show min (b.size - clipAt b.size (-22)) (b.size - clipAt b.size (-22)) ≤ 22
  rw [e]
  omega
def PieceOk (v : Value) : Prop := ∃ pc t, v = .bytes pc t ∧ pc.size ≤ 22 ∧ No7 pc
theorem pieceOk_list {l : List UInt8} {t : Tok} (h1 : l.length ≤ 22) (h2 : ∀ x ∈ l, x ≠ 7) : PieceOk (.bytes l.toArray t) := ⟨_, _, rfl, by rw [List.size_toArray]; exact h1, h2⟩
theorem pieceOk_picked {b : Array UInt8} {t : Tok} (h : No7 b) : PieceOk (.bytes (KBy.picked b (some (-22)) none) t) := ⟨_, _, rfl, picked22 b, no7_picked h⟩
theorem flat_rep (k : Nat) : (List.replicate k [(0 : UInt8)]).flatten = List.replicate k 0 := by
  induction k with
  | zero => rfl
  | succ k ih => rw [List.replicate_succ, List.flatten_cons, ih, List.replicate_succ]; rfl
theorem pieceOk_rep {n : Int} {t : Tok} : PieceOk (.bytes (List.replicate (1 + (n.fdiv 8).fmod 20).toNat [(0 : UInt8)]).flatten.toArray t) := by
  have h := Int.fmod_lt_of_pos (n.fdiv 8) (b := 20) (by decide)
  have h' := Int.fmod_nonneg_of_pos (n.fdiv 8) (b := 20) (by decide)
  refine pieceOk_list ?_ ?_
  · rw [flat_rep, List.length_replicate]
    omega
  · rw [flat_rep]
    intro x hx
    rw [List.eq_of_mem_replicate hx]
    decide
theorem pieceOk_one {n : Int} {t : Tok} (h : ¬ (n.fdiv 8).fmod 256 = 7) : PieceOk (.bytes #[((n.fdiv 8).fmod 256).toNat.toUInt8] t) := by
  have h1 := Int.fmod_lt_of_pos (n.fdiv 8) (b := 256) (by decide)
  have h2 := Int.fmod_nonneg_of_pos (n.fdiv 8) (b := 256) (by decide)
  refine pieceOk_list (l := [_]) (by simp) ?_
  intro x hx
  rw [List.mem_singleton.mp hx]
  intro q
  have q' := congrArg UInt8.toNat q
  rw [Nat.toUInt8, UInt8.toNat_ofNat'] at q'
  have : (7 : UInt8).toNat = 7 := rfl
  omega
set_option maxHeartbeats 8000000 in
theorem c_piece (w : World) (row : Array UInt8) (tr : Tok) (n : Int) (tn : Tok) (hs : row.size ≤ 1000) (h7 : No7 row) : PureC w 160 [.bytes row tr, .int n tn] PieceOk := by
  w_top off
  k_with_none
  k_with "binaryOp Mult bytes int" =>
    ((k_here; (with_reducible show wpAny _ _ (binaryOp Operator.Mult (Value.bytes _ _) (Value.int (1 + _) _)) _ _ _); k_dflt (refine' bytes_mul_any (b := [0]) ?z9ab ?z9ah1 ?z9ahn ?z9ahs ?_; (case z9ab => exact List.cons_ne_nil _ _); (case z9ah1 => exact mul_lo _); (case z9ahn => exact mul_hi _); (case z9ahs => decide); k_whole); intro _ _))
  k_with "subscriptTail" =>
    ((k_here; (with_reducible show wpAny _ _ (subscriptTail _ (Expr.Slice _ _ none _) (Value.bytes _ _) (Value.ref _)) _ _ _); (with_reducible rename Fr _ _ _ _ => F'); (with_reducible rename News _ _ _ _ => N'); (refine slice_bytes (s := ⟨_, _, _, _, _⟩) F' N' (by constructor) (by constructor) (by first | assumption | omega | (simp only [Array.size_extract] at *; omega)) ?_); intro _ _ _ F' N'))
  unfold PureC
  k_fill
  intro p loose mean mg mb dp un gd cn cs a ccd cl outer A₀ base h₀ L m news s Q E B F X N T hk hd hu hret
  refine wpAny_call ?_
  k_dflt ktr_enter
  k_steps
  all_goals (refine hret _ _ _ ?_ (by k_asm) (by first | k_asm | exact cb_drop (by assumption) (fun p hp => List.mem_cons_of_mem _ hp)); first
    | exact pieceOk_rep
    | exact pieceOk_picked h7
    | exact pieceOk_one (by assumption)
    | exact pieceOk_list (l := _) (by simp) (by simp)
    | exact pieceOk_list (l := [_]) (by simp) (by decide)
    | skip)
end Mine
end

section
open PySem PySem.W PySem.Calls PyProof.Rows
namespace Mine
-- the deeds so far: none of them tore
def Al (n τ : Int) : Prop := 0 ≤ n ∧ (τ = 0 ∨ n < τ)
theorem al_next {n τ : Int} (h : Al n τ) (hn : n + 1 ≠ τ) : Al (n + 1) τ := by
  obtain ⟨h1, h2⟩ := h
  exact ⟨by omega, by omega⟩
theorem al_torn {n τ : Int} (h : Al n τ) (hn : n + 1 = τ) : 0 < τ := by
  obtain ⟨h1, h2⟩ := h
  omega
theorem err_of {n τ : Int} {er : Value} {e : Addr} {k : Nat} {cls a0 : Value} {R : List (Addr × Obj)} (hE : 0 < τ → ErrIn er e k cls a0 R) (h : Al n τ) : n + 1 = τ → ErrIn er e k cls a0 R := fun hn => hE (al_torn h hn)
section
variable {prog : Program} {w : World} {A : Around} {E : Value → Shared → Prop} {s : Shared}
theorem ne_bytes7 {b c : Array UInt8} {t u : Tok} {Q : Value → Shared → Prop} (h7 : No7 b) (hc : (7 : UInt8) ∈ c.toList) (h : Q (.bool true) s) : wpAny (model prog w) A (compareOp .NotEq (.bytes b t) (.bytes c u)) Q E s := by
  refine ne_bytes ?_
  have e : (b.toList != c.toList) = true := by
    rw [bne_iff_ne]
    intro z
    rw [← z] at hc
    exact h7 7 hc rfl
  rw [e]
  exact h
end
theorem no7_ext {b : Array UInt8} {i j : Nat} (h : No7 b) : No7 (b.extract i j) := fun x hx => h x (by
  rw [Array.toList_extract] at hx
  exact List.mem_of_mem_drop (List.mem_of_mem_take hx))
theorem picked_len {b : Array UInt8} {i j : Int} (hi : 0 ≤ i) (hij : i ≤ j) (hj : j ≤ b.size) : ((KBy.picked b (some i) (some j)).size : Int) = j - i := by
  rw [KBc.picked_eq, List.size_toArray, List.length_take, List.length_drop, Array.length_toList]
  simp only [Option.elim, clipAt]
  omega
end Mine
end

section
open PySem PySem.W PySem.Calls PyProof.Rows
set_option maxRecDepth 100000
namespace Mine
local macro_rules | `(tactic| units_room) => `(tactic| ktr_units)
local macro_rules | `(tactic| k_room) => `(tactic| ktr_room)
local macro_rules | `(tactic| k_all) => `(tactic| first | assumption | exact ne_all (by assumption) | exact ne_lt (by assumption))
local macro_rules | `(tactic| k_lt $h:ident) => `(tactic| (replace $h := allLt_of $h; simp only [AllLt, and_true] at $h:ident; (repeat (have hlt9 := And.left $h; replace $h := And.right $h))))
set_option maxHeartbeats 400000 in
theorem c_e64 {w : World} {p : Program} {loose : List Str} {mean : ExcName → Option Value} {mg mb : Str → Option Value} {dp un : Nat} {gd : Option (List Code)} {cn : Str} {cs : Scope} {a : Addr} {ccd : Value} {cl : List (Str × Addr)} {outer : List Env} {A₀ : Around} {base h₀ : Heap} {L : Addr} {m : Str → Option Value} {R : List (Addr × Obj)} {s : Shared} {Q E : Value → Shared → Prop}
    {d x fs fr lst : Addr} {t1 t2 t3 t4 tn to u1 : Tok} {n o τ off : Int} {er : Value} {k : Nat} {e : Addr} {cls a0 : Value} {b : Array UInt8} :
    Below A₀ base outer h₀ → Fr h₀ L s.heap m → (Mine.hd.heap_39 w.params).In h₀ → News h₀ L s.heap ((d, dictF w t1 t2 t3 t4 fs fr n tn o to) :: R) → (∀ p ∈ R, p.1 ≠ d) → Top p loose mean mg mb h₀ → cs.kind = .function → dp + 60 < recursionLimit → un + 1200 < cLine →
    St b τ er x d fs fr R → (0 < τ → ErrIn er e k cls a0 R) → b.size ≤ 1000 → No7 b → Al n τ → off ≤ b.size →
    (∀ n' o' h' tk tn' to', Al n' τ → Fr h₀ L h' m → News h₀ L h' ((d, dictF w t1 t2 t3 t4 fs fr n' tn' o' to') :: R) → Q (.ref lst) { s with heap := h', toks := tk }) →
    (0 < τ → ∀ G h' tk tn' o' to', Fr h₀ L G m → Flew base G (envX cn cs L a ccd cl :: outer) e cls a0 ((d, dictF w t1 t2 t3 t4 fs fr τ tn' o' to') :: drop e R) h' → G.UpToSlots h' → E (.ref e) { s with heap := h', toks := tk }) →
    wpAny (model Challenge.rw_kl0460_01.row.prog w) (ktrTop dp un gd cn cs L a ccd cl outer) (call (.ref 83) [.ref x, .int off u1, .ref lst]) Q E s := by
  w_top off
  k_with_none
  k_with "getMethod ref" =>
    ((k_here; k_dflt (first | (refine' meth_seek ?z9aF ?z9aX ?z9aN ?z9ahX ?_; (case z9aF => k_asm); (case z9aX => k_asm); (case z9aN => k_asm); (case z9ahX => with_reducible assumption)) | (refine' meth_read ?z9aF ?z9aX ?z9aN ?z9ahX ?_; (case z9aF => k_asm); (case z9aX => k_asm); (case z9aN => k_asm); (case z9ahX => with_reducible assumption)))))
  k_with "FnAt" =>
    ((k_dflt (first | exact fnat_seek (by k_asm) (by with_reducible assumption) | exact fnat_read (by k_asm) (by with_reducible assumption))))
  k_with "callWith ref" =>
    ((k_here; k_dflt (refine' callWith_F ?z9ck1 ?_; (case z9ck1 => first | exact fnat_seek (by k_asm) (by with_reducible assumption) | exact fnat_read (by k_asm) (by with_reducible assumption)))))
  k_with "call builtin:len" =>
    ((k_here; (with_reducible show wpAny _ _ (call (Value.builtin _) [Value.bytes _ _]) _ _ _); refine len_bytes (by first | omega | exact picked_fits (by assumption)) ?_))
  k_with "call ref" =>
    ((k_here; k_dflt (first | (refine' c_seek1 ?z9eB ?z9eF ?z9eX ?z9eN ?z9eoff ?z9eT ?z9ek ?z9ed ?z9eu ?z9eSt ?z9eE ?z9es  (fun hn9 hp9 h9 tk9 tn9 to9 tv9 F9 N9 => have al9 := al_next (by assumption) hn9; ?_) (fun hn9 G9 h9 tk9 tn9 F9 R9 S9 => have al9 := al_torn (by assumption) hn9; ?_) (fun _ hneg9 => absurd hneg9 (by omega)); (case z9eB => k_asm); (case z9eF => k_asm); (case z9eX => k_asm); (case z9eN => k_asm); (case z9eoff => with_reducible assumption); (case z9eT => k_asm); (case z9ek => rfl); (case z9ed => ktr_room); (case z9eu => ktr_units); (case z9eSt => with_reducible assumption); (case z9eE => with_reducible exact err_of (by assumption) (by assumption)); (case z9es => with_reducible assumption)) | (refine' c_read ?z9eB ?z9eF ?z9eX ?z9eN ?z9eoff ?z9eT ?z9ek ?z9ed ?z9eu ?z9eSt ?z9eE ?z9es  (fun hn9 h9 tk9 tn9 to9 tv9 F9 N9 => have al9 := al_next (by assumption) hn9; ?_) (fun hn9 G9 h9 tk9 tn9 F9 R9 S9 => have al9 := al_torn (by assumption) hn9; ?_) ; (case z9eB => k_asm); (case z9eF => k_asm); (case z9eX => k_asm); (case z9eN => k_asm); (case z9eoff => with_reducible assumption); (case z9eT => k_asm); (case z9ek => rfl); (case z9ed => ktr_room); (case z9eu => ktr_units); (case z9eSt => with_reducible assumption); (case z9eE => with_reducible exact err_of (by assumption) (by assumption)); (case z9es => with_reducible assumption)))))
  k_with "call builtin:_struct.unpack" =>
    ((k_here; k_dflt (refine' call_unpack_B ?z9fF ?z9fN ?z9fz (fun q9 vs9 h9 tk9 hv9 F9 N9 l9 => ?_); (case z9fF => k_asm); (case z9fN => k_asm); (case z9fz => omega); obtain ⟨t90, t91, t92, t93, n91, n92, n93, hv8⟩ := hv9; subst hv8)))
  k_with "compareOp NotEq bytes bytes" =>
    ((k_here; refine ne_bytes7 (no7_ext (no7_picked (by assumption))) (by decide) ?_))
  k_fill
  intro B F X N hoff T hk hd hu hS hE hs h7 hal hof hret htorn
  have hx : (x, instObj 135 d) ∈ R := by cases hS; assumption
  have hfs : ∃ cO cF cD qs ts u4 u5 u6 ks, (fs, seekObj cO cF cD qs (.ref ts) u4 u5 u6 ks) ∈ R := by cases hS; exact ⟨_, _, _, _, _, _, _, _, _, by assumption⟩
  have hfr : ∃ cO cF cD qs ts u4 u5 u6 ks, (fr, readObj cO cF cD qs (.ref ts) u4 u5 u6 ks) ∈ R := by cases hS; exact ⟨_, _, _, _, _, _, _, _, _, by assumption⟩
  obtain ⟨cO, cF, cD, qs, ts, u4, u5, u6, ks, hfs⟩ := hfs
  obtain ⟨rO, rF, rD, rs, rt, r4, r5, r6, rk, hfr⟩ := hfr
  obtain ⟨ck, cn1, cn2, cn3, cn4⟩ := cs
  have hk' : ck = .function := hk
  subst hk'
  refine wpAny_call ?_
  k_dflt k_enter
  k_steps
  · exact hret _ _ _ _ _ _ hal (by k_asm) (by k_asm)
  · exfalso
    have z := picked_len (b := b) (i := off - 20) (j := off - 20 + 20) (by omega) (by omega) (by omega)
    omega
  · exact hret _ _ _ _ _ _ (by assumption) (by k_asm) (News.perm (by k_asm) fun p hp => List.mem_cons_of_mem _ hp)
  · have h0 : 0 < τ := by assumption
    have hn8 : n + 1 + 1 = τ := by assumption
    subst hn8
    refine' flew_on ?K ?F ?hf ?R ?S ?_
    case R => assumption
    case F => assumption
    case K => assumption
    case hf => rfl
    case S => assumption
    intro h8 R8 S8
    exact htorn h0 _ _ _ _ _ _ (by assumption) R8 S8
  · have h0 : 0 < τ := by assumption
    have hn8 : n + 1 = τ := by assumption
    subst hn8
    refine' flew_on ?K ?F ?hf ?R ?S ?_
    case R => assumption
    case F => assumption
    case K => assumption
    case hf => rfl
    case S => assumption
    intro h8 R8 S8
    exact htorn h0 _ _ _ _ _ _ (by assumption) R8 S8
end Mine
end

section
open PySem PySem.W PySem.Calls PyProof.Rows
set_option maxRecDepth 100000
namespace Mine
local macro_rules | `(tactic| units_room) => `(tactic| ktr_units)
local macro_rules | `(tactic| k_room) => `(tactic| ktr_room)
local macro_rules | `(tactic| k_all) => `(tactic| first | assumption | exact ne_all (by assumption) | exact ne_lt (by assumption))
local macro_rules | `(tactic| k_lt $h:ident) => `(tactic| (replace $h := allLt_of $h; simp only [AllLt, and_true] at $h:ident; (repeat (have hlt9 := And.left $h; replace $h := And.right $h))))
theorem c_seek_abs {w : World} {p : Program} {loose : List Str} {mean : ExcName → Option Value} {mg mb : Str → Option Value} {dp un : Nat} {gd : Option (List Code)} {cn : Str} {cs : Scope} {a : Addr} {ccd : Value} {cl : List (Str × Addr)} {outer : List Env} {A₀ : Around} {base h₀ : Heap} {L : Addr} {m : Str → Option Value} {R : List (Addr × Obj)} {s : Shared} {Q E : Value → Shared → Prop}
    {d x fs fr : Addr} {t1 t2 t3 t4 tn to u1 u2 : Tok} {n o τ off : Int} {er : Value} {k : Nat} {e : Addr} {cls a0 : Value} {b : Array UInt8} :
    Below A₀ base outer h₀ → Fr h₀ L s.heap m → (Mine.hd.heap_39 w.params).In h₀ → News h₀ L s.heap ((d, dictF w t1 t2 t3 t4 fs fr n tn o to) :: R) → (∀ p ∈ R, p.1 ≠ d) → Top p loose mean mg mb h₀ → cs.kind = .function → dp + 40 < recursionLimit → un + 800 < cLine →
    St b τ er x d fs fr R → (n + 1 = τ → ErrIn er e k cls a0 R) → b.size ≤ 1000 → 
    (n + 1 ≠ τ → 0 ≤ off → ∀ h' tk tn' to' tv, Fr h₀ L h' m → News h₀ L h' ((d, dictF w t1 t2 t3 t4 fs fr (n + 1) tn' off to') :: R) → Q (.int off tv) { s with heap := h', toks := tk }) →
    (n + 1 = τ → ∀ G h' tk tn', Fr h₀ L G m → Flew base G (envX cn cs L a ccd cl :: outer) e cls a0 ((d, dictF w t1 t2 t3 t4 fs fr (n + 1) tn' o to) :: drop e R) h' → G.UpToSlots h' → E (.ref e) { s with heap := h', toks := tk }) →
    (n + 1 ≠ τ → off < 0 → ∀ G h' tk tn' e' a0', Fr h₀ L G m → Flew base G (envX cn cs L a ccd cl :: outer) e' (.type "OSError") a0' ((d, dictF w t1 t2 t3 t4 fs fr (n + 1) tn' o to) :: R) h' → G.UpToSlots h' → E (.ref e') { s with heap := h', toks := tk }) →
    wpAny (model Challenge.rw_kl0460_01.row.prog w) (ktrTop dp un gd cn cs L a ccd cl outer) (call (.ref fs) [.int off u1, .int 0 u2]) Q E s := fun B F X N hoff T hk hd hu hS hE hs hret htorn hahead => c_seek2 (pl := off) (wh := 0) B F X N hoff T hk hd hu hS hE hs (fun _ => rfl) (fun h => absurd rfl h) hret htorn hahead
theorem c_seek_end {w : World} {p : Program} {loose : List Str} {mean : ExcName → Option Value} {mg mb : Str → Option Value} {dp un : Nat} {gd : Option (List Code)} {cn : Str} {cs : Scope} {a : Addr} {ccd : Value} {cl : List (Str × Addr)} {outer : List Env} {A₀ : Around} {base h₀ : Heap} {L : Addr} {m : Str → Option Value} {R : List (Addr × Obj)} {s : Shared} {Q E : Value → Shared → Prop}
    {d x fs fr : Addr} {t1 t2 t3 t4 tn to u1 u2 : Tok} {n o τ off : Int} {er : Value} {k : Nat} {e : Addr} {cls a0 : Value} {b : Array UInt8} :
    Below A₀ base outer h₀ → Fr h₀ L s.heap m → (Mine.hd.heap_39 w.params).In h₀ → News h₀ L s.heap ((d, dictF w t1 t2 t3 t4 fs fr n tn o to) :: R) → (∀ p ∈ R, p.1 ≠ d) → Top p loose mean mg mb h₀ → cs.kind = .function → dp + 40 < recursionLimit → un + 800 < cLine →
    St b τ er x d fs fr R → (n + 1 = τ → ErrIn er e k cls a0 R) → b.size ≤ 1000 → 
    (n + 1 ≠ τ → 0 ≤ ((b.size : Int) + off) → ∀ h' tk tn' to' tv, Fr h₀ L h' m → News h₀ L h' ((d, dictF w t1 t2 t3 t4 fs fr (n + 1) tn' ((b.size : Int) + off) to') :: R) → Q (.int ((b.size : Int) + off) tv) { s with heap := h', toks := tk }) →
    (n + 1 = τ → ∀ G h' tk tn', Fr h₀ L G m → Flew base G (envX cn cs L a ccd cl :: outer) e cls a0 ((d, dictF w t1 t2 t3 t4 fs fr (n + 1) tn' o to) :: drop e R) h' → G.UpToSlots h' → E (.ref e) { s with heap := h', toks := tk }) →
    (n + 1 ≠ τ → ((b.size : Int) + off) < 0 → ∀ G h' tk tn' e' a0', Fr h₀ L G m → Flew base G (envX cn cs L a ccd cl :: outer) e' (.type "OSError") a0' ((d, dictF w t1 t2 t3 t4 fs fr (n + 1) tn' o to) :: R) h' → G.UpToSlots h' → E (.ref e') { s with heap := h', toks := tk }) →
    wpAny (model Challenge.rw_kl0460_01.row.prog w) (ktrTop dp un gd cn cs L a ccd cl outer) (call (.ref fs) [.int off u1, .int 2 u2]) Q E s := fun B F X N hoff T hk hd hu hS hE hs hret htorn hahead => c_seek2 (pl := ((b.size : Int) + off)) (wh := 2) B F X N hoff T hk hd hu hS hE hs (fun h => absurd h (by decide)) (fun _ => rfl) hret htorn hahead
section
variable {w : World} {A : Around} {E : Value → Shared → Prop} {s : Shared} {h₀ : Heap} {L x d fs fr : Addr} {m : Str → Option Value} {l : List (Addr × Obj)} {t1 t2 t3 t4 tn to : Tok} {n o : Int}
set_option maxHeartbeats 4000000 in
theorem pg_tell (P : Params) : plainGet (Mine.hd.heap_39 P) 135 (Str.ofString "tell") = true := by kernel_rfl
set_option maxHeartbeats 4000000 in
theorem fi_tell (P : Params) : findIn (Mine.hd.heap_39 P) (.ref 135) (Str.ofString "tell") = some (some (.ref 118)) := by kernel_rfl
set_option maxHeartbeats 4000000 in
theorem fn_tell (P : Params) : isFn (Mine.hd.heap_39 P) (.ref 118) = true := by kernel_rfl
theorem meth_tell {pl : Sem Bool} {Q : Value × List Value → Shared → Prop} (F : Fr h₀ L s.heap m) (X : (Mine.hd.heap_39 w.params).In h₀) (N : News h₀ L s.heap ((d, dictF w t1 t2 t3 t4 fs fr n tn o to) :: l)) (hX : (x, instObj 135 d) ∈ l) (h : Q (.ref 118, [.ref x]) s) :
    wpAny (model Challenge.rw_kl0460_01.row.prog w) A (getMethod (.ref x) (Str.ofString "tell") pl) Q E s :=
  method_inst F X (inst_F N hX) (pg_tell _) (fi_tell _) (fn_tell _) rfl h
end
end Mine
end

section
open PySem PySem.W PyProof.Rows
set_option maxRecDepth 100000
namespace Mine
theorem ne_lt1 {l : List (Addr × Obj)} {d : Addr} (h : ∀ p ∈ l, p.1 < d) : ∀ p ∈ l, p.1 ≠ d + 1 := fun p hp => Nat.ne_of_lt (Nat.lt_succ_of_lt (h p hp))
theorem ne_lt2 {l : List (Addr × Obj)} {d : Addr} (h : ∀ p ∈ l, p.1 < d) : ∀ p ∈ l, p.1 ≠ d + 1 + 1 := fun p hp => Nat.ne_of_lt (Nat.lt_succ_of_lt (Nat.lt_succ_of_lt (h p hp)))
def pickG (f : Int → Bool) (l : List Int) (k : Int) : List Int := if f k = true then l ++ [k] else l
theorem pickG_grows (f : Int → Bool) : KPfGrows (pickG f) := by
  intro a k
  unfold pickG
  split <;> simp
theorem pick_yes {f : Int → Bool} {l : List Int} {k : Int} (h : f k = true) : pickG f l k = l ++ [k] := if_pos h
theorem pick_no {f : Int → Bool} {l : List Int} {k : Int} (h : ¬ f k = true) : pickG f l k = l := if_neg h
theorem pick_no' {f : Int → Bool} {l : List Int} {k : Int} (h : f k = false) : pickG f l k = l := if_neg (by rw [h]; exact Bool.false_ne_true)
def GMark (_ : Int → Bool) : Prop := True
def hitAt (b : Array UInt8) (k : Int) : Bool := (KBy.picked b (some k) (some (k + 4))).toList == [80, 75, 5, 6]
section
variable {prog : Program} {w : World} {A : Around} {h₀ : Heap} {L : Addr} {m : Str → Option Value} {env : Env} {ct elt : Expr} {x : Str} {scope : Scope} {cl : List (Str × Addr)} {s : Shared} {S : List (Addr × Obj) → Prop} {P : Nat → Value → Prop} {Fin : List Value → List (Addr × Obj) → Prop} {news : List (Addr × Obj)}
theorem kci_rangeG {n : Nat} {a : Int} {f : Int → Bool} (_ : GMark f)
    (turn : ∀ k t I oI C oC D m₂ ys l h tk (E' : Value → Shared → Prop), a ≤ k → k < a + (n : Int) → IntsAre ys l → LCg.NsObj oC m₂ → m₂ x = some (.int k t) → Fr h₀ L h m → News h₀ L h ((I, oI) :: (C, oC) :: (D, LCg.lst ys) :: news) → LCg.Off3 I C D news → ((@Ne Nat I C) ∧ (@Ne Nat I D) ∧ (@Ne Nat C D)) → KPfMark →
      wpAny (model prog w) A (isTrue ct (compEnvC scope cl C env) (eval ct (compEnvC scope cl C env))) (fun b s' => if b = true then wpAny (model prog w) A (eval elt (compEnvC scope cl C env)) (LCg.CompEnd h₀ L m { s with heap := h, toks := tk } I oI C oC D (LCg.lst ys) S (fun y news' => KCiEl news l (pickG f l k) y news')) E' s'
        else LCg.CompEnd h₀ L m { s with heap := h, toks := tk } I oI C oC D (LCg.lst ys) S (fun _ news' => KCiNo news l (pickG f l k) news') Value.none s') E' { s with heap := h, toks := tk })
    (fin : KPfDone (∀ ys, IntsAre ys ((rangeKs a n).foldl (pickG f) []) → ys.length ≤ n → Fin ys news)) : LCt.CompRestT prog w A h₀ L m env ct elt x scope cl s S (fun i v => ∃ t, v = .int (a + (i : Int)) t) Fin n 0 [] news :=
  kci_range (pickG f) turn fin (pickG_grows f)
end
theorem ce_el {h₀ : Heap} {L I C D : Addr} {m : Str → Option Value} {s₁ : Shared} {oI oC oD : Obj} {S : List (Addr × Obj) → Prop} {h' : Heap} {tk : Nat} {all news : List (Addr × Obj)} {l r : List Int} {a : Int} {t : Tok}
    (F : Fr h₀ L h' m) (N : News h₀ L h' all) (sub : ∀ p ∈ (I, oI) :: (C, oC) :: (D, oD) :: news, p ∈ all) (off : LCg.Off3 I C D news) (hS : S news) (e : r = l ++ [a]) :
    LCg.CompEnd h₀ L m s₁ I oI C oC D oD S (fun y news' => KCiEl news l r y news') (.int a t) { s₁ with heap := h', toks := tk } := LCg.CompEnd.intro F N news sub off hS (kci_el e rfl rfl)
theorem ce_no {h₀ : Heap} {L I C D : Addr} {m : Str → Option Value} {s₁ : Shared} {oI oC oD : Obj} {S : List (Addr × Obj) → Prop} {h' : Heap} {tk : Nat} {all news : List (Addr × Obj)} {l r : List Int}
    (F : Fr h₀ L h' m) (N : News h₀ L h' all) (sub : ∀ p ∈ (I, oI) :: (C, oC) :: (D, oD) :: news, p ∈ all) (off : LCg.Off3 I C D news) (hS : S news) (e : r = l) :
    LCg.CompEnd h₀ L m s₁ I oI C oC D oD S (fun _ news' => KCiNo news l r news') Value.none { s₁ with heap := h', toks := tk } := LCg.CompEnd.intro F N news sub off hS (kci_no e rfl)
local macro_rules | `(tactic| units_room) => `(tactic| ktr_units)
local macro_rules | `(tactic| k_room) => `(tactic| ktr_room)
local macro_rules | `(tactic| k_all) => `(tactic| first | exact ne_all (by assumption) | exact ne_lt (by assumption) | exact ne_lt1 (by assumption) | exact ne_lt2 (by assumption))
local macro_rules | `(tactic| k_lt $h:ident) => `(tactic| (replace $h := allLt_of $h; simp only [AllLt, and_true] at $h:ident; (repeat (have hlt9 := And.left $h; replace $h := And.right $h))))
def sig : Array UInt8 := #[80, 75, 5, 6]
def nearL (b : Array UInt8) : List Int := List.foldl (pickG (hitAt b)) []
          (rangeKs (if (b.size : Int) - 21 > 0 then (b.size : Int) - 21 else 0)
            ((b.size : Int) - 3 - if (b.size : Int) - 21 > 0 then (b.size : Int) - 21 else 0).toNat)
def dueB (b : Array UInt8) : Bool :=
  if (((KBy.picked b (some (-22)) (some (-18))).toList == #[80, 75, 5, 6].toList) && ((KBy.picked b (some (-2)) none).toList == #[0, 0].toList)) = true then true
  else (Builtin.Bytes.find? b #[80, 75, 5, 6] 0 b.size).isSome && decide (nearL b = [])
theorem due_1 {b : Array UInt8} (h1 : ((KBy.picked b (some (-22)) (some (-18))).toList == #[80, 75, 5, 6].toList) = true) (h2 : ((KBy.picked b (some (-2)) none).toList == #[0, 0].toList) = true) : true = dueB b := by
  unfold dueB
  rw [h1, h2]
  rfl
theorem due_2 {b : Array UInt8} (h2 : ((KBy.picked b (some (-2)) none).toList == #[0, 0].toList) = false) (h3 : (Builtin.Bytes.find? b #[80, 75, 5, 6] 0 b.size).isSome = true) : decide (nearL b = []) = dueB b := by
  unfold dueB
  rw [h2, h3, Bool.and_false]
  rfl
theorem due_3 {b : Array UInt8} (h2 : ((KBy.picked b (some (-2)) none).toList == #[0, 0].toList) = false) (h3 : (Builtin.Bytes.find? b #[80, 75, 5, 6] 0 b.size).isSome = false) : (Builtin.Bytes.find? b #[80, 75, 5, 6] 0 b.size).isSome = dueB b := by
  unfold dueB
  rw [h2, h3, Bool.and_false]
  rfl
theorem due_4 {b : Array UInt8} (h2 : ((KBy.picked b (some (-22)) (some (-18))).toList == #[80, 75, 5, 6].toList) = false) (h3 : (Builtin.Bytes.find? b #[80, 75, 5, 6] 0 b.size).isSome = true) : decide (nearL b = []) = dueB b := by
  unfold dueB
  rw [h2, h3, Bool.false_and]
  rfl
theorem due_5 {b : Array UInt8} (h2 : ((KBy.picked b (some (-22)) (some (-18))).toList == #[80, 75, 5, 6].toList) = false) (h3 : (Builtin.Bytes.find? b #[80, 75, 5, 6] 0 b.size).isSome = false) : (Builtin.Bytes.find? b #[80, 75, 5, 6] 0 b.size).isSome = dueB b := by
  unfold dueB
  rw [h2, h3, Bool.false_and]
  rfl
set_option maxHeartbeats 8000000 in
theorem c_due (w : World) (b : Array UInt8) (tb : Tok) (hs : b.size ≤ 1000) : PureC w 179 [.bytes b tb] (fun v => v = .bool (dueB b)) := by
  w_top off
  k_with_none
  k_with "subscriptTail" =>
    ((k_here; (with_reducible show wpAny _ _ (subscriptTail _ (Expr.Slice _ _ none _) (Value.bytes _ _) (Value.ref _)) _ _ _); (with_reducible rename Fr _ _ _ _ => F'); (with_reducible rename News _ _ _ _ => N'); (refine slice_bytes (s := ⟨_, _, _, _, _⟩) F' N' (by constructor) (by constructor) (by first | assumption | omega | (simp only [Array.size_extract] at *; omega)) ?_); intro _ _ _ F' N'))
  k_with "compareOp In bytes bytes" =>
    ((k_here; (with_reducible show wpAny _ _ (compareOp CmpOp.In (Value.bytes _ _) (Value.bytes _ _)) _ _ _); k_dflt (refine' in_bytes ?z9bk1 ?z9bk2 ?z9bk3 ?_; (case z9bk1 => rfl); (case z9bk2 => k_asm); (case z9bk3 => k_asm); k_whole); intro h' tk' F' N'))
  k_with "CompSrcT" =>
    ((k_here; (rename GMark _ => gM'); k_dflt (refine LCt.CompSrcT.range (by rfl) (by k_asm) (by k_asm) (by assumption) (by exact small_one (by l_bnd) (by l_bnd) (by l_bnd) (by l_bnd)) (by exact rangeSize_nat _ _) (by rw [PySem.sizeLine_eq]; omega) ?_; intro g'; (refine' kci_rangeG gM' (fun k' t' I' oI' C' oC' D' m' ys' l' h' tk' E' hlo' hhi' hI' hC' hx' F' N' off' ne' => ?_) ?_); (all_goals (try (simp only [LCg.Off3, and_true] at off'))); (all_goals (try ((show KPfMark → _); intro hMark'))); kcf_last)))
  k_with "CompEnd" =>
    (first
      | (refine ce_el (by assumption) (by assumption) (by kcf_all) (by first | assumption | (simp only [LCg.Off3, and_true]; assumption)) (by exact trivial) (pick_yes (by assumption)))
      | (refine ce_no (by assumption) (by assumption) (by kcf_all) (by first | assumption | (simp only [LCg.Off3, and_true]; assumption)) (by exact trivial) (by first | exact pick_no (by assumption) | exact pick_no' (by assumption))))
  unfold PureC
  k_fill
  intro p loose mean mg mb dp un gd cn cs a ccd cl outer A₀ base h₀ L m news s Q E B F X N T hk hd hu hret
  obtain ⟨ck, cn1, cn2, cn3, cn4⟩ := cs
  have hk' : ck = .function := hk
  subst hk'
  have hG : GMark (hitAt b) := trivial
  refine wpAny_call ?_
  k_dflt k_enter
  k_steps
  all_goals (refine hret _ _ _ ?_ (by k_asm) (by first | k_asm | exact cb_drop (by assumption) (by kcf_all)); first
    | exact congrArg Value.bool (due_1 (by assumption) (by assumption))
    | exact congrArg Value.bool (due_2 (by assumption) (by assumption))
    | exact congrArg Value.bool (due_3 (by assumption) (by assumption))
    | exact congrArg Value.bool (due_4 (by assumption) (by assumption))
    | exact congrArg Value.bool (due_5 (by assumption) (by assumption)))
end Mine
end

section
set_option maxRecDepth 100000
namespace Mine
open PySem PySem.W PySem.Calls PyProof.Rows Builtin
def Occ (b : Array UInt8) (i : Nat) : Prop := i + 4 ≤ b.size ∧ (b.toList.drop i).take 4 = [80, 75, 5, 6]
theorem sig_list : sig.toList = [80, 75, 5, 6] := rfl
theorem extr_iff (b : Array UInt8) (i : Nat) : (b.extract i (i + (#[80, 75, 5, 6] : Array UInt8).size) == #[80, 75, 5, 6]) = true ↔ (b.toList.drop i).take 4 = [80, 75, 5, 6] := by
  rw [beq_iff_eq, ← Array.toList_inj, Array.toList_extract, List.extract_eq_take_drop]
  show List.take (i + 4 - i) _ = _ ↔ _
  rw [Nat.add_sub_cancel_left]
theorem find_some {b : Array UInt8} {i : Nat} (h : Bytes.find? b #[80, 75, 5, 6] 0 b.size = some i) : Occ b i := by
  unfold Bytes.find? at h
  have h1 := List.find?_some h
  have h2 := List.mem_of_find?_eq_some h
  obtain ⟨j, hj, rfl⟩ := List.mem_map.mp h2
  have hj := List.mem_range.mp hj
  have e : (#[80, 75, 5, 6] : Array UInt8).size = 4 := rfl
  rw [e] at hj
  exact ⟨by omega, (extr_iff b _).mp h1⟩
theorem find_none {b : Array UInt8} (h : Bytes.find? b #[80, 75, 5, 6] 0 b.size = none) (i : Nat) : ¬ Occ b i := fun ⟨h1, h2⟩ => by
  unfold Bytes.find? at h
  have e : (#[80, 75, 5, 6] : Array UInt8).size = 4 := rfl
  have := List.find?_eq_none.mp h i (List.mem_map.mpr ⟨i, List.mem_range.mpr (by rw [e]; omega), rfl⟩)
  exact this ((extr_iff b i).mpr h2)
theorem find_of {b : Array UInt8} {i : Nat} (h : Occ b i) : (Bytes.find? b #[80, 75, 5, 6] 0 b.size).isSome = true := by
  cases e : Bytes.find? b #[80, 75, 5, 6] 0 b.size with
  | none => exact absurd h (find_none e i)
  | some _ => rfl
theorem rfind_none {b : Array UInt8} (h : Bytes.rfind? b #[80, 75, 5, 6] 0 b.size = none) (i : Nat) : ¬ Occ b i := fun ⟨h1, h2⟩ => by
  unfold Bytes.rfind? at h
  have e : (#[80, 75, 5, 6] : Array UInt8).size = 4 := rfl
  have := List.find?_eq_none.mp h i (List.mem_reverse.mpr (List.mem_map.mpr ⟨i, List.mem_range.mpr (by rw [e]; omega), rfl⟩))
  exact this ((extr_iff b i).mpr h2)
theorem rfind_some {b : Array UInt8} {i : Nat} (h : Bytes.rfind? b #[80, 75, 5, 6] 0 b.size = some i) : Occ b i ∧ ∀ j, Occ b j → j ≤ i := by
  unfold Bytes.rfind? at h
  have e : (#[80, 75, 5, 6] : Array UInt8).size = 4 := rfl
  obtain ⟨h1, as, bs, hl, hno⟩ := List.find?_eq_some_iff_append.mp h
  have hm : i ∈ ((List.range (b.size + 1 - (0 + (#[80, 75, 5, 6] : Array UInt8).size))).map (· + 0)).reverse := by rw [hl]; simp
  obtain ⟨j, hj, ej⟩ := List.mem_map.mp (List.mem_reverse.mp hm)
  have hj := List.mem_range.mp hj
  rw [e] at hj
  refine ⟨⟨by omega, (extr_iff b _).mp h1⟩, fun j ⟨hj1, hj2⟩ => ?_⟩
  have hmj : j ∈ ((List.range (b.size + 1 - (0 + (#[80, 75, 5, 6] : Array UInt8).size))).map (· + 0)).reverse :=
    List.mem_reverse.mpr (List.mem_map.mpr ⟨j, List.mem_range.mpr (by rw [e]; omega), rfl⟩)
  have hp : List.Pairwise (fun x y => y < x) ((List.range (b.size + 1 - (0 + (#[80, 75, 5, 6] : Array UInt8).size))).map (· + 0)).reverse := by
    rw [List.pairwise_reverse]
    simp only [Nat.add_zero, List.map_id']
    exact List.pairwise_lt_range
  rw [hl] at hmj hp
  rcases List.mem_append.mp hmj with hja | hjb
  · have := hno j hja
    rw [(extr_iff b j).mpr hj2] at this
    simp at this
  · rcases List.mem_cons.mp hjb with rfl | hjb
    · exact Nat.le_refl _
    · have := (List.pairwise_append.mp hp).2.1
      exact Nat.le_of_lt ((List.pairwise_cons.mp this).1 j hjb)
theorem pick_filter (f : Int → Bool) (l : List Int) : ∀ acc, l.foldl (pickG f) acc = acc ++ l.filter f := by
  induction l with
  | nil => intro acc; simp
  | cons a r ih =>
    intro acc
    rw [List.foldl_cons, ih, List.filter_cons]
    unfold pickG
    split <;> simp
theorem hit_iff {b : Array UInt8} {i : Nat} (h : i + 4 ≤ b.size) : hitAt b (i : Int) = true ↔ Occ b i := by
  unfold hitAt Occ
  rw [beq_iff_eq, KBc.picked_eq]
  simp only [Option.elim, clipAt]
  have e1 : (max 0 (min (if (i : Int) < 0 then (i : Int) + b.size else (i : Int)) b.size)).toNat = i := by
    rw [if_neg (by omega)]; omega
  have e2 : (max 0 (min (if (i : Int) + 4 < 0 then (i : Int) + 4 + b.size else (i : Int) + 4) b.size)).toNat - i = 4 := by
    rw [if_neg (by omega)]; omega
  rw [e1, e2]
  exact ⟨fun z => ⟨h, z⟩, fun z => z.2⟩
theorem near_no {b : Array UInt8} (h : nearL b = []) {i : Nat} (hi : b.size ≤ i + 21) : ¬ Occ b i := fun ho => by
  unfold nearL at h
  rw [pick_filter, List.nil_append, List.filter_eq_nil_iff] at h
  refine h (i : Int) ?_ ((hit_iff ho.1).mpr ho)
  have h1 := ho.1
  unfold rangeKs
  by_cases hc : (b.size : Int) - 21 > 0
  · rw [if_pos hc]
    exact List.mem_map.mpr ⟨i - (b.size - 21), List.mem_range.mpr (by omega), by omega⟩
  · rw [if_neg hc]
    exact List.mem_map.mpr ⟨i, List.mem_range.mpr (by omega), by omega⟩
theorem near_of {b : Array UInt8} (h : ∀ i, b.size ≤ i + 21 → ¬ Occ b i) : nearL b = [] := by
  unfold nearL
  rw [pick_filter, List.nil_append, List.filter_eq_nil_iff]
  intro k hk hh
  have h2 := mem_rangeKs hk
  have hk0 : 0 ≤ k ∧ k + 4 ≤ b.size ∧ (b.size : Int) ≤ k + 21 := by
    by_cases hc : (b.size : Int) - 21 > 0
    · rw [if_pos hc] at h2; omega
    · rw [if_neg hc] at h2; omega
  obtain ⟨j, rfl⟩ : ∃ j : Nat, k = (j : Int) := ⟨k.toNat, by omega⟩
  exact h j (by omega) ((hit_iff (by omega)).mp hh)
theorem end_no (b : Array UInt8) (h : b.size < 22) : ((KBy.picked b (some (-22)) (some (-18))).toList == sig.toList) = false := by
  rw [Bool.eq_false_iff]
  intro z
  have z := beq_iff_eq.mp z
  have e := congrArg List.length z
  rw [KBc.picked_eq, sig_list] at e
  simp only [Option.elim, clipAt, List.length_take, List.length_drop, List.length_cons, List.length_nil, Array.length_toList] at e
  omega
theorem due_of (b : Array UInt8) (h : ((KBy.picked b (some (-22)) (some (-18))).toList == sig.toList && (KBy.picked b (some (-2)) none).toList == #[0, 0].toList) = false) : dueB b = ((Bytes.find? b #[80, 75, 5, 6] 0 b.size).isSome && decide (nearL b = [])) := by
  unfold dueB
  rw [if_neg (by rw [Bool.eq_false_iff] at h; exact h)]
theorem law_short (b : Array UInt8) (h : b.size < 22) : dueB b = false := by
  rw [due_of b (by rw [end_no b h]; rfl)]
  cases e : Bytes.find? b #[80, 75, 5, 6] 0 b.size with
  | none => rfl
  | some i =>
    have ho := find_some e
    have : ¬ nearL b = [] := fun z => near_no z (by have := ho.1; omega) ho
    simp [this]
theorem law_none (b : Array UInt8) (h : ((KBy.picked b (some (-22)) (some (-18))).toList == sig.toList && (KBy.picked b (some (-2)) none).toList == #[0, 0].toList) = false) (hr : ¬ 0 ≤ rfindI b #[80, 75, 5, 6]) : dueB b = false := by
  rw [due_of b h]
  unfold rfindI at hr
  cases e : Bytes.rfind? b #[80, 75, 5, 6] 0 b.size with
  | some i => rw [e] at hr; exact absurd (Int.natCast_nonneg i) hr
  | none =>
    cases e2 : Bytes.find? b #[80, 75, 5, 6] 0 b.size with
    | none => rfl
    | some i => exact absurd (find_some e2) (rfind_none e i)
theorem rfind_at {b : Array UInt8} (hr : 0 ≤ rfindI b #[80, 75, 5, 6]) : ∃ i : Nat, rfindI b #[80, 75, 5, 6] = i ∧ Occ b i ∧ ∀ j, Occ b j → j ≤ i := by
  unfold rfindI at hr ⊢
  cases e : Bytes.rfind? b #[80, 75, 5, 6] 0 b.size with
  | some i => exact ⟨i, rfl, rfind_some e⟩
  | none => rw [e] at hr; exact absurd hr (by decide)
theorem rfind_le (b : Array UInt8) : rfindI b #[80, 75, 5, 6] ≤ b.size := by
  by_cases h : 0 ≤ rfindI b #[80, 75, 5, 6]
  · obtain ⟨i, e, ho, _⟩ := rfind_at h
    rw [e]
    have := ho.1
    omega
  · omega
theorem cut_size (b : Array UInt8) (i : Nat) (hi : i ≤ b.size) : (KBy.picked b (some (i : Int)) (some ((i : Int) + 22))).size = min (i + 22) b.size - i := by
  rw [KBc.picked_eq, List.size_toArray, List.length_take, List.length_drop, Array.length_toList]
  simp only [Option.elim, clipAt]
  omega
theorem law_yes (b : Array UInt8) (hr : 0 ≤ rfindI b #[80, 75, 5, 6]) (hc : (KBy.picked b (some (rfindI b #[80, 75, 5, 6])) (some (rfindI b #[80, 75, 5, 6] + 22))).size = 22) : dueB b = true := by
  obtain ⟨i, e, ho, hm⟩ := rfind_at hr
  rw [e, cut_size b i (by have := ho.1; omega)] at hc
  unfold dueB
  split
  · rfl
  · rw [find_of ho, near_of (b := b) fun j hj hoj => by have := hm j hoj; omega]
    rfl
theorem law_no (b : Array UInt8) (h : ((KBy.picked b (some (-22)) (some (-18))).toList == sig.toList && (KBy.picked b (some (-2)) none).toList == #[0, 0].toList) = false) (hr : 0 ≤ rfindI b #[80, 75, 5, 6]) (hc : (KBy.picked b (some (rfindI b #[80, 75, 5, 6])) (some (rfindI b #[80, 75, 5, 6] + 22))).size ≠ 22) : dueB b = false := by
  obtain ⟨i, e, ho, hm⟩ := rfind_at hr
  rw [e, cut_size b i (by have := ho.1; omega)] at hc
  rw [due_of b h]
  have : ¬ nearL b = [] := fun z => near_no z (i := i) (by have := ho.1; omega) ho
  simp [this]
theorem pick_all {b : Array UInt8} (h : b.size ≤ 1000) : KBy.picked b (some 0) (some (0 + (65535 + 22))) = b := by
  rw [KBc.picked_eq]
  simp only [Option.elim, clipAt]
  have e1 : (max 0 (min (if (0 : Int) < 0 then (0 : Int) + b.size else (0 : Int)) b.size)).toNat = 0 := by
    rw [if_neg (by omega)]; omega
  have e2 : (max 0 (min (if (0 + (65535 + 22) : Int) < 0 then (0 + (65535 + 22) : Int) + b.size else (0 + (65535 + 22) : Int)) b.size)).toNat = b.size := by
    rw [if_neg (by omega)]; omega
  rw [e1, e2, List.drop_zero, Nat.sub_zero, List.take_of_length_le (by simp), Array.toArray_toList]
theorem last_list {b : Array UInt8} (h : 0 ≤ (b.size : Int) + -22) : (KBy.picked b (some ((b.size : Int) + -22)) (some ((b.size : Int) + -22 + 22))).toList = b.toList.drop (b.size - 22) := by
  rw [KBc.picked_eq]
  simp only [Option.elim, clipAt]
  have e1 : (max 0 (min (if (b.size : Int) + -22 < 0 then (b.size : Int) + -22 + b.size else (b.size : Int) + -22) b.size)).toNat = b.size - 22 := by
    rw [if_neg (by omega)]; omega
  have e2 : (max 0 (min (if (b.size : Int) + -22 + 22 < 0 then (b.size : Int) + -22 + 22 + b.size else (b.size : Int) + -22 + 22) b.size)).toNat = b.size := by
    rw [if_neg (by omega)]; omega
  rw [e1, e2, List.take_of_length_le (by rw [List.length_drop, Array.length_toList]; omega)]
theorem last_size {b : Array UInt8} (h : 0 ≤ (b.size : Int) + -22) : (KBy.picked b (some ((b.size : Int) + -22)) (some ((b.size : Int) + -22 + 22))).size = 22 := by
  rw [← Array.length_toList, last_list h, List.length_drop, Array.length_toList]
  omega
theorem cond_A {b : Array UInt8} (h : 0 ≤ (b.size : Int) + -22) : (KBy.picked (KBy.picked b (some ((b.size : Int) + -22)) (some ((b.size : Int) + -22 + 22))) (some 0) (some 4)).toList = (KBy.picked b (some (-22)) (some (-18))).toList := by
  rw [KBc.picked_eq (KBy.picked b (some ((b.size : Int) + -22)) (some ((b.size : Int) + -22 + 22))), last_list h, last_size h, KBc.picked_eq b (some (-22))]
  simp only [Option.elim, clipAt]
  have e1 : (max 0 (min (if (-22 : Int) < 0 then (-22 : Int) + b.size else (-22 : Int)) b.size)).toNat = b.size - 22 := by
    rw [if_pos (by omega)]; omega
  have e2 : (max 0 (min (if (-18 : Int) < 0 then (-18 : Int) + b.size else (-18 : Int)) b.size)).toNat - (b.size - 22) = 4 := by
    rw [if_pos (by omega)]; omega
  rw [e1, e2]
  rfl
theorem cond_B {b : Array UInt8} (h : 0 ≤ (b.size : Int) + -22) : (KBy.picked (KBy.picked b (some ((b.size : Int) + -22)) (some ((b.size : Int) + -22 + 22))) (some (-2)) none).toList = (KBy.picked b (some (-2)) none).toList := by
  rw [KBc.picked_eq (KBy.picked b (some ((b.size : Int) + -22)) (some ((b.size : Int) + -22 + 22))), last_list h, last_size h, KBc.picked_eq b (some (-2))]
  simp only [Option.elim, clipAt]
  have e1 : (max 0 (min (if (-2 : Int) < 0 then (-2 : Int) + b.size else (-2 : Int)) b.size)).toNat = b.size - 2 := by
    rw [if_pos (by omega)]; omega
  rw [e1]
  show List.take 2 (List.drop 20 (List.drop (b.size - 22) b.toList)) = _
  rw [List.drop_drop]
  have e3 : b.size - 22 + 20 = b.size - 2 := by omega
  have e4 : b.size - (b.size - 2) = 2 := by omega
  rw [e3, e4]
theorem cond_of {b : Array UInt8} (h : 0 ≤ (b.size : Int) + -22) (hc : ((KBy.picked (KBy.picked b (some ((b.size : Int) + -22)) (some ((b.size : Int) + -22 + 22))) (some 0) (some 4)).toList == #[80, 75, 5, 6].toList) = false ∨ ((KBy.picked (KBy.picked b (some ((b.size : Int) + -22)) (some ((b.size : Int) + -22 + 22))) (some (-2)) none).toList == #[0, 0].toList) = false) :
    ((KBy.picked b (some (-22)) (some (-18))).toList == sig.toList && (KBy.picked b (some (-2)) none).toList == #[0, 0].toList) = false := by
  rw [cond_A h, cond_B h] at hc
  rcases hc with hc | hc
  · rw [show sig.toList = #[80, 75, 5, 6].toList from rfl, hc]; rfl
  · rw [hc, Bool.and_false]
theorem end_last {b : Array UInt8} (h : 0 ≤ (b.size : Int) + -22) (h1 : ((KBy.picked (KBy.picked b (some ((b.size : Int) + -22)) (some ((b.size : Int) + -22 + 22))) (some 0) (some 4)).toList == #[80, 75, 5, 6].toList) = true) (h2 : ((KBy.picked (KBy.picked b (some ((b.size : Int) + -22)) (some ((b.size : Int) + -22 + 22))) (some (-2)) none).toList == #[0, 0].toList) = true) : dueB b = true := by
  rw [cond_A h] at h1
  rw [cond_B h] at h2
  unfold dueB
  rw [if_pos]
  rw [h1, h2]
  rfl
section
variable {b : Array UInt8} (hs : b.size ≤ 1000)
include hs
theorem end_yes (hr : 0 ≤ rfindI (KBy.picked b (some 0) (some (0 + (65535 + 22)))) #[80, 75, 5, 6])
    (hc : ((KBy.picked (KBy.picked b (some 0) (some (0 + (65535 + 22)))) (some (rfindI (KBy.picked b (some 0) (some (0 + (65535 + 22)))) #[80, 75, 5, 6])) (some (rfindI (KBy.picked b (some 0) (some (0 + (65535 + 22)))) #[80, 75, 5, 6] + 22))).size : Int) = 22) : dueB b = true := by
  rw [pick_all hs] at hr hc
  exact law_yes b hr (by omega)
theorem end_cut (h : 0 ≤ (b.size : Int) + -22) (hd : ((KBy.picked (KBy.picked b (some ((b.size : Int) + -22)) (some ((b.size : Int) + -22 + 22))) (some 0) (some 4)).toList == #[80, 75, 5, 6].toList) = false ∨ ((KBy.picked (KBy.picked b (some ((b.size : Int) + -22)) (some ((b.size : Int) + -22 + 22))) (some (-2)) none).toList == #[0, 0].toList) = false)
    (hr : 0 ≤ rfindI (KBy.picked b (some 0) (some (0 + (65535 + 22)))) #[80, 75, 5, 6])
    (hc : ((KBy.picked (KBy.picked b (some 0) (some (0 + (65535 + 22)))) (some (rfindI (KBy.picked b (some 0) (some (0 + (65535 + 22)))) #[80, 75, 5, 6])) (some (rfindI (KBy.picked b (some 0) (some (0 + (65535 + 22)))) #[80, 75, 5, 6] + 22))).size : Int) ≠ 22) : dueB b = false := by
  rw [pick_all hs] at hr hc
  exact law_no b (cond_of h hd) hr (by omega)
theorem end_none (h : 0 ≤ (b.size : Int) + -22) (hd : ((KBy.picked (KBy.picked b (some ((b.size : Int) + -22)) (some ((b.size : Int) + -22 + 22))) (some 0) (some 4)).toList == #[80, 75, 5, 6].toList) = false ∨ ((KBy.picked (KBy.picked b (some ((b.size : Int) + -22)) (some ((b.size : Int) + -22 + 22))) (some (-2)) none).toList == #[0, 0].toList) = false)
    (hr : ¬ 0 ≤ rfindI (KBy.picked b (some 0) (some (0 + (65535 + 22)))) #[80, 75, 5, 6]) : dueB b = false := by
  rw [pick_all hs] at hr
  exact law_none b (cond_of h hd) hr
theorem end_le : 0 + rfindI (KBy.picked b (some 0) (some (0 + (65535 + 22)))) #[80, 75, 5, 6] ≤ (b.size : Int) := by
  rw [pick_all hs]
  have := rfind_le b
  omega
end
end Mine
end

section
open PySem PySem.W PySem.Calls PyProof.Rows
set_option maxRecDepth 100000
namespace Mine
theorem e64_N {h₀ h : Heap} {L : Addr} {a1 q1 p1 : Addr × Obj} {R : List (Addr × Obj)} (N : News h₀ L h (a1 :: q1 :: p1 :: R)) : News h₀ L h (p1 :: a1 :: R) := N.perm fun p hp => by
  rcases List.mem_cons.mp hp with rfl | hp
  · exact List.mem_cons_of_mem _ (List.mem_cons_of_mem _ (List.mem_cons_self ..))
  · rcases List.mem_cons.mp hp with rfl | hp
    · exact List.mem_cons_self ..
    · exact List.mem_cons_of_mem _ (List.mem_cons_of_mem _ (List.mem_cons_of_mem _ hp))
theorem e64_off {D d : Addr} {q1 : Addr × Obj} {o ol : Obj} {R : List (Addr × Obj)} (l1 : ∀ q ∈ q1 :: (d, o) :: R, q.1 < D) (hoff : ∀ p ∈ R, p.1 ≠ d) : ∀ p ∈ (D, ol) :: R, p.1 ≠ d := fun p hp => by
  rcases List.mem_cons.mp hp with rfl | hp
  · exact Nat.ne_of_gt (l1 (d, o) (List.mem_cons_of_mem _ (List.mem_cons_self ..)))
  · exact hoff p hp
theorem err_mono {τ : Int} {er : Value} {e : Addr} {k : Nat} {cls a0 : Value} {p1 : Addr × Obj} {R : List (Addr × Obj)} (h : 0 < τ → ErrIn er e k cls a0 R) : 0 < τ → ErrIn er e k cls a0 (p1 :: R) := fun hτ =>
  let ⟨h1, h2, oe, vs, h3, h4⟩ := h hτ
  ⟨h1, h2, oe, vs, List.mem_cons_of_mem _ h3, h4⟩
theorem flew_sub {base G h : Heap} {l : List Env} {e : Addr} {cls a0 : Value} {news news' : List (Addr × Obj)} (R : Flew base G l e cls a0 news h) (hs : ∀ p ∈ news', p ∈ news) : Flew base G l e cls a0 news' h :=
  let ⟨B, P, f⟩ := R
  ⟨B, ⟨P.1, P.2.1, fun q hq => P.2.2 q (hs q hq)⟩, f⟩
theorem drop_cons {e : Addr} {p1 p2 : Addr × Obj} {R : List (Addr × Obj)} : ∀ p ∈ p1 :: drop e R, p ∈ p1 :: drop e (p2 :: R) := fun p hp => by
  rcases List.mem_cons.mp hp with rfl | hp
  · exact List.mem_cons_self ..
  · exact List.mem_cons_of_mem _ (mem_drop.mpr ⟨List.mem_cons_of_mem _ (drop_sub p hp), drop_ne p hp⟩)
theorem picked_fits2 {b : Array UInt8} {lo hi : Option Int} (h : b.size ≤ 1000) : (KBy.picked b lo hi).size ≤ 16777216 := by
  have := picked_size b lo hi
  omega
def CondB (b : Array UInt8) : Prop := ((KBy.picked (KBy.picked b (some ((b.size : Int) + -22)) (some ((b.size : Int) + -22 + 22))) (some 0) (some 4)).toList == #[80, 75, 5, 6].toList) = false ∨ ((KBy.picked (KBy.picked b (some ((b.size : Int) + -22)) (some ((b.size : Int) + -22 + 22))) (some (-2)) none).toList == #[0, 0].toList) = false
theorem nat22 {n : Nat} (h : (n : Int) = 22) : n = 22 := by omega
theorem cut_tail {prog : Program} {w : World} {A : Around} {E : Value → Shared → Prop} {s : Shared} {g : Heap} {L : Addr} {m : Str → Option Value} {l : List (Addr × Obj)} {st : Stmt} {rest : List Stmt} {env : Env} {b : Array UInt8} {Q : Flow → Shared → Prop} (_F : Fr g L s.heap m) (_N : News g L s.heap l) (_h : 0 ≤ (b.size : Int) + -22)
    (ht : ∀ h tk, CondB b → Fr g L h m → News g L h l → wpAny (model prog w) A (execs rest env) Q E { s with heap := h, toks := tk })
    (hi : wpAny (model prog w) A (exec st env) (fun f s' => match f with | .next => ∃ h tk, s' = { s with heap := h, toks := tk } ∧ CondB b ∧ Fr g L h m ∧ News g L h l | f => Q f s') E s) : wpAny (model prog w) A (execs (st :: rest) env) Q E s := by
  refine wpAny_execs_cons (wpAny_mono hi (fun f s' h => ?_) fun _ _ h => h)
  cases f with
  | next =>
    obtain ⟨h, tk, rfl, c, F, N⟩ := h
    exact ht h tk c F N
  | _ => exact h
theorem mx_zero {b : Array UInt8} (h : b.size ≤ 1000) {inst : Decidable ((0 : Int) > (b.size : Int) + 0 - 65535 - 22)} : @ite Int ((0 : Int) > (b.size : Int) + 0 - 65535 - 22) inst 0 ((b.size : Int) + 0 - 65535 - 22) = 0 := if_pos (by omega)
theorem eq_int_true {prog : Program} {w : World} {A : Around} {E : Value → Shared → Prop} {s : Shared} {a b : Int} {t u : Tok} {Q : Value → Shared → Prop} (e : a = b) (h : Q (.bool true) s) : wpAny (model prog w) A (compareOp .Eq (.int a t) (.int b u)) Q E s := by
  refine eq_int ?_
  rw [show (a == b) = true from beq_iff_eq.mpr e]
  exact h
end Mine
end

section
open PySem PySem.W PySem.Calls PyProof.Rows
set_option maxRecDepth 100000
namespace Mine
local macro_rules | `(tactic| units_room) => `(tactic| ktr_units)
local macro_rules | `(tactic| k_room) => `(tactic| ktr_room)
local macro_rules | `(tactic| k_all) => `(tactic| first | assumption | exact ne_all (by assumption) | exact ne_lt (by assumption))
local macro_rules | `(tactic| k_lt $h:ident) => `(tactic| skip)
set_option maxHeartbeats 6000000 in
theorem c_end {w : World} {p : Program} {loose : List Str} {mean : ExcName → Option Value} {mg mb : Str → Option Value} {dp un : Nat} {gd : Option (List Code)} {cn : Str} {cs : Scope} {a : Addr} {ccd : Value} {outer : List Env} {A₀ : Around} {base h₀ : Heap} {L : Addr} {m : Str → Option Value} {R : List (Addr × Obj)} {s : Shared} {Q E : Value → Shared → Prop}
    {d x fs fr : Addr} {t1 t2 t3 t4 tn to : Tok} {n o τ : Int} {er : Value} {k : Nat} {e : Addr} {cls a0 : Value} {b : Array UInt8} :
    Below A₀ base outer h₀ → Fr h₀ L s.heap m → (Mine.hd.heap_39 w.params).In h₀ → News h₀ L s.heap ((d, dictF w t1 t2 t3 t4 fs fr n tn o to) :: R) → (∀ p ∈ R, p.1 ≠ d) → Top p loose mean mg mb h₀ → cs.kind = .function → dp + 100 < recursionLimit → un + 2000 < cLine →
    St b τ er x d fs fr R → (0 < τ → ErrIn er e k cls a0 R) → b.size ≤ 1000 → No7 b → Al n τ → (Mine.hd.heap_39 w.params).In base → Top p loose mean mg mb base → KtsDicts (outer.filterMap (·.frame)) h₀ →
    (∀ g' n' o' h' tk tn' to', KtsTurn (outer.filterMap (·.frame)) h₀ g' → Below A₀ base outer g' → (Mine.hd.heap_39 w.params).In g' → Top p loose mean mg mb g' → KtsDicts (outer.filterMap (·.frame)) g' → Fr g' L h' m → Al n' τ → dueB b = false → News g' L h' ((d, dictF w t1 t2 t3 t4 fs fr n' tn' o' to') :: R) → Q .none { s with heap := h', toks := tk }) →
    (∀ g' n' o' h' tk tn' to' D' v vs c', KtsTurn (outer.filterMap (·.frame)) h₀ g' → Below A₀ base outer g' → (Mine.hd.heap_39 w.params).In g' → Top p loose mean mg mb g' → KtsDicts (outer.filterMap (·.frame)) g' → Fr g' L h' m → Al n' τ → dueB b = true → News g' L h' ((d, dictF w t1 t2 t3 t4 fs fr n' tn' o' to') :: (D', listOf (v :: vs).toArray c') :: R) → vs.length = 9 → Q (.ref D') { s with heap := h', toks := tk }) →
    (∀ g' n' o' h' tk tn' to', KtsTurn (outer.filterMap (·.frame)) h₀ g' → Below A₀ base outer g' → (Mine.hd.heap_39 w.params).In g' → Top p loose mean mg mb g' → KtsDicts (outer.filterMap (·.frame)) g' → Fr g' L h' m → n' = τ → 0 < τ → k = 0 → News g' L h' ((d, dictF w t1 t2 t3 t4 fs fr n' tn' o' to') :: drop e R) → Q .none { s with heap := h', toks := tk }) →
    (∀ G n' h' tk tn' o' to', n' = τ → 0 < τ → Fr h₀ L G m → Flew base G (envX cn cs L a ccd [] :: outer) e cls a0 ((d, dictF w t1 t2 t3 t4 fs fr n' tn' o' to') :: drop e R) h' → G.UpToSlots h' → E (.ref e) { s with heap := h', toks := tk }) →
    wpAny (model Challenge.rw_kl0460_01.row.prog w) (ktrTop dp un gd cn cs L a ccd [] outer) (call (.ref 90) [.ref x]) Q E s := by
  w_top off
  k_with_none
  k_with "getMethod ref" =>
    ((k_here; (with_reducible show wpAny _ _ (getMethod (Value.ref _) (Str.ofString "seek") _) _ _ _); k_dflt (refine' meth_seek ?z9aF ?z9aX ?z9aN ?z9ahX ?_; (case z9aF => k_asm); (case z9aX => k_asm); (case z9aN => k_asm); (case z9ahX => with_reducible assumption))))
  k_with "getMethod ref" =>
    ((k_here; (with_reducible show wpAny _ _ (getMethod (Value.ref _) (Str.ofString "read") _) _ _ _); k_dflt (refine' meth_read ?z9bF ?z9bX ?z9bN ?z9bhX ?_; (case z9bF => k_asm); (case z9bX => k_asm); (case z9bN => k_asm); (case z9bhX => with_reducible assumption))))
  k_with "FnAt" =>
    ((k_dflt (first | exact fnat_seek (by k_asm) (by with_reducible assumption) | exact fnat_read (by k_asm) (by with_reducible assumption))))
  k_with "callWith ref" =>
    ((k_here; k_dflt (refine' callWith_F ?z9dk1 ?_; (case z9dk1 => first | exact fnat_seek (by k_asm) (by with_reducible assumption) | exact fnat_read (by k_asm) (by with_reducible assumption)))))
  k_with "getMethod ref" =>
    ((k_here; (with_reducible show wpAny _ _ (getMethod (Value.ref _) (Str.ofString "tell") _) _ _ _); k_dflt (refine' meth_tell ?z9eF ?z9eX ?z9eN ?z9ehX ?_; (case z9eF => k_asm); (case z9eX => k_asm); (case z9eN => k_asm); (case z9ehX => with_reducible assumption))))
  k_with "getAttr ref" =>
    ((k_here; k_dflt (refine' get_off ?z9fF ?z9fX ?z9fN ?z9fhX ?_; (case z9fF => k_asm); (case z9fX => k_asm); (case z9fN => k_asm); (case z9fhX => with_reducible assumption))))
  k_with "call builtin:len" =>
    ((k_here; (with_reducible show wpAny _ _ (call (Value.builtin _) [Value.bytes _ _]) _ _ _); refine len_bytes (by first | exact picked_fits (by assumption) | exact picked_fits (Nat.le_trans (picked_size _ _ _) (by assumption)) | omega) ?_))
  k_with "call ref" =>
    ((k_here; k_dflt (first | (refine' c_seek_abs ?z9hB ?z9hF ?z9hX ?z9hN ?z9hoff ?z9hT ?z9hk ?z9hd ?z9hu ?z9hSt ?z9hE ?z9hs  (fun hn9 hp9 h9 tk9 tn9 to9 tv9 F9 N9 => have al9 := al_next (by assumption) hn9; ?_) (fun hn9 G9 h9 tk9 tn9 F9 R9 S9 => have al9 := al_torn (by assumption) hn9; ?_) (fun _ hneg9 => absurd hneg9 (by omega)); (case z9hB => k_asm); (case z9hF => k_asm); (case z9hX => k_asm); (case z9hN => k_asm); (case z9hoff => with_reducible assumption); (case z9hT => k_asm); (case z9hk => rfl); (case z9hd => ktr_room); (case z9hu => ktr_units); (case z9hSt => with_reducible assumption); (case z9hE => with_reducible exact err_of (by assumption) (by assumption)); (case z9hs => with_reducible assumption)) | (refine' c_seek_end ?z9hB ?z9hF ?z9hX ?z9hN ?z9hoff ?z9hT ?z9hk ?z9hd ?z9hu ?z9hSt ?z9hE ?z9hs  (fun hn9 hp9 h9 tk9 tn9 to9 tv9 F9 N9 => have al9 := al_next (by assumption) hn9; ?_) (fun hn9 G9 h9 tk9 tn9 F9 R9 S9 => have al9 := al_torn (by assumption) hn9; ?_) (fun _ hneg9 => absurd hneg9 (by omega)); (case z9hB => k_asm); (case z9hF => k_asm); (case z9hX => k_asm); (case z9hN => k_asm); (case z9hoff => with_reducible assumption); (case z9hT => k_asm); (case z9hk => rfl); (case z9hd => ktr_room); (case z9hu => ktr_units); (case z9hSt => with_reducible assumption); (case z9hE => with_reducible exact err_of (by assumption) (by assumption)); (case z9hs => with_reducible assumption)) | (refine' c_seek_end ?z9hB ?z9hF ?z9hX ?z9hN ?z9hoff ?z9hT ?z9hk ?z9hd ?z9hu ?z9hSt ?z9hE ?z9hs  (fun hn9 hp9 h9 tk9 tn9 to9 tv9 F9 N9 => have al9 := al_next (by assumption) hn9; ?_) (fun hn9 G9 h9 tk9 tn9 F9 R9 S9 => have al9 := al_torn (by assumption) hn9; ?_) (fun hn9 hneg9 G9 h9 tk9 tn9 e9 a9 F9 R9 S9 => have al9 := al_next (by assumption) hn9; ?_); (case z9hB => k_asm); (case z9hF => k_asm); (case z9hX => k_asm); (case z9hN => k_asm); (case z9hoff => with_reducible assumption); (case z9hT => k_asm); (case z9hk => rfl); (case z9hd => ktr_room); (case z9hu => ktr_units); (case z9hSt => with_reducible assumption); (case z9hE => with_reducible exact err_of (by assumption) (by assumption)); (case z9hs => with_reducible assumption)) | (refine' c_read ?z9hB ?z9hF ?z9hX ?z9hN ?z9hoff ?z9hT ?z9hk ?z9hd ?z9hu ?z9hSt ?z9hE ?z9hs  (fun hn9 h9 tk9 tn9 to9 tv9 F9 N9 => have al9 := al_next (by assumption) hn9; ?_) (fun hn9 G9 h9 tk9 tn9 F9 R9 S9 => have al9 := al_torn (by assumption) hn9; ?_) ; (case z9hB => k_asm); (case z9hF => k_asm); (case z9hX => k_asm); (case z9hN => k_asm); (case z9hoff => with_reducible assumption); (case z9hT => k_asm); (case z9hk => rfl); (case z9hd => ktr_room); (case z9hu => ktr_units); (case z9hSt => with_reducible assumption); (case z9hE => with_reducible exact err_of (by assumption) (by assumption)); (case z9hs => with_reducible assumption)))))
  k_with "subscriptTail" =>
    ((k_here; (with_reducible show wpAny _ _ (subscriptTail _ (Expr.Slice _ _ none _) (Value.bytes _ _) (Value.ref _)) _ _ _); (with_reducible rename Fr _ _ _ _ => F'); (with_reducible rename News _ _ _ _ => N'); (refine slice_bytes (s := ⟨_, _, _, _, _⟩) F' N' (by constructor) (by constructor) (by first | omega | exact picked_fits2 (by assumption)) ?_); intro _ _ _ F' N'))
  k_with "call builtin:_struct.unpack" =>
    ((k_here; k_dflt (refine' call_unpack_A ?z9jF ?z9jN ?z9jz (fun q9 vs9 h9 tk9 hv9 F9 N9 l9 => ?_); (case z9jF => k_asm); (case z9jN => k_asm); (case z9jz => first | with_reducible exact nat22 (by with_reducible assumption) | with_reducible exact last_size (by with_reducible assumption)); obtain ⟨t90, t91, t92, t93, t94, t95, t96, t97, n91, n92, n93, n94, n95, n96, n97, hv8⟩ := hv9; subst hv8)))
  k_with "call builtin:list.append" =>
    ((k_here; (with_reducible show wpAny _ _ (call (Value.builtin _) [Value.ref _, _]) _ _ _); k_dflt (refine' append_K ?z9kk1 ?z9kk2 ?z9kk3 ?_ ?z9kz; (case z9kk1 => k_asm); (case z9kk2 => k_asm); (case z9kk3 => exact .head (ne_lt (by assumption))); (case z9kz => rw [sizeLine_eq]; exact Nat.le_of_ble_eq_true rfl)); intro h' F' N'; (try simp only [List.push_toArray, List.cons_append, List.nil_append] at N')))
  k_with "getMethod ref" =>
    ((k_here; (with_reducible show wpAny _ _ (getMethod (Value.ref _) (Str.ofString "append") _) _ _ _); k_dflt (refine getMethod_append_N (by k_asm) (by exact List.mem_cons_self ..) ?_)))
  k_with "getMethod bytes" =>
    ((k_here; k_dflt (refine meth_rfind ?_)))
  k_with "call builtin:bytes.rfind" =>
    ((k_here; k_dflt (refine call_rfind ?_); intro rt9 rk9))
  k_with "call ref" =>
    ((k_here; (with_reducible show wpAny _ _ (call (Value.ref 83) _) _ _ _); k_dflt (refine' c_e64 ?z9oB ?z9oF ?z9oX ?z9oN ?z9ooff ?z9oT ?z9ok ?z9od ?z9ou ?z9oSt ?z9oE ?z9os ?z9oh7 ?z9oal ?z9ole (fun n9 o9 h9 tk9 tn9 to9 al9 F9 N9 => ?_) (fun h09 G9 h9 tk9 tn9 o9 to9 F9 R9 S9 => ?_); (case z9oB => k_asm); (case z9oF => k_asm); (case z9oX => k_asm); (case z9oN => exact e64_N (by k_asm)); (case z9ooff => exact e64_off (by assumption) (by assumption)); (case z9oT => k_asm); (case z9ok => rfl); (case z9od => ktr_room); (case z9ou => ktr_units); (case z9oSt => exact St.mono (fun p hp => List.mem_cons_of_mem _ hp) (by assumption)); (case z9oE => exact err_mono (by assumption)); (case z9os => with_reducible assumption); (case z9oh7 => with_reducible assumption); (case z9oal => with_reducible assumption); (case z9ole => first | omega | exact end_le (by assumption)))))
  k_with "execs cons" =>
    ((k_here; (with_reducible show wpAny _ _ (execs (Stmt.If (Expr.BoolOp _ _ _) _ _ _ :: _) _) _ _ _); k_dflt (refine' cut_tail ?z9pF ?z9pN ?z9ph (fun h9 tk9 c9 F9 N9 => ?_) ?_; (case z9pF => k_asm); (case z9pN => k_asm); (case z9ph => with_reducible assumption))))
  k_with "storeName" =>
    ((k_here; rw [mx_zero (by assumption)]))
  k_with "compareOp Eq int int" =>
    ((k_here; k_dflt (refine eq_int_true ?_ ?_; (focus exact congrArg Int.ofNat (last_size (by assumption))))))
  k_fill
  intro B F X N hoff T hk hd hu hS hE hs h7 hal XB TB D hnone hlist htornN htorn
  have hx : (x, instObj 135 d) ∈ R := by cases hS; assumption
  have hfs : ∃ cO cF cD qs ts u4 u5 u6 ks, (fs, seekObj cO cF cD qs (.ref ts) u4 u5 u6 ks) ∈ R := by cases hS; exact ⟨_, _, _, _, _, _, _, _, _, by assumption⟩
  have hfr : ∃ cO cF cD qs ts u4 u5 u6 ks, (fr, readObj cO cF cD qs (.ref ts) u4 u5 u6 ks) ∈ R := by cases hS; exact ⟨_, _, _, _, _, _, _, _, _, by assumption⟩
  obtain ⟨cO, cF, cD, qs, ts, u4, u5, u6, ks, hfs⟩ := hfs
  obtain ⟨rO, rF, rD, rs, rt, r4, r5, r6, rk, hfr⟩ := hfr
  obtain ⟨ck, cn1, cn2, cn3, cn4⟩ := cs
  have hk' : ck = .function := hk
  subst hk'
  refine wpAny_call ?_
  refine' code_defS B F X N T XB TB D KtsTurn.refl rfl ?k6 ?k7 ?k8 ?k9 ?kB ?_ rfl ?c2 ?c3 ?c4 ?c5
  case k6 => k_is
  case k7 => k_is
  case k8 => ktr_room
  case k9 => exact BindsTo.of_eq rfl
  case kB => exact locs rfl
  case c2 => exact rfl
  case c3 => exact rfl
  case c4 => exact rfl
  case c5 => decide
  intro g' L' h' FG' F' N' B' X' T' D'
  (try dsimp only); (try k_lift B'); (try k_fold)
  k_steps
  · exact hnone _ _ _ _ _ _ _ KtsTurn.refl B X T D (by k_asm) (by with_reducible assumption) (end_cut hs (by with_reducible assumption) (by with_reducible assumption : CondB b) (by with_reducible assumption) (by with_reducible assumption)) (by k_asm)
  · exact hlist _ _ _ _ _ _ _ _ _ _ _ KtsTurn.refl B X T D (by k_asm) (by with_reducible assumption) (end_yes hs (by with_reducible assumption) (by with_reducible assumption)) (by k_asm) (by exact rfl)
  · refine' flew_on ?K ?F ?hf ?R ?S ?_
    case R => assumption
    case F => assumption
    case K => assumption
    case hf => rfl
    case S => assumption
    intro h8 R8 S8
    exact htorn _ _ _ _ _ _ _ rfl (by with_reducible assumption) FG' (flew_sub R8 drop_cons) S8
  · exact hnone _ _ _ _ _ _ _ KtsTurn.refl B X T D (by k_asm) (by with_reducible assumption) (end_none hs (by with_reducible assumption) (by with_reducible assumption : CondB b) (by with_reducible assumption)) (by k_asm)
  · refine' flew_on ?K ?F ?hf ?R ?S ?_
    case R => assumption
    case F => assumption
    case K => assumption
    case hf => rfl
    case S => assumption
    intro h8 R8 S8
    exact htorn _ _ _ _ _ _ _ (by with_reducible assumption) (by with_reducible assumption) FG' R8 S8
  · refine' flew_on ?K ?F ?hf ?R ?S ?_
    case R => assumption
    case F => assumption
    case K => assumption
    case hf => rfl
    case S => assumption
    intro h8 R8 S8
    exact htorn _ _ _ _ _ _ _ (by with_reducible assumption) (by with_reducible assumption) FG' R8 S8
  · exact hlist _ _ _ _ _ _ _ _ _ _ _ KtsTurn.refl B X T D (by k_asm) (by with_reducible assumption) (end_last (by with_reducible assumption) (by with_reducible assumption) (by with_reducible assumption)) (by k_asm) (by exact rfl)
  · refine' flew_on ?K ?F ?hf ?R ?S ?_
    case R => assumption
    case F => assumption
    case K => assumption
    case hf => rfl
    case S => assumption
    intro h8 R8 S8
    exact htorn _ _ _ _ _ _ _ rfl (by with_reducible assumption) FG' (flew_sub R8 drop_cons) S8
  · exact .inr (by with_reducible assumption)
  · k_asm
  · k_asm
  · exact .inl (by with_reducible assumption)
  · k_asm
  · k_asm
  · refine' flew_on ?K ?F ?hf ?R ?S ?_
    case R => assumption
    case F => assumption
    case K => assumption
    case hf => rfl
    case S => assumption
    intro h8 R8 S8
    exact htorn _ _ _ _ _ _ _ (by with_reducible assumption) (by with_reducible assumption) FG' R8 S8
  · have h0 : 0 < τ := by assumption
    have hkd : Kd k cls := (hE h0).2.1
    refine' flew_note _ ?nR ?nK ?nS ?_
    case nR => assumption
    case nK => assumption
    case nS => assumption
    intro h7 R7 S7
    cases hkd with
    | os =>
      refine' flew_hit (KF := Mine.hd.heap_39 w.params) R7 ?hF ?hK S7 XB TB ?hD (tests_os .os) ?_
      case hF => assumption
      case hK => assumption
      case hD => assumption
      intro h6 tk6 g6 T6 F6 N6 K6 X6 P6 D6
      k_steps
      exact htornN _ _ _ _ _ _ _ (by with_reducible assumption) (by with_reducible assumption) (by with_reducible assumption) (by with_reducible assumption) (by with_reducible assumption) (by k_asm) (by with_reducible assumption) h0 rfl (by k_asm)
    | bad =>
      refine' flew_miss R7 ?hF ?hK S7 XB TB (tests_os .bad) ?_
      case hF => assumption
      case hK => assumption
      intro h6 tk6 R6 S6
      refine' flewH_on ?mK ?mF rfl R6 S6 ?_
      case mK => assumption
      case mF => assumption
      intro h8 R8 S8
      exact htorn _ _ _ _ _ _ _ (by with_reducible assumption) (by with_reducible assumption) FG' R8 S8
    | ve =>
      refine' flew_miss R7 ?hF ?hK S7 XB TB (tests_os .ve) ?_
      case hF => assumption
      case hK => assumption
      intro h6 tk6 R6 S6
      refine' flewH_on ?mK ?mF rfl R6 S6 ?_
      case mK => assumption
      case mF => assumption
      intro h8 R8 S8
      exact htorn _ _ _ _ _ _ _ (by with_reducible assumption) (by with_reducible assumption) FG' R8 S8
  · 
    refine' flew_note _ ?nR ?nK ?nS ?_
    case nR => assumption
    case nK => assumption
    case nS => assumption
    intro h7 R7 S7
    refine' flew_hit (KF := Mine.hd.heap_39 w.params) R7 ?hF ?hK S7 XB TB ?hD (tests_os .os) ?_
    case hF => assumption
    case hK => assumption
    case hD => assumption
    intro h6 tk6 g6 T6 F6 N6 K6 X6 P6 D6
    k_steps
    exact hnone _ _ _ _ _ _ _ (by with_reducible assumption) (by with_reducible assumption) (by with_reducible assumption) (by with_reducible assumption) (by with_reducible assumption) (by k_asm) (by with_reducible assumption) (law_short b (by omega)) (by k_asm)
  · refine' flew_on ?K ?F ?hf ?R ?S ?_
    case R => assumption
    case F => assumption
    case K => assumption
    case hf => rfl
    case S => assumption
    intro h8 R8 S8
    exact htorn _ _ _ _ _ _ _ (by with_reducible assumption) (by with_reducible assumption) FG' R8 S8
end Mine
end

section
open PySem PySem.W PySem.Calls PyProof.Rows
set_option maxRecDepth 100000
namespace Mine
theorem truthy_lst {prog : Program} {w : World} {A : Around} {E : Value → Shared → Prop} {s : Shared} {h₀ : Heap} {L D : Addr} {p1 : Addr × Obj} {R : List (Addr × Obj)} {v : Value} {vs : List Value} {c : Nat} {Q : Bool → Shared → Prop} (N : News h₀ L s.heap (p1 :: (D, listOf (v :: vs).toArray c) :: R)) (hz : vs.length = 9) (h : Q true { s with toks := s.toks + 1 + 1 }) :
    wpAny (model prog w) A (truthy (.ref D)) Q E s := by
  refine wpAny_truthy_list (items := (v :: vs).toArray) (News.isList N (List.mem_cons_of_mem _ (List.mem_cons_self ..))) ?_ ?_
  · rw [List.size_toArray, List.length_cons, hz]; decide
  · have e : (v :: vs).toArray.isEmpty = false := by simp [Array.isEmpty]
    rw [e]; exact h
end Mine
open PySem PySem.W PySem.Calls PyProof.Rows
set_option maxRecDepth 100000
namespace Mine
local macro_rules | `(tactic| units_room) => `(tactic| ktr_units)
local macro_rules | `(tactic| k_room) => `(tactic| ktr_room)
local macro_rules | `(tactic| k_all) => `(tactic| first | assumption | exact ne_all (by assumption) | exact ne_lt (by assumption))
local macro_rules | `(tactic| k_lt $h:ident) => `(tactic| skip)
set_option maxHeartbeats 1000000 in
theorem c_check {w : World} {p : Program} {loose : List Str} {mean : ExcName → Option Value} {mg mb : Str → Option Value} {dp un : Nat} {gd : Option (List Code)} {cn : Str} {cs : Scope} {a : Addr} {ccd : Value} {outer : List Env} {A₀ : Around} {base h₀ : Heap} {L : Addr} {m : Str → Option Value} {R : List (Addr × Obj)} {s : Shared} {Q E : Value → Shared → Prop}
    {d x fs fr : Addr} {t1 t2 t3 t4 tn to : Tok} {n o τ : Int} {er : Value} {k : Nat} {e : Addr} {cls a0 : Value} {b : Array UInt8} :
    Below A₀ base outer h₀ → Fr h₀ L s.heap m → (Mine.hd.heap_39 w.params).In h₀ → News h₀ L s.heap ((d, dictF w t1 t2 t3 t4 fs fr n tn o to) :: R) → (∀ p ∈ R, p.1 ≠ d) → Top p loose mean mg mb h₀ → cs.kind = .function → dp + 140 < recursionLimit → un + 2800 < cLine →
    St b τ er x d fs fr R → (0 < τ → ErrIn er e k cls a0 R) → b.size ≤ 1000 → No7 b → Al n τ → (Mine.hd.heap_39 w.params).In base → Top p loose mean mg mb base → KtsDicts (outer.filterMap (·.frame)) h₀ →
    (∀ g' n' o' h' tk tn' to', KtsTurn (outer.filterMap (·.frame)) h₀ g' → Below A₀ base outer g' → (Mine.hd.heap_39 w.params).In g' → Top p loose mean mg mb g' → KtsDicts (outer.filterMap (·.frame)) g' → Fr g' L h' m → Al n' τ → News g' L h' ((d, dictF w t1 t2 t3 t4 fs fr n' tn' o' to') :: R) → Q (.bool (dueB b)) { s with heap := h', toks := tk }) →
    (∀ g' n' o' h' tk tn' to', KtsTurn (outer.filterMap (·.frame)) h₀ g' → Below A₀ base outer g' → (Mine.hd.heap_39 w.params).In g' → Top p loose mean mg mb g' → KtsDicts (outer.filterMap (·.frame)) g' → Fr g' L h' m → n' = τ → 0 < τ → k = 0 → News g' L h' ((d, dictF w t1 t2 t3 t4 fs fr n' tn' o' to') :: drop e R) → Q (.bool false) { s with heap := h', toks := tk }) →
    (∀ G n' h' tk tn' o' to', n' = τ → 0 < τ → k ≠ 0 → Fr h₀ L G m → Flew base G (envX cn cs L a ccd [] :: outer) e cls a0 ((d, dictF w t1 t2 t3 t4 fs fr n' tn' o' to') :: drop e R) h' → G.UpToSlots h' → E (.ref e) { s with heap := h', toks := tk }) →
    wpAny (model Challenge.rw_kl0460_01.row.prog w) (ktrTop dp un gd cn cs L a ccd [] outer) (call (.ref 69) [] [(Str.ofString "fp", .ref x)]) Q E s := by
  w_top off
  k_with_none
  k_with "call ref" =>
    ((k_here; (with_reducible show wpAny _ _ (call (Value.ref 90) _) _ _ _); k_dflt (refine' c_end ?z9aB ?z9aF ?z9aX ?z9aN ?z9aoff ?z9aT ?z9ak ?z9ad ?z9au ?z9aSt ?z9aE ?z9as ?z9ah7 ?z9aal ?z9aXB ?z9aTB ?z9aD (fun g9 n9 o9 h9 tk9 tn9 to9 T9 B9 X9 P9 D9 F9 al9 z9 N9 => ?_) (fun g9 n9 o9 h9 tk9 tn9 to9 l9 v9 vs9 c9 T9 B9 X9 P9 D9 F9 al9 z9 N9 w9 => ?_) (fun g9 n9 o9 h9 tk9 tn9 to9 T9 B9 X9 P9 D9 F9 e9 z9 k9 N9 => ?_) (fun G9 n9 h9 tk9 tn9 o9 to9 e9 z9 F9 R9 S9 => ?_); (case z9aF => k_asm); (case z9aB => k_asm); (case z9aX => k_asm); (case z9aN => k_asm); (case z9aoff => with_reducible assumption); (case z9aT => k_asm); (case z9ak => rfl); (case z9ad => ktr_room); (case z9au => ktr_units); (case z9aSt => with_reducible assumption); (case z9aE => with_reducible assumption); (case z9as => with_reducible assumption); (case z9ah7 => with_reducible assumption); (case z9aal => with_reducible assumption); (case z9aXB => k_asm); (case z9aTB => k_asm); (case z9aD => assumption))))
  k_with "truthy ref" =>
    ((k_here; k_dflt (refine truthy_lst (by k_asm) (by with_reducible assumption) ?_)))
  k_fill
  intro B F X N hoff T hk hd hu hS hE hs h7 hal XB TB D hval htornF htorn
  obtain ⟨ck, cn1, cn2, cn3, cn4⟩ := cs
  have hk' : ck = .function := hk
  subst hk'
  refine wpAny_call ?_
  refine' code_defS B F X N T XB TB D KtsTurn.refl rfl ?k6 ?k7 ?k8 ?k9 ?kB ?_ rfl ?c2 ?c3 ?c4 ?c5
  case k6 => k_is
  case k7 => k_is
  case k8 => ktr_room
  case k9 => exact BindsTo.of_eq rfl
  case kB => exact locs rfl
  case c2 => exact rfl
  case c3 => exact rfl
  case c4 => exact rfl
  case c5 => decide
  intro g' L' h' FG' F' N' B' X' T' D'
  (try dsimp only); (try k_lift B'); (try k_fold)
  k_steps
  · rename dueB b = false => z8
    rw [z8] at hval
    exact hval _ _ _ _ _ _ _ (by with_reducible assumption) (by with_reducible assumption) (by with_reducible assumption) (by with_reducible assumption) (by with_reducible assumption) (by k_asm) (by with_reducible assumption) (by k_asm)
  · rename dueB b = true => z8
    rw [z8] at hval
    exact hval _ _ _ _ _ _ _ (by with_reducible assumption) (by with_reducible assumption) (by with_reducible assumption) (by with_reducible assumption) (by with_reducible assumption) (by k_asm) (by with_reducible assumption) (News.perm (by k_asm) fun p hp => by
      rcases List.mem_cons.mp hp with rfl | hp
      · exact List.mem_cons_self ..
      · exact List.mem_cons_of_mem _ (List.mem_cons_of_mem _ hp))
  · exact htornF _ _ _ _ _ _ _ (by with_reducible assumption) (by with_reducible assumption) (by with_reducible assumption) (by with_reducible assumption) (by with_reducible assumption) (by k_asm) (by with_reducible assumption) (by with_reducible assumption) (by with_reducible assumption) (by k_asm)
  · have h0 : 0 < τ := by assumption
    have hkd : Kd k cls := (hE h0).2.1
    refine' flew_note _ ?nR ?nK ?nS ?_
    case nR => assumption
    case nK => assumption
    case nS => assumption
    intro h7 R7 S7
    cases hkd with
    | os =>
      refine' flew_hit (KF := Mine.hd.heap_39 w.params) R7 ?hF ?hK S7 XB TB ?hD (tests_os .os) ?_
      case hF => assumption
      case hK => assumption
      case hD => assumption
      intro h6 tk6 g6 T6 F6 N6 K6 X6 P6 D6
      k_steps
      exact htornF _ _ _ _ _ _ _ (by with_reducible assumption) (by with_reducible assumption) (by with_reducible assumption) (by with_reducible assumption) (by with_reducible assumption) (by k_asm) (by with_reducible assumption) h0 rfl (by k_asm)
    | bad =>
      refine' flew_miss R7 ?hF ?hK S7 XB TB (tests_os .bad) ?_
      case hF => assumption
      case hK => assumption
      intro h6 tk6 R6 S6
      refine' flewH_on ?mK ?mF rfl R6 S6 ?_
      case mK => assumption
      case mF => assumption
      intro h8 R8 S8
      exact htorn _ _ _ _ _ _ _ (by with_reducible assumption) (by with_reducible assumption) (by decide) (by assumption) R8 S8
    | ve =>
      refine' flew_miss R7 ?hF ?hK S7 XB TB (tests_os .ve) ?_
      case hF => assumption
      case hK => assumption
      intro h6 tk6 R6 S6
      refine' flewH_on ?mK ?mF rfl R6 S6 ?_
      case mK => assumption
      case mF => assumption
      intro h8 R8 S8
      exact htorn _ _ _ _ _ _ _ (by with_reducible assumption) (by with_reducible assumption) (by decide) (by assumption) R8 S8
end Mine
end

section
set_option maxRecDepth 100000
namespace Mine
open PySem PySem.W PySem.Calls PyProof.Rows PySem.Spec
theorem ha_kind : builtinKind "hasattr" = none := by decide +kernel
theorem ha_plain : plainId "hasattr" = true := by decide +kernel
theorem ha_entry : entryFor table "hasattr" = some Builtin.«hasattr» := entryFor_of_fast (by kernel_rfl)
theorem ha_args (a b : Value) : argsOk "hasattr" ⟨[a, b], []⟩ := by unfold argsOk; kernel_rfl
set_option maxHeartbeats 4000000 in
theorem mod_135 (P : Params) : mroIn (Mine.hd.heap_39 P) 135 (.type "module") = some false := by kernel_rfl
section
variable {w : World} {A : Around} {E : Value → Shared → Prop} {s : Shared} {h₀ : Heap} {L x d fs fr : Addr} {m : Str → Option Value} {l : List (Addr × Obj)} {t1 t2 t3 t4 tn to : Tok} {n o : Int}
theorem has_read {Q : Value → Shared → Prop} {t : Tok} (F : Fr h₀ L s.heap m) (X : (Mine.hd.heap_39 w.params).In h₀) (N : News h₀ L s.heap ((d, dictF w t1 t2 t3 t4 fs fr n tn o to) :: l)) (hX : (x, instObj 135 d) ∈ l) (h : ∀ tk, Q (.bool true) { s with toks := tk }) :
    wpAny (model Challenge.rw_kl0460_01.row.prog w) A (call (.builtin "hasattr") [.ref x, .str (Str.ofString "read") t]) Q E s := by
  have I := inst_F N hX
  have LT := I.type (M := model Challenge.rw_kl0460_01.row.prog w)
  have XX := X.keeps F.keep
  refine call_function_entry ha_kind ha_plain ha_entry (ha_args _ _) ?_
  unfold Builtin.«hasattr»
  refine wpAny_bind (wpAny_of_eq (a := [.ref x, .str (Str.ofString "read") t]) rfl ?_)
  dsimp only
  refine wpAny_bind (wpAny_of_eq (a := ()) rfl ?_)
  rw [if_neg (by simp)]
  refine wpAny_bind (LT.here ?_)
  dsimp only
  refine wpAny_bind ?_
  refine (wpAny_bind (m := isInstance (.ref x) (.type "module")) ?_)
  have LB : Looks (model Challenge.rw_kl0460_01.row.prog w) s.heap (isInstance (.ref x) (.type "module")) false := LT.andThen (looks_mroIn XX (mod_135 _))
  refine LB.here ?_
  rw [Bool.not_false, if_pos rfl]
  refine wpAny_pure ?_
  rw [if_neg (by decide)]
  unfold getAttrBy?
  have hfd : findObj (Mine.hd.heap_39 w.params) 135 (some (dictF w t1 t2 t3 t4 fs fr n tn o to)) (Str.ofString "read") = some (.value (.ref fr)) := findObj_own (hd_135 _) (fi_read _) rfl rfl
  have L1 := looks_findIn (M := model Challenge.rw_kl0460_01.row.prog w) XX (pgt (pg_read w.params)).1
  have L2 := looks_find (M := model Challenge.rw_kl0460_01.row.prog w) XX I hfd
  refine wpAny_bind (wpAny_bind (wpAny_attempt ?_))
  unfold getAttrBy
  refine wpAny_holding (wpAny_bind (LT.here (wpAny_bind (L1.here ?_))))
  show wpAny _ _ (getAttrEveryday (.ref x) (.str (Str.ofString "read") t) false) _ _ _
  refine wpAny_bind (wpAny_onRaise (wpAny_runValue (codeAny_builtin PySem.F.plainObj_entry_getattr_hooked ?_)))
  refine wpAny_bind (wpAny_pure (wpAny_bind (LT.here (wpAny_bind (L2.here ?_)))))
  refine wpAny_pure ?_
  show wpAny _ _ (handedOut (.ref fr)) _ _ _
  rw [handedOut_of rfl]
  refine wpAny_pure (wpAny_pure ?_)
  rw [if_neg (by simp)]
  exact wpAny_pure ⟨_, rfl, h _⟩
end
end Mine
end

section
open PySem PySem.W PySem.Calls PyProof.Rows
set_option maxRecDepth 100000
namespace Mine
local macro_rules | `(tactic| units_room) => `(tactic| ktr_units)
local macro_rules | `(tactic| k_room) => `(tactic| ktr_room)
local macro_rules | `(tactic| k_all) => `(tactic| first | assumption | exact ne_all (by assumption) | exact ne_lt (by assumption))
local macro_rules | `(tactic| k_lt $h:ident) => `(tactic| skip)
set_option maxHeartbeats 1000000 in
theorem c_isz {w : World} {p : Program} {loose : List Str} {mean : ExcName → Option Value} {mg mb : Str → Option Value} {dp un : Nat} {gd : Option (List Code)} {cn : Str} {cs : Scope} {a : Addr} {ccd : Value} {outer : List Env} {A₀ : Around} {base h₀ : Heap} {L : Addr} {m : Str → Option Value} {R : List (Addr × Obj)} {s : Shared} {Q E : Value → Shared → Prop}
    {d x fs fr : Addr} {t1 t2 t3 t4 tn to : Tok} {n o τ : Int} {er : Value} {k : Nat} {e : Addr} {cls a0 : Value} {b : Array UInt8} :
    Below A₀ base outer h₀ → Fr h₀ L s.heap m → (Mine.hd.heap_39 w.params).In h₀ → News h₀ L s.heap ((d, dictF w t1 t2 t3 t4 fs fr n tn o to) :: R) → (∀ p ∈ R, p.1 ≠ d) → Top p loose mean mg mb h₀ → cs.kind = .function → dp + 180 < recursionLimit → un + 3600 < cLine →
    St b τ er x d fs fr R → (0 < τ → ErrIn er e k cls a0 R) → b.size ≤ 1000 → No7 b → Al n τ → (Mine.hd.heap_39 w.params).In base → Top p loose mean mg mb base → KtsDicts (outer.filterMap (·.frame)) h₀ →
    (∀ g' n' o' h' tk tn' to', KtsTurn (outer.filterMap (·.frame)) h₀ g' → Below A₀ base outer g' → (Mine.hd.heap_39 w.params).In g' → Top p loose mean mg mb g' → KtsDicts (outer.filterMap (·.frame)) g' → Fr g' L h' m → Al n' τ → News g' L h' ((d, dictF w t1 t2 t3 t4 fs fr n' tn' o' to') :: R) → Q (.bool (dueB b)) { s with heap := h', toks := tk }) →
    (∀ g' n' o' h' tk tn' to', KtsTurn (outer.filterMap (·.frame)) h₀ g' → Below A₀ base outer g' → (Mine.hd.heap_39 w.params).In g' → Top p loose mean mg mb g' → KtsDicts (outer.filterMap (·.frame)) g' → Fr g' L h' m → n' = τ → 0 < τ → k ≠ 2 → News g' L h' ((d, dictF w t1 t2 t3 t4 fs fr n' tn' o' to') :: drop e R) → Q (.bool false) { s with heap := h', toks := tk }) →
    (∀ G n' h' tk tn' o' to', n' = τ → 0 < τ → k = 2 → Fr h₀ L G m → Flew base G (envX cn cs L a ccd [] :: outer) e cls a0 ((d, dictF w t1 t2 t3 t4 fs fr n' tn' o' to') :: drop e R) h' → G.UpToSlots h' → E (.ref e) { s with heap := h', toks := tk }) →
    wpAny (model Challenge.rw_kl0460_01.row.prog w) (ktrTop dp un gd cn cs L a ccd [] outer) (call (.ref 76) [.ref x]) Q E s := by
  w_top off
  k_with_none
  k_with "call ref" =>
    ((k_here; (with_reducible show wpAny _ _ (call (Value.ref 69) _ _) _ _ _); k_dflt (refine' c_check ?z9aB ?z9aF ?z9aX ?z9aN ?z9aoff ?z9aT ?z9ak ?z9ad ?z9au ?z9aSt ?z9aE ?z9as ?z9ah7 ?z9aal ?z9aXB ?z9aTB ?z9aD (fun g9 n9 o9 h9 tk9 tn9 to9 T9 B9 X9 P9 D9 F9 al9 N9 => ?_) (fun g9 n9 o9 h9 tk9 tn9 to9 T9 B9 X9 P9 D9 F9 e9 z9 k9 N9 => ?_) (fun G9 n9 h9 tk9 tn9 o9 to9 e9 z9 k9 F9 R9 S9 => ?_); (case z9aF => k_asm); (case z9aB => k_asm); (case z9aX => k_asm); (case z9aN => k_asm); (case z9aoff => with_reducible assumption); (case z9aT => k_asm); (case z9ak => rfl); (case z9ad => ktr_room); (case z9au => ktr_units); (case z9aSt => with_reducible assumption); (case z9aE => with_reducible assumption); (case z9as => with_reducible assumption); (case z9ah7 => with_reducible assumption); (case z9aal => with_reducible assumption); (case z9aXB => k_asm); (case z9aTB => k_asm); (case z9aD => assumption))))
  k_with "call builtin:hasattr" =>
    ((k_here; k_dflt (refine' has_read ?z9bF ?z9bX ?z9bN ?z9bhX (fun tk9 => ?_); (case z9bF => k_asm); (case z9bX => k_asm); (case z9bN => k_asm); (case z9bhX => with_reducible assumption))))
  k_fill
  intro B F X N hoff T hk hd hu hS hE hs h7 hal XB TB D hval htornF htorn
  have hx : (x, instObj 135 d) ∈ R := by cases hS; assumption
  obtain ⟨ck, cn1, cn2, cn3, cn4⟩ := cs
  have hk' : ck = .function := hk
  subst hk'
  refine wpAny_call ?_
  refine' code_defS B F X N T XB TB D KtsTurn.refl rfl ?k6 ?k7 ?k8 ?k9 ?kB ?_ rfl ?c2 ?c3 ?c4 ?c5
  case k6 => k_is
  case k7 => k_is
  case k8 => ktr_room
  case k9 => exact BindsTo.of_eq rfl
  case kB => exact locs rfl
  case c2 => exact rfl
  case c3 => exact rfl
  case c4 => exact rfl
  case c5 => decide
  intro g' L' h' FG' F' N' B' X' T' D'
  (try dsimp only); (try k_lift B'); (try k_fold)
  k_steps
  · exact hval _ _ _ _ _ _ _ (by with_reducible assumption) (by with_reducible assumption) (by with_reducible assumption) (by with_reducible assumption) (by with_reducible assumption) (by k_asm) (by with_reducible assumption) (by k_asm)
  · exact htornF _ _ _ _ _ _ _ (by with_reducible assumption) (by with_reducible assumption) (by with_reducible assumption) (by with_reducible assumption) (by with_reducible assumption) (by k_asm) (by with_reducible assumption) (by with_reducible assumption) (by rename k = 0 => k8; omega) (by k_asm)
  · have h0 : 0 < τ := by assumption
    have hkd : Kd k cls := (hE h0).2.1
    refine' flew_note _ ?nR ?nK ?nS ?_
    case nR => assumption
    case nK => assumption
    case nS => assumption
    intro h7 R7 S7
    cases hkd with
    | os => exact absurd rfl (by assumption)
    | bad =>
      refine' flew_hit (KF := Mine.hd.heap_39 w.params) R7 ?hF ?hK S7 XB TB ?hD (tests_2 .bad) ?_
      case hF => assumption
      case hK => assumption
      case hD => assumption
      intro h6 tk6 g6 T6 F6 N6 K6 X6 P6 D6
      k_steps
      exact htornF _ _ _ _ _ _ _ (by with_reducible assumption) (by with_reducible assumption) (by with_reducible assumption) (by with_reducible assumption) (by with_reducible assumption) (by k_asm) (by with_reducible assumption) h0 (by decide) (by k_asm)
    | ve =>
      refine' flew_miss R7 ?hF ?hK S7 XB TB (tests_2 .ve) ?_
      case hF => assumption
      case hK => assumption
      intro h6 tk6 R6 S6
      refine' flewH_on ?mK ?mF rfl R6 S6 ?_
      case mK => assumption
      case mF => assumption
      intro h8 R8 S8
      exact htorn _ _ _ _ _ _ _ (by with_reducible assumption) (by with_reducible assumption) rfl (by assumption) R8 S8
set_option maxHeartbeats 1000000 in
theorem c_iszK {w : World} {p : Program} {loose : List Str} {mean : ExcName → Option Value} {mg mb : Str → Option Value} {dp un : Nat} {gd : Option (List Code)} {cn : Str} {cs : Scope} {a : Addr} {ccd : Value} {outer : List Env} {A₀ : Around} {base h₀ : Heap} {L : Addr} {m : Str → Option Value} {R : List (Addr × Obj)} {s : Shared} {Q E : Value → Shared → Prop}
    {d x fs fr : Addr} {t1 t2 t3 t4 tn to : Tok} {n o τ : Int} {er : Value} {k : Nat} {e : Addr} {cls a0 : Value} {b : Array UInt8} :
    Below A₀ base outer h₀ → Fr h₀ L s.heap m → (Mine.hd.heap_39 w.params).In h₀ → News h₀ L s.heap ((d, dictF w t1 t2 t3 t4 fs fr n tn o to) :: R) → (∀ p ∈ R, p.1 ≠ d) → Top p loose mean mg mb h₀ → cs.kind = .function → dp + 180 < recursionLimit → un + 3600 < cLine →
    St b τ er x d fs fr R → (0 < τ → ErrIn er e k cls a0 R) → b.size ≤ 1000 → No7 b → Al n τ → (Mine.hd.heap_39 w.params).In base → Top p loose mean mg mb base → KtsDicts (outer.filterMap (·.frame)) h₀ →
    (∀ g' n' o' h' tk tn' to', KtsTurn (outer.filterMap (·.frame)) h₀ g' → Below A₀ base outer g' → (Mine.hd.heap_39 w.params).In g' → Top p loose mean mg mb g' → KtsDicts (outer.filterMap (·.frame)) g' → Fr g' L h' m → Al n' τ → News g' L h' ((d, dictF w t1 t2 t3 t4 fs fr n' tn' o' to') :: R) → Q (.bool (dueB b)) { s with heap := h', toks := tk }) →
    (∀ g' n' o' h' tk tn' to', KtsTurn (outer.filterMap (·.frame)) h₀ g' → Below A₀ base outer g' → (Mine.hd.heap_39 w.params).In g' → Top p loose mean mg mb g' → KtsDicts (outer.filterMap (·.frame)) g' → Fr g' L h' m → n' = τ → 0 < τ → k ≠ 2 → News g' L h' ((d, dictF w t1 t2 t3 t4 fs fr n' tn' o' to') :: drop e R) → Q (.bool false) { s with heap := h', toks := tk }) →
    (∀ G n' h' tk tn' o' to', n' = τ → 0 < τ → k = 2 → Fr h₀ L G m → Flew base G (envX cn cs L a ccd [] :: outer) e cls a0 ((d, dictF w t1 t2 t3 t4 fs fr n' tn' o' to') :: drop e R) h' → G.UpToSlots h' → E (.ref e) { s with heap := h', toks := tk }) →
    wpAny (model Challenge.rw_kl0460_01.row.prog w) (ktrTop dp un gd cn cs L a ccd [] outer) (call (.ref 76) [] [(Str.ofString "filename", .ref x)]) Q E s := by
  w_top off
  k_with_none
  k_with "call ref" =>
    ((k_here; (with_reducible show wpAny _ _ (call (Value.ref 69) _ _) _ _ _); k_dflt (refine' c_check ?z9aB ?z9aF ?z9aX ?z9aN ?z9aoff ?z9aT ?z9ak ?z9ad ?z9au ?z9aSt ?z9aE ?z9as ?z9ah7 ?z9aal ?z9aXB ?z9aTB ?z9aD (fun g9 n9 o9 h9 tk9 tn9 to9 T9 B9 X9 P9 D9 F9 al9 N9 => ?_) (fun g9 n9 o9 h9 tk9 tn9 to9 T9 B9 X9 P9 D9 F9 e9 z9 k9 N9 => ?_) (fun G9 n9 h9 tk9 tn9 o9 to9 e9 z9 k9 F9 R9 S9 => ?_); (case z9aF => k_asm); (case z9aB => k_asm); (case z9aX => k_asm); (case z9aN => k_asm); (case z9aoff => with_reducible assumption); (case z9aT => k_asm); (case z9ak => rfl); (case z9ad => ktr_room); (case z9au => ktr_units); (case z9aSt => with_reducible assumption); (case z9aE => with_reducible assumption); (case z9as => with_reducible assumption); (case z9ah7 => with_reducible assumption); (case z9aal => with_reducible assumption); (case z9aXB => k_asm); (case z9aTB => k_asm); (case z9aD => assumption))))
  k_with "call builtin:hasattr" =>
    ((k_here; k_dflt (refine' has_read ?z9bF ?z9bX ?z9bN ?z9bhX (fun tk9 => ?_); (case z9bF => k_asm); (case z9bX => k_asm); (case z9bN => k_asm); (case z9bhX => with_reducible assumption))))
  k_fill
  intro B F X N hoff T hk hd hu hS hE hs h7 hal XB TB D hval htornF htorn
  have hx : (x, instObj 135 d) ∈ R := by cases hS; assumption
  obtain ⟨ck, cn1, cn2, cn3, cn4⟩ := cs
  have hk' : ck = .function := hk
  subst hk'
  refine wpAny_call ?_
  refine' code_defS B F X N T XB TB D KtsTurn.refl rfl ?k6 ?k7 ?k8 ?k9 ?kB ?_ rfl ?c2 ?c3 ?c4 ?c5
  case k6 => k_is
  case k7 => k_is
  case k8 => ktr_room
  case k9 => exact BindsTo.of_eq rfl
  case kB => exact locs rfl
  case c2 => exact rfl
  case c3 => exact rfl
  case c4 => exact rfl
  case c5 => decide
  intro g' L' h' FG' F' N' B' X' T' D'
  (try dsimp only); (try k_lift B'); (try k_fold)
  k_steps
  · exact hval _ _ _ _ _ _ _ (by with_reducible assumption) (by with_reducible assumption) (by with_reducible assumption) (by with_reducible assumption) (by with_reducible assumption) (by k_asm) (by with_reducible assumption) (by k_asm)
  · exact htornF _ _ _ _ _ _ _ (by with_reducible assumption) (by with_reducible assumption) (by with_reducible assumption) (by with_reducible assumption) (by with_reducible assumption) (by k_asm) (by with_reducible assumption) (by with_reducible assumption) (by rename k = 0 => k8; omega) (by k_asm)
  · have h0 : 0 < τ := by assumption
    have hkd : Kd k cls := (hE h0).2.1
    refine' flew_note _ ?nR ?nK ?nS ?_
    case nR => assumption
    case nK => assumption
    case nS => assumption
    intro h7 R7 S7
    cases hkd with
    | os => exact absurd rfl (by assumption)
    | bad =>
      refine' flew_hit (KF := Mine.hd.heap_39 w.params) R7 ?hF ?hK S7 XB TB ?hD (tests_2 .bad) ?_
      case hF => assumption
      case hK => assumption
      case hD => assumption
      intro h6 tk6 g6 T6 F6 N6 K6 X6 P6 D6
      k_steps
      exact htornF _ _ _ _ _ _ _ (by with_reducible assumption) (by with_reducible assumption) (by with_reducible assumption) (by with_reducible assumption) (by with_reducible assumption) (by k_asm) (by with_reducible assumption) h0 (by decide) (by k_asm)
    | ve =>
      refine' flew_miss R7 ?hF ?hK S7 XB TB (tests_2 .ve) ?_
      case hF => assumption
      case hK => assumption
      intro h6 tk6 R6 S6
      refine' flewH_on ?mK ?mF rfl R6 S6 ?_
      case mK => assumption
      case mF => assumption
      intro h8 R8 S8
      exact htorn _ _ _ _ _ _ _ (by with_reducible assumption) (by with_reducible assumption) rfl (by assumption) R8 S8
end Mine
end

section
set_option maxRecDepth 100000
namespace Mine
open PySem PySem.W PySem.Calls PyProof.Rows PySem.Spec
section
variable {prog : Program} {w : World} {A₀ A : Around} {s : Shared} {base h₀ : Heap} {outer : List Env} {L a : Addr} {m : Str → Option Value} {cn : Str} {cs : Scope} {ccd : Value} {news : List (Addr × Obj)} {K : Frag} {p : Program} {loose : List Str} {mean : ExcName → Option Value} {mg mb : Str → Option Value} {R : Result → Shared → Prop}
theorem leaveS_back {g : Heap} (B : Below A₀ base outer h₀) (F : Fr h₀ L s.heap m) (hg : g = hideAll s.heap (news.map (·.1))) (N : News h₀ L s.heap news) (XB : K.In base) (TB : Top p loose mean mg mb base) (D : KtsDicts (outer.filterMap (·.frame)) h₀) (hA : A.frames = some (envOf cn cs L a ccd :: outer)) (hck : cs.kind = .function) {v : Value} {s' : Shared}
    (hl : LeaveS ((envOf cn cs L a ccd :: outer).filterMap (·.frame)) A₀ base outer K p loose mean mg mb h₀ h₀ L m g R v s') : R (.ok (.ret v)) s' := by
  obtain ⟨oL, es, ep, hLg, hLd, hN, hNs, st, B₂⟩ := kts_enter B F N hA hck
  rw [← hg] at hLg st
  have nL₀ : h₀.get? L = none := kts_self F
  rcases hl with ⟨L', m', news', F', N', k⟩ | ⟨g', L', m', news', T', F', N', k⟩
  · refine k ⟨hN _ (F'.keep _ _ hLg), fun b o e => F'.keep b o (st b o e), F.above⟩ fun p hp => ⟨(N' p hp).1, fun q => ?_, ?_⟩
    · have := (N' p hp).2.2; rw [q, hLg] at this; cases this
    · cases q : h₀.get? p.1 with
      | none => rfl
      | some o => have := (N' p hp).2.2; rw [st _ _ q] at this; cases this
  obtain ⟨sl, hs⟩ := T'.up hLg
  obtain ⟨T₁, S₁⟩ := kts_turn_at (h := s'.heap) (fs := outer.filterMap (·.frame)) (g := h₀)
    (fun b hb => by
      obtain ⟨_, o, ho', _⟩ := B.frames.mem hb
      exact ⟨o, ho'⟩)
    (fun b o e nmem => F'.keep b o (T'.other b o (st b o e) (fun q => by
      rcases kts_mem q with z | z
      · rw [z, nL₀] at e
        cases e
      · exact nmem z)))
    (fun b o e hm => by
      obtain ⟨sl', hs'⟩ := T'.up (st b o e)
      exact ⟨sl', F'.keep _ _ hs'⟩)
  have B₃ : Below A₀ base outer (ktsHeap s'.heap (outer.filterMap (·.frame)) h₀) := ⟨B.stack, fun b o e => T₁.other b o (B.stays b o e) (fun hm => by
    rw [(B.frames.mem hm).1] at e
    cases e), B.frames.of_keeps fun b o e _ => by
    obtain ⟨sl', hs'⟩ := T₁.up e
    exact ⟨_, hs', rfl⟩⟩
  refine k _ T₁ ⟨hNs sl _ (F'.keep _ _ hs), S₁, by rw [T₁.size]; exact F.above⟩ (fun p hp => ⟨(N' p hp).1, fun q => ?_, ?_⟩) B₃ (XB.keeps B₃.stays) (TB.keeps B₃.stays) (D.turn T₁)
  · have := (N' p hp).2.2; rw [q, hs] at this; cases this
  · refine T₁.none_ _ ?_
    cases q : h₀.get? p.1 with
    | none => rfl
    | some o =>
      obtain ⟨sl', hs'⟩ := T'.up (st _ _ q)
      have := (N' p hp).2.2
      rw [hs'] at this
      cases this

theorem frameS {E : Value → Shared → Prop} {qual : Str} {body : List Stmt} {scope : Scope} {cdv : Value} {f : Addr} {binds : List (Str × Value)} (B : Below A₀ base outer h₀) (F : Fr h₀ L s.heap m) (N : News h₀ L s.heap news) (X₀ : K.In h₀) (T : Top p loose mean mg mb h₀) (XB : K.In base) (TB : Top p loose mean mg mb base) (D : KtsDicts (outer.filterMap (·.frame)) h₀) (hA : A.frames = some (envOf cn cs L a ccd :: outer)) (hck : cs.kind = .function)
    (hloc : ∀ y ∈ binds, scope.names.lookup y.1 = some .local)
    (h : ∀ g L' h₁, Fr h₀ L g m → Fr g L' h₁ (fun y => binds.reverse.lookup y) → News g L' h₁ news → Below A base (envOf cn cs L a ccd :: outer) g → K.In g → Top p loose mean mg mb g → KtsDicts ((envOf cn cs L a ccd :: outer).filterMap (·.frame)) g →
      wpAny (model prog w) (A.deeper (envOf qual scope L' f cdv)) (execs body (envOf qual scope L' f cdv))
        (fun fl s' => LeaveS ((envOf cn cs L a ccd :: outer).filterMap (·.frame)) A₀ base outer K p loose mean mg mb h₀ h₀ L m g R (match fl with | .ret v => v | _ => .none) s')
        (fun e s' => wpAny (model prog w) (A.deeper (envOf qual scope L' f cdv)) (leaving (envOf qual scope L' f cdv) e) (fun _ s'' => R (.error e) s'') (fun e' s'' => R (.error e') s'') s')
        { s with heap := h₁, toks := s.toks + binds.length })
    (hcell : ∀ x ∈ scope.names, x.2 ≠ .cell) (hk : scope.kind = .function) :
    wpAny (model prog w) A.in1 (newFunctionEnv scope mainGlobals [] binds (qual ++ ".<locals>.") (some f) cdv none builtinsNs) (fun env' s₂ => s₂.heap.NoLimit ∧ codeAny (model prog w) A (.func body env') R s₂) E s := by
  obtain ⟨oL, es, ep, hLg, hLd, hN, hNs, st, B₂⟩ := kts_enter B F N hA hck
  refine wpAny_newFunctionEnv hcell hloc (fun h₁ hns hsb => ⟨(T.nolimit.keeps F.keep).fresh _ hsb, codeAny_func ?_⟩) hk
  have hk₁ : ∀ b o, s.heap.get? b = some o → h₁.get? b = some o := fun b o e => hsb.extBut b o (Nat.ne_of_lt (Heap.lt_size e)) (Heap.get?_push_of_some _ e)
  show wpAny (model prog w) (A.deeper (envOf qual scope s.heap.objs.size f cdv)) (execs body (envOf qual scope s.heap.objs.size f cdv)) _ _ _
  exact wpAny_mono (h _ s.heap.objs.size h₁ ⟨hN _ hLg, st, F.above⟩ ⟨hns, fun b o e => hk₁ b o (of_hideAll _ e), Nat.le_of_eq (hideAll_size _ _)⟩
    (fun p hp => ⟨hk₁ _ _ (N p hp).1, Nat.ne_of_lt (Heap.lt_size (N p hp).1), hideAll_none _ (List.mem_map_of_mem hp)⟩) B₂ (X₀.keeps st) (T.keeps st) (fun b hb => by
      rcases kts_mem hb with rfl | hb
      · exact ⟨oL, es, ep, hLg, hLd⟩
      · obtain ⟨o, es', n', ho', hd'⟩ := D b hb
        exact ⟨o, es', n', st b o ho', hd'⟩)) (fun fl s' hl => leaveS_back B F rfl N XB TB D hA hck hl) fun _ _ y => y

theorem bothS {qual name : Str} {params : Arguments} {body : List Stmt} {scope : Scope} {dV kV doc pm cdv ct oc : Value} {an od : Option Addr} {osl : Array (Option Value)} {f : Addr} {args : Args} {vs : List Value} {nm nr : Str} {ex front : List (Str × Value)} {g₁ : Addr → Sem (List (Str × Value))} {g₂ : Addr → Addr → Sem (List (Str × Value))}
    (B : Below A₀ base outer h₀) (F : Fr h₀ L s.heap m) (X₀ : K.In h₀) (N : News h₀ L s.heap news) (T : Top p loose mean mg mb h₀) (XB : K.In base) (TB : Top p loose mean mg mb base) (D : KtsDicts (outer.filterMap (·.frame)) h₀) (hA : A.frames = some (envOf cn cs L a ccd :: outer)) (hck : cs.kind = .function)
    (ho : K.lookup f = some ⟨oc, od, .func (fnOf name qual params body scope dV kV doc pm an cdv ct), osl⟩) (hcd : codeIn K cdv qual = true) (hroom : A.depth < recursionLimit) (hn : kwDistinct ex = true)
    (hp : peekA K ⟨prog, w.params⟩ (bindArgs (fnOf name qual params body scope dV kV doc pm an cdv ct) args) = some (({ cls := .type "tuple", data := .seq vs.toArray } : Obj), g₁))
    (hp₂ : ∀ D, peekA K ⟨prog, w.params⟩ (g₁ D) = some (dictOf [] 0, g₂ D))
    (hk₂ : ∀ C D, g₂ C D = (forIn ex PUnit.unit (fun x _ => (nsSet D x.1 x.2 >>= fun _ => pure (ForInStep.yield PUnit.unit))) >>= fun _ => pure (front ++ [(nr, Value.ref C)] ++ [(nm, Value.ref D)])))
    (hloc : ∀ C D, ∀ y ∈ front ++ [(nr, Value.ref C)] ++ [(nm, Value.ref D)], scope.names.lookup y.1 = some .local)
    (h : ∀ C D t n g L' h₁ tk, (∀ p ∈ news, p.1 < C) → C < D → (D == sysModules) = false → Fr h₀ L g m → Fr g L' h₁ (fun y => (front ++ [(nr, Value.ref C)] ++ [(nm, Value.ref D)]).reverse.lookup y) →
      News g L' h₁ ((D, dictOf (kwEs w.params t ex) n) :: (C, ({ cls := .type "tuple", data := .seq vs.toArray } : Obj)) :: news) → Below A base (envOf cn cs L a ccd :: outer) g → K.In g → Top p loose mean mg mb g → KtsDicts ((envOf cn cs L a ccd :: outer).filterMap (·.frame)) g →
      wpAny (model prog w) (A.deeper (envOf qual scope L' f cdv)) (execs body (envOf qual scope L' f cdv))
        (fun fl s' => LeaveS ((envOf cn cs L a ccd :: outer).filterMap (·.frame)) A₀ base outer K p loose mean mg mb h₀ h₀ L m g R (match fl with | .ret v => v | _ => .none) s')
        (fun e s' => wpAny (model prog w) (A.deeper (envOf qual scope L' f cdv)) (leaving (envOf qual scope L' f cdv) e) (fun _ s'' => R (.error e) s'') (fun e' s'' => R (.error e') s'') s')
        { s with heap := h₁, toks := tk })
    (hco : scope.isCoroutine = false) (hgen : scope.isGenerator = false) (hk : scope.kind = .function)
    (hcell : ∀ x ∈ scope.names, x.2 ≠ .cell) : codeAny (model prog w) A (.call (.ref f) args) R s := by
  have hn' := kwDistinct_nodup hn
  refine codeAny_call_function (fd := fnOf name qual params body scope dV kV doc pm an cdv ct) (body := body) hroom ((X₀.keeps F.keep) _ _ ho) rfl hco hgen rfl (codeRec_of (X₀.keeps F.keep) hcd) ?_
  refine wp_of_peekA (o := ({ cls := .type "tuple", data := .seq vs.toArray } : Obj)) F N (X₀.keeps F.keep) rfl _ g₁ hp fun h' F' N' l => ?_
  refine wp_of_peekA (s := { s with heap := h' }) (o := dictOf [] 0) F' N' (X₀.keeps F'.keep) rfl _ (g₂ s.heap.objs.size) (hp₂ _) fun h'' F'' N'' l' => ?_
  rw [hk₂]
  refine wpAny_bind (kp_fill ex { s with heap := h'' } [] 0 F'' N'' (fun p hp => Nat.ne_of_lt (l' p hp)) (fun _ he => nomatch he) (fun _ he => nomatch he) hn' fun h₃ F₃ N₃ => wpAny_pure ?_)
  exact frameS (s := { s with heap := h₃, toks := s.toks + ex.length }) B F₃ N₃ X₀ T XB TB D hA hck (hloc _ _)
    (fun g L' h₁ FG FL NG BG XG TG DG => h _ _ _ _ g L' h₁ _ l (l' _ (.head _)) (F'.notModules (modules_low T.nolimit)) FG FL NG BG XG TG DG) hcell hk
end
end Mine
end

section
set_option maxRecDepth 100000
namespace Mine
open PySem PySem.W PySem.Calls PyProof.Rows PySem.Spec
theorem iter_dict : typeLookup (.type "dict") (Str.ofString "__iter__") = pure (some (.builtin "dict.__iter__")) := by rw [typeLookup_type, builtinLookup_eq_fast]; kernel_rfl
theorem dict_sub : isSubtype (.type "dict") (.type "dict") = pure true := by rw [isSubtype_type]; kernel_rfl
section
variable {prog : Program} {w : World} {A : Around} {E : Value → Shared → Prop} {s : Shared} {h₀ : Heap} {L : Addr} {m : Str → Option Value} {news : List (Addr × Obj)}
theorem find_empty {d : Addr} {n : Nat} {k : Str} {t : Tok} {hsh : Int} {Q : Option Nat → Shared → Prop} (hd : s.heap.get? d = some (dictOf [] n)) (h : Q none s) : wpAny (model prog w) A (dictFind d (.str k t) hsh) Q E s := by
  unfold dictFind
  refine wpAny_holding (wpAny_bind (wpAny_dictEntries hd rfl ?_))
  dsimp only
  rw [if_pos (by simp)]
  unfold foundByValue
  have e : Array.findIdx? (fun x : DictEntry => x.key.isStr k) #[] = none := by simp
  rw [e]
  exact wpAny_pure h
theorem merge_one {d a : Addr} {n n' : Nat} {hsh : Int} {k : Str} {t : Tok} {v : Value} {Q : Unit → Shared → Prop} (F : Fr h₀ L s.heap m) (N : News h₀ L s.heap ((d, dictOf [] n) :: news)) (hoff : ∀ p ∈ news, p.1 ≠ d) (ha : (a, dictOf [⟨hsh, .str k t, v⟩] n') ∈ news) (hs : (a == sysModules) = false)
    (h : ∀ h' n'', Fr h₀ L h' m → News h₀ L h' ((d, dictOf [⟨hsh, .str k t, v⟩] n'') :: news) → Q () { s with heap := h' }) : wpAny (model prog w) A (mergeMapping d (.ref a) true) Q E s := by
  have hA := (N _ (List.mem_cons_of_mem _ ha)).1
  have hD := (N _ (List.mem_cons_self ..)).1
  have hT : s.TypeIs (.ref a) "dict" := ⟨_, hA, rfl⟩
  unfold mergeMapping
  refine wpAny_bind (wpAny_isInstance hT dict_sub ?_)
  rw [if_pos rfl]
  refine wpAny_bind (wpAny_specialOf hT iter_dict (wpAny_bind (wpAny_pure ?_)))
  simp only [beq_self_eq_true]
  rw [hs]
  simp only [Bool.false_eq_true, if_false]
  refine wpAny_bind (wpAny_dictEntries hD rfl ?_)
  rw [if_pos (show (#[] : Array DictEntry).isEmpty = true from rfl)]
  refine wpAny_bind (wpAny_dictEntries hA rfl ?_)
  refine wpAny_bind ?_
  rw [List.forIn_toArray]
  rw [List.forIn_cons]
  refine wpAny_bind (wpAny_pure ?_)
  dsimp only
  rw [List.forIn_nil]
  refine wpAny_pure ?_
  refine wpAny_bind (wpAny_dictEntries hA rfl (wpAny_bind (wpAny_dictEpoch hA rfl (wpAny_bind ?_))))
  have hput : ∀ (Q' : Unit → Shared → Prop), (∀ h' n'', Fr h₀ L h' m → News h₀ L h' ((d, dictOf [⟨hsh, .str k t, v⟩] n'') :: news) → Q' () { s with heap := h' }) → wpAny (model prog w) A (dictPut d hsh (.str k t) v) Q' E s := by
    intro Q' hq
    unfold dictPut
    refine wpAny_bind (find_empty hD (wpAny_updateDictKeys hD rfl ?_))
    have U := news_upd (pre := []) (f := Obj.mapDictKeys (·.push ⟨hsh, .str k t, v⟩)) F N (fun _ hp => nomatch hp) hoff (show _ = dictOf [⟨hsh, .str k t, v⟩] (n + 1) from rfl) rfl
    exact hq _ _ U.1 U.2
  rw [show (#[⟨hsh, .str k t, v⟩] : Array DictEntry).size = 1 from rfl, show List.range 1 = [0] from rfl, List.forIn_cons]
  refine wpAny_bind (wpAny_bind (wpAny_dictEntries hA rfl ?_))
  show wpAny (model prog w) A (holding _ _ >>= _) _ _ _
  refine wpAny_bind (wpAny_holding ?_)
  rw [if_pos trivial]
  refine wpAny_bind (find_empty hD ?_)
  simp only [Option.isSome_none, Bool.false_eq_true, if_false]
  refine hput _ fun h' n'' F' N' => ?_
  refine wpAny_bind (wpAny_dictEpoch (N' _ (List.mem_cons_of_mem _ ha)).1 rfl ?_)
  simp only [bne_self_eq_false, Bool.false_eq_true, if_false]
  refine wpAny_pure ?_
  dsimp only
  rw [List.forIn_nil]
  exact wpAny_pure (wpAny_pure (h _ _ F' N'))
theorem merged_one {f : Value} {x : Sem Value} {a : Addr} {n' : Nat} {hsh : Int} {k : Str} {t : Tok} {v : Value} {Q : Addr → Shared → Prop} (F : Fr h₀ L s.heap m) (N : News h₀ L s.heap news) (ha : (a, dictOf [⟨hsh, .str k t, v⟩] n') ∈ news) (hs : (a == sysModules) = false)
    (hx : ∀ (s' : Shared) (Q' : Value → Shared → Prop), Fr h₀ L s'.heap m → Q' (.ref a) s' → wpAny (model prog w) A x Q' E s')
    (h : ∀ d h' n'', Fr h₀ L h' m → News h₀ L h' ((d, dictOf [⟨hsh, .str k t, v⟩] n'') :: news) → Q d { s with heap := h' }) : wpAny (model prog w) A (mergedKeywords f [(none, x)]) Q E s := by
  unfold mergedKeywords
  have F1 := F.push { cls := .type "dict", data := .dict #[] }
  have N1 := N.push F { cls := .type "dict", data := .dict #[] }
  have hoff : ∀ p ∈ news, p.1 ≠ s.heap.objs.size := fun p hp => Nat.ne_of_lt (Heap.lt_size (N p hp).1)
  refine wpAny_bind (wpAny_alloc (wpAny_bind (wpAny_holding ?_)))
  dsimp only
  rw [List.forIn_cons]
  refine wpAny_bind (wpAny_bind ?_)
  dsimp only
  refine wpAny_bind ?_
  rw [if_pos (by rfl)]
  refine wpAny_pure ?_
  refine wpAny_bind (hx _ _ F1 ?_)
  refine wpAny_bind (wpAny_onRaise (wpAny_holding (wpAny_tryCatch (wpAny_onRaise (merge_one (n := 0) F1 N1 hoff ha hs fun h' n'' F' N' => ?_)))))
  refine wpAny_pure ?_
  dsimp only
  rw [List.forIn_nil]
  refine wpAny_pure ?_
  rw [if_pos (by rfl)]
  exact wpAny_pure (wpAny_pure (h _ _ _ F' N'))
end
end Mine
end

section
set_option maxRecDepth 100000
namespace Mine
open PySem PySem.W PySem.Calls PyProof.Rows PySem.Spec
section
variable {prog : Program} {w : World} {A : Around} {E : Value → Shared → Prop} {s : Shared} {h₀ : Heap} {L : Addr} {m : Str → Option Value} {news : List (Addr × Obj)}
theorem args_both {f : Value} {x y : Sem Value} {C a : Addr} {n' : Nat} {hsh : Int} {k : Str} {t : Tok} {v : Value} {Q : Args → Shared → Prop} (F : Fr h₀ L s.heap m) (N : News h₀ L s.heap news) (hC : (C, ({ cls := .type "tuple", data := .seq #[] } : Obj)) ∈ news) (ha : (a, dictOf [⟨hsh, .str k t, v⟩] n') ∈ news) (hs : (a == sysModules) = false)
    (hx : ∀ (s' : Shared) (Q' : Value → Shared → Prop), Fr h₀ L s'.heap m → Q' (.ref C) s' → wpAny (model prog w) A x Q' E s')
    (hy : ∀ (s' : Shared) (Q' : Value → Shared → Prop), Fr h₀ L s'.heap m → Q' (.ref a) s' → wpAny (model prog w) A y Q' E s')
    (h : ∀ h', Fr h₀ L h' m → News h₀ L h' news → Q ⟨[], [(k, v)]⟩ { s with heap := h' }) : wpAny (model prog w) A (evalArgs f true [(true, x)] [(none, y)]) Q E s := by
  unfold evalArgs
  refine wpAny_bind (hx _ _ F (wpAny_bind (wpAny_pure ?_)))
  refine wpAny_holding ?_
  dsimp only
  rw [if_neg (by simp)]
  refine wpAny_bind (merged_one F N ha hs hy fun d h' n'' F' N' => ?_)
  have z : StarOf (model prog w) A E (.ref C) (fun vs s₂ => vs = [] ∧ ∃ h', Fr h₀ L h' m ∧ News h₀ L h' ((d, dictOf [⟨hsh, .str k t, v⟩] n'') :: news) ∧ s₂ = { s with heap := h' }) { s with heap := h' } :=
    star_seq F' N' (List.mem_cons_of_mem _ hC) rfl rfl (.inr rfl) rfl (by simp) fun h'' F'' N'' => ⟨rfl, h'', F'', N'', rfl⟩
  unfold StarOf at z
  refine wpAny_bind (wpAny_bind (wpAny_mono z (fun b s₂ hb => ?_) fun _ _ q => q))
  obtain ⟨rfl, hb⟩ := hb
  simp only [Bool.false_eq_true, if_false]
  refine wpAny_holding (wpAny_mono hb (fun vs s₃ hv => ?_) fun _ _ q => q)
  obtain ⟨rfl, h₃, F₃, N₃, rfl⟩ := hv
  refine wpAny_bind (wpAny_holding ?_)
  unfold keywordsIn
  refine wpAny_bind (wpAny_dictEntries (N₃ _ (List.mem_cons_self ..)).1 rfl ?_)
  dsimp only
  rw [List.forIn_toArray, List.forIn_cons]
  refine wpAny_bind (wpAny_bind (wpAny_pure ?_))
  dsimp only
  rw [List.forIn_nil]
  refine wpAny_pure (wpAny_pure (wpAny_pure ?_))
  exact h _ F₃ (N₃.perm fun p hp => List.mem_cons_of_mem _ hp)
theorem callWith_both {K : Frag} {f : Value} {x y : Sem Value} {pos : Pos} {C a : Addr} {n' : Nat} {hsh : Int} {k : Str} {t : Tok} {v : Value} {Q : Value → Shared → Prop} (F : Fr h₀ L s.heap m) (X : K.In h₀) (hk : keepIn K f = true) (N : News h₀ L s.heap news) (hC : (C, ({ cls := .type "tuple", data := .seq #[] } : Obj)) ∈ news) (ha : (a, dictOf [⟨hsh, .str k t, v⟩] n') ∈ news) (hs : (a == sysModules) = false)
    (hx : ∀ (s' : Shared) (Q' : Value → Shared → Prop), Fr h₀ L s'.heap m → Q' (.ref C) s' → wpAny (model prog w) A x Q' E s')
    (hy : ∀ (s' : Shared) (Q' : Value → Shared → Prop), Fr h₀ L s'.heap m → Q' (.ref a) s' → wpAny (model prog w) A y Q' E s')
    (h : ∀ h', Fr h₀ L h' m → News h₀ L h' news → wpAny (model prog w) A (call f [] [(k, v)]) Q E { s with heap := h' }) :
    wpAny (model prog w) A (callWith pos f [] (backTo pos [(true, x)]) (backToKw pos [(none, y)])) Q E s := by
  unfold callWith
  refine wpAny_bind (wpAny_holding (args_both (x := (do let v ← x; standAt pos; pure v)) (y := (do let v ← y; standAt pos; pure v)) F N hC ha hs
    (fun s' Q' F' q => wpAny_bind (hx s' _ F' (wpAny_bind (wpAny_standAt (wpAny_pure q)))))
    (fun s' Q' F' q => wpAny_bind (hy s' _ F' (wpAny_bind (wpAny_standAt (wpAny_pure q))))) fun h' F' N' => ?_))
  refine wpAny_bind (wpAny_standAt ?_)
  obtain ⟨kp, hk', Lk⟩ := keeps_K (M := model prog w) hk h' (X.keeps F'.keep)
  show wpAny _ _ (keeperOf f >>= _) _ _ _
  refine wpAny_bind (Lk.here ?_)
  have tail : ∀ {t : Sem Value} {s₁ : Shared}, wpAny (model prog w) A t Q E s₁ → wpAny (model prog w) A (t >>= fun r => holding [r] point >>= fun _ => pure r) Q E s₁ :=
    fun ht => wpAny_bind (wpAny_mono ht (fun r s₂ hr => wpAny_bind (wpAny_holding (wpAny_point (wpAny_pure hr)))) fun _ _ x => x)
  have hc := h h' F' N'
  rcases hk' with rfl | rfl | rfl
  · refine tail ?_
    show wpAny _ _ (callMarked _ f ([] ++ []) [(k, v)]) _ _ _
    unfold callMarked
    exact Calls.wpAny_keep hc
  · refine tail ?_
    exact wpAny_operating hc
  · refine tail ?_
    exact wpAny_operating hc
end
end Mine
end

section
open PySem PySem.W PySem.Calls PyProof.Rows
set_option maxRecDepth 100000
namespace Mine
local macro_rules | `(tactic| units_room) => `(tactic| ktr_units)
local macro_rules | `(tactic| k_room) => `(tactic| ktr_room)
local macro_rules | `(tactic| k_all) => `(tactic| first | assumption | exact ne_all (by assumption) | exact ne_lt (by assumption))
local macro_rules | `(tactic| k_lt $h:ident) => `(tactic| skip)
set_option maxHeartbeats 1000000 in
theorem c_call {w : World} {p : Program} {loose : List Str} {mean : ExcName → Option Value} {mg mb : Str → Option Value} {dp un : Nat} {gd : Option (List Code)} {cn : Str} {cs : Scope} {a : Addr} {ccd : Value} {outer : List Env} {A₀ : Around} {base h₀ : Heap} {L : Addr} {m : Str → Option Value} {R : List (Addr × Obj)} {s : Shared} {Q E : Value → Shared → Prop}
    {d x fs fr : Addr} {t1 t2 t3 t4 tn to : Tok} {n o : Int} {er : Value} {b : Array UInt8} :
    Below A₀ base outer h₀ → Fr h₀ L s.heap m → (Mine.hd.heap_39 w.params).In h₀ → News h₀ L s.heap ((d, dictF w t1 t2 t3 t4 fs fr n tn o to) :: R) → (∀ p ∈ R, p.1 ≠ d) → Top p loose mean mg mb h₀ → cs.kind = .function → dp + 220 < recursionLimit → un + 4400 < cLine →
    St b 0 er x d fs fr R → b.size ≤ 1000 → No7 b → Al n 0 → (Mine.hd.heap_39 w.params).In base → Top p loose mean mg mb base → KtsDicts (outer.filterMap (·.frame)) h₀ →
    (∀ g' n' o' h' tk tn' to', KtsTurn (outer.filterMap (·.frame)) h₀ g' → Below A₀ base outer g' → (Mine.hd.heap_39 w.params).In g' → Top p loose mean mg mb g' → KtsDicts (outer.filterMap (·.frame)) g' → Fr g' L h' m → News g' L h' ((d, dictF w t1 t2 t3 t4 fs fr n' tn' o' to') :: R) → Q (.bool (dueB b)) { s with heap := h', toks := tk }) →
    wpAny (model Challenge.rw_kl0460_01.row.prog w) (ktrTop dp un gd cn cs L a ccd [] outer) (call (.ref 146) [.ref 76] [(Str.ofString "filename", .ref x)]) Q E s := by
  w_top off
  k_with_none
  k_fill
  intro B F X N hoff T hk hd hu hS hs h7 hal XB TB D hval
  obtain ⟨ck, cn1, cn2, cn3, cn4⟩ := cs
  have hk' : ck = .function := hk
  subst hk'
  refine wpAny_call ?_
  refine' bothS (vs := []) (ex := [(Str.ofString "filename", .ref x)]) (front := [(Str.ofString "obj", .ref 76)]) (nm := Str.ofString "kwargs") (nr := Str.ofString "args") B F X N T XB TB D rfl rfl ?k6 ?k7 ?k8 ?kN ?kP ?kS ?kT ?kB ?_ ?c2 ?c3 ?c4 ?c5
  case k6 => k_is
  case k7 => k_is
  case k8 => ktr_room
  case kN => exact rfl
  case kP => exact rfl
  case kS => exact fun _ => rfl
  case kT => exact fun _ _ => rfl
  case kB => exact fun _ _ => locs rfl
  case c2 => exact rfl
  case c3 => exact rfl
  case c4 => exact rfl
  case c5 => decide
  intro C' D' t' n' g' L' h' tk' l1 lo' hsm FG' F' N' B' X' T' DD'
  (try dsimp only); (try k_lift B'); (try k_fold)
  k_steps
  refine callWith_both F' X' ?_ N' (List.mem_cons_of_mem _ (List.mem_cons_self ..)) (List.mem_cons_self ..) hsm (fun s2 Q2 F2 q => ?_) (fun s2 Q2 F2 q => ?_) (fun h3 F3 N3 => ?_)
  · k_is
  · refine' nameX_L F2 ?v q ?a ?b
    case v => rfl
    case a => rfl
    case b => rfl
  · refine' nameX_L F2 ?v q ?a ?b
    case v => rfl
    case a => rfl
    case b => rfl
  · have hoff3 : ∀ p ∈ (D', dictOf (kwEs w.params t' [(Str.ofString "filename", .ref x)]) n') :: (C', ({ cls := .type "tuple", data := .seq #[] } : Obj)) :: R, p.1 ≠ d := fun p hp => by
      have hd1 : d < C' := l1 (d, _) (List.mem_cons_self ..)
      rcases List.mem_cons.mp hp with rfl | hp
      · exact Nat.ne_of_gt (Nat.lt_trans hd1 lo')
      · rcases List.mem_cons.mp hp with rfl | hp
        · exact Nat.ne_of_gt hd1
        · exact hoff p hp
    have N4 := News.perm (news' := (d, dictF w t1 t2 t3 t4 fs fr n tn o to) :: (D', dictOf (kwEs w.params t' [(Str.ofString "filename", .ref x)]) n') :: (C', ({ cls := .type "tuple", data := .seq #[] } : Obj)) :: R) N3 fun p hp => by
      rcases List.mem_cons.mp hp with rfl | hp
      · exact List.mem_cons_of_mem _ (List.mem_cons_of_mem _ (List.mem_cons_self ..))
      · rcases List.mem_cons.mp hp with rfl | hp
        · exact List.mem_cons_self ..
        · rcases List.mem_cons.mp hp with rfl | hp
          · exact List.mem_cons_of_mem _ (List.mem_cons_self ..)
          · exact List.mem_cons_of_mem _ (List.mem_cons_of_mem _ (List.mem_cons_of_mem _ hp))
    refine c_iszK (k := 0) (e := 0) (cls := .none) (a0 := .none) B' F3 X' N4 hoff3 T' rfl (by ktr_room) (by ktr_units) (hS.mono fun p hp => List.mem_cons_of_mem _ (List.mem_cons_of_mem _ hp)) (fun z => absurd z (by decide)) hs h7 hal XB TB DD' ?_ (fun _ _ _ _ _ _ _ _ _ _ _ _ _ z1 z2 => absurd z2 (by omega)) (fun _ _ _ _ _ _ _ z1 z2 => absurd z2 (by omega))
    intro g5 n5 o5 h5 tk5 tn5 to5 T5 B5 X5 P5 D5 F5 al5 N5
    k_steps
    exact hval _ _ _ _ _ _ _ (by with_reducible assumption) (by with_reducible assumption) (by with_reducible assumption) (by with_reducible assumption) (by with_reducible assumption) (by k_asm) (News.perm (by k_asm) fun p hp => by
      rcases List.mem_cons.mp hp with rfl | hp
      · exact List.mem_cons_self ..
      · exact List.mem_cons_of_mem _ (List.mem_cons_of_mem _ (List.mem_cons_of_mem _ hp)))
end Mine
end

section
open PySem PySem.W PySem.Calls PyProof.Rows
set_option maxRecDepth 100000
namespace Mine
def qDeed : Str := Str.ofString "_law_file.<locals>._law_deed"
def qSeek : Str := Str.ofString "_law_file.<locals>._law_seek"
def qRead : Str := Str.ofString "_law_file.<locals>._law_read"
inductive TabFull (l : List (Addr × Obj)) : Prop
  | mk (c1 c2 c3 : Addr) (o1 o2 o3 : Obj) (v1 v2 v3 : Array Value) (k1 k2 k3 : Tok) (h0 : (162, tabObj #[rawInt 161, rawInt 4, .ref c1, rawInt 166, rawInt 4, .ref c2, rawInt 174, rawInt 4, .ref c3]) ∈ l)
    (h1 : (c1, o1) ∈ l) (d1 : o1.data = .fields v1) (e1 : v1[1]? = some (.str qDeed k1)) (h2 : (c2, o2) ∈ l) (d2 : o2.data = .fields v2) (e2 : v2[1]? = some (.str qSeek k2)) (h3 : (c3, o3) ∈ l) (d3 : o3.data = .fields v3) (e3 : v3[1]? = some (.str qRead k3))
theorem TabFull.mono {l l' : List (Addr × Obj)} (h : ∀ p ∈ l, p ∈ l') : TabFull l → TabFull l'
  | .mk c1 c2 c3 o1 o2 o3 v1 v2 v3 k1 k2 k3 h0 h1 d1 e1 h2 d2 e2 h3 d3 e3 => .mk c1 c2 c3 o1 o2 o3 v1 v2 v3 k1 k2 k3 (h _ h0) (h _ h1) d1 e1 (h _ h2) d2 e2 (h _ h3) d3 e3
theorem not_d {g h : Heap} {L d : Addr} {l : List (Addr × Obj)} {es : List DictEntry} {n : Nat} {p : Addr × Obj} (N : News g L h l) (hd : (d, dictOf es n) ∈ l) (hp : p ∈ l) (hn : ∀ es n, p.2.data ≠ .dict es n) : p ∈ drop d l :=
  mem_drop.mpr ⟨hp, N.twoPlaces hp hd fun z => hn es.toArray n (by rw [z])⟩
theorem to_drop {g h : Heap} {L d : Addr} {o : Obj} {l : List (Addr × Obj)} (N : News g L h l) (hd : (d, o) ∈ l) : News g L h ((d, o) :: drop d l) := N.perm fun p hp => by
  rcases List.mem_cons.mp hp with rfl | hp
  · exact hd
  · exact drop_sub p hp
local macro_rules | `(tactic| units_room) => `(tactic| ktr_units)
local macro_rules | `(tactic| kn_code) => `(tactic| exact codeHd_of_K (K := Mine.hd.heap_39 _) (c := 166) (P := 162) (by assumption) (by kernel_rfl))
local macro_rules | `(tactic| k_room) => `(tactic| ktr_room)
local macro_rules | `(tactic| k_all) => `(tactic| first | assumption | exact ne_all (by assumption) | exact ne_lt (by assumption) | exact ne_all1 (by assumption) | exact ne_all2 (by assumption) | exact ne_all3 (by assumption) | exact ne_all4 (by assumption) | exact ne_all5 (by assumption))
local macro_rules | `(tactic| k_lt $h:ident) => `(tactic| (replace $h := allLt_of $h; simp only [AllLt, and_true] at $h:ident; (repeat (have hlt9 := And.left $h; replace $h := And.right $h))))
set_option maxHeartbeats 2000000 in
theorem c_file0 {w : World} {b : Array UInt8} {tb : Tok} {te : Int} {tt : Tok} {er : Value} 
   {p : Program} {loose : List Str} {mean : ExcName → Option Value} {mg mb : Str → Option Value} {dp un : Nat} {gd : Option (List Code)} {cn : Str} {cs : Scope} {a : Addr} {ccd : Value} {cl : List (Str × Addr)} {outer : List Env} {A₀ : Around} {base h₀ : Heap} {L : Addr} {m : Str → Option Value} {news : List (Addr × Obj)} {s : Shared} {Q E : Value → Shared → Prop} :
    Below A₀ base outer h₀ → Fr h₀ L s.heap m → (Mine.hd.heap_39 w.params).In h₀ → News h₀ L s.heap ((162, tabObj #[]) :: news) → (∀ p ∈ news, p.1 ≠ 162) → Top p loose mean mg mb h₀ → cs.kind = .function → dp + 20 < recursionLimit → un + 400 < cLine →
    (∀ d x fs fr R' h' tk t1 t2 t3 t4 tn to, Fr h₀ L h' m → News h₀ L h' ((d, dictF w t1 t2 t3 t4 fs fr 0 tn 0 to) :: R') → (∀ p ∈ R', p.1 ≠ d) → St b te er x d fs fr R' → TabFull R' → (∀ p ∈ news, p ∈ R') → Q (.ref x) { s with heap := h', toks := tk }) →
    wpAny (model Challenge.rw_kl0460_01.row.prog w) (ktrTop dp un gd cn cs L a ccd cl outer) (call (.ref 167) [.bytes b tb, .int te tt, er]) Q E s := by
  w_top off
  k_with_none
  k_fill
  intro B F X N n162 T hk hd hu hret
  obtain ⟨ck, cn1, cn2, cn3, cn4⟩ := cs
  have hk' : ck = .function := hk
  subst hk'
  have codeHd : CodeHd h₀ 166 162 := codeHd_of_K X (by kernel_rfl)
  refine wpAny_call ?_
  k_dflt k_enter
  k_steps
  refine' hret ?d ?x ?fs ?fr ?R ?h ?tk ?t1 ?t2 ?t3 ?t4 ?tn ?to ?hF (to_drop ?hN ?hm) drop_ne ?hS ?hT ?hn
  case hF => k_asm
  case hN => k_asm
  case hm => (repeat' (first | with_reducible exact List.mem_cons_self .. | apply List.mem_cons_of_mem))
  case hS =>
    refine' St.mk _ _ _ _ _ _ _ _ _ _ _ _ _ _ _ _ _ _ _ _ _ _ _ _ _ _ _ _ _ _ _ _ _ _ _ _ _ _ _ _ _ ?hx ?hfd ?hkd ?hod ?hv1 ?hfs ?hks ?hos ?hv2 ?hts ?hfr ?hkr ?hor ?hv3 ?htr ?hcO ?hoO ?hcT ?hoT ?hcF ?hoF ?hcE ?hoE ?hcD ?hoD
    case hx => refine not_d (by k_asm) (by (repeat' (first | with_reducible exact List.mem_cons_self .. | apply List.mem_cons_of_mem))) (by (repeat' (first | with_reducible exact List.mem_cons_self .. | apply List.mem_cons_of_mem))) (by intro es n z; first | cases z | exact nomatch (z.symm.trans (by with_reducible assumption) : Data.dict _ _ = Data.fields _) | exact nomatch (z.symm.trans (by with_reducible assumption) : Data.dict _ _ = Data.cell _))
    case hfs => refine not_d (by k_asm) (by (repeat' (first | with_reducible exact List.mem_cons_self .. | apply List.mem_cons_of_mem))) (by (repeat' (first | exact List.mem_cons_self .. | apply List.mem_cons_of_mem))) (by intro es n z; first | cases z | exact nomatch (z.symm.trans (by with_reducible assumption) : Data.dict _ _ = Data.fields _) | exact nomatch (z.symm.trans (by with_reducible assumption) : Data.dict _ _ = Data.cell _))
    case hfr => refine not_d (by k_asm) (by (repeat' (first | with_reducible exact List.mem_cons_self .. | apply List.mem_cons_of_mem))) (by (repeat' (first | exact List.mem_cons_self .. | apply List.mem_cons_of_mem))) (by intro es n z; first | cases z | exact nomatch (z.symm.trans (by with_reducible assumption) : Data.dict _ _ = Data.fields _) | exact nomatch (z.symm.trans (by with_reducible assumption) : Data.dict _ _ = Data.cell _))
    case hcD => refine not_d (by k_asm) (by (repeat' (first | with_reducible exact List.mem_cons_self .. | apply List.mem_cons_of_mem))) (by (repeat' (first | with_reducible exact List.mem_cons_self .. | apply List.mem_cons_of_mem))) (by intro es n z; first | cases z | exact nomatch (z.symm.trans (by with_reducible assumption) : Data.dict _ _ = Data.fields _) | exact nomatch (z.symm.trans (by with_reducible assumption) : Data.dict _ _ = Data.cell _))
    case hoD => with_reducible assumption
    case hfd => refine not_d (by k_asm) (by (repeat' (first | with_reducible exact List.mem_cons_self .. | apply List.mem_cons_of_mem))) (by (repeat' (first | exact List.mem_cons_self .. | apply List.mem_cons_of_mem))) (by intro es n z; first | cases z | exact nomatch (z.symm.trans (by with_reducible assumption) : Data.dict _ _ = Data.fields _) | exact nomatch (z.symm.trans (by with_reducible assumption) : Data.dict _ _ = Data.cell _))
    case hkd => refine not_d (by k_asm) (by (repeat' (first | with_reducible exact List.mem_cons_self .. | apply List.mem_cons_of_mem))) (by (repeat' (first | with_reducible exact List.mem_cons_self .. | apply List.mem_cons_of_mem))) (by intro es n z; first | cases z | exact nomatch (z.symm.trans (by with_reducible assumption) : Data.dict _ _ = Data.fields _) | exact nomatch (z.symm.trans (by with_reducible assumption) : Data.dict _ _ = Data.cell _))
    case hod => with_reducible assumption
    case hv1 => with_reducible assumption
    case hks => refine not_d (by k_asm) (by (repeat' (first | with_reducible exact List.mem_cons_self .. | apply List.mem_cons_of_mem))) (by (repeat' (first | with_reducible exact List.mem_cons_self .. | apply List.mem_cons_of_mem))) (by intro es n z; first | cases z | exact nomatch (z.symm.trans (by with_reducible assumption) : Data.dict _ _ = Data.fields _) | exact nomatch (z.symm.trans (by with_reducible assumption) : Data.dict _ _ = Data.cell _))
    case hos => with_reducible assumption
    case hv2 => with_reducible assumption
    case hts => refine not_d (by k_asm) (by (repeat' (first | with_reducible exact List.mem_cons_self .. | apply List.mem_cons_of_mem))) (by (repeat' (first | with_reducible exact List.mem_cons_self .. | apply List.mem_cons_of_mem))) (by intro es n z; first | cases z | exact nomatch (z.symm.trans (by with_reducible assumption) : Data.dict _ _ = Data.fields _) | exact nomatch (z.symm.trans (by with_reducible assumption) : Data.dict _ _ = Data.cell _))
    case hkr => refine not_d (by k_asm) (by (repeat' (first | with_reducible exact List.mem_cons_self .. | apply List.mem_cons_of_mem))) (by (repeat' (first | with_reducible exact List.mem_cons_self .. | apply List.mem_cons_of_mem))) (by intro es n z; first | cases z | exact nomatch (z.symm.trans (by with_reducible assumption) : Data.dict _ _ = Data.fields _) | exact nomatch (z.symm.trans (by with_reducible assumption) : Data.dict _ _ = Data.cell _))
    case hor => with_reducible assumption
    case hv3 => with_reducible assumption
    case htr => refine not_d (by k_asm) (by (repeat' (first | with_reducible exact List.mem_cons_self .. | apply List.mem_cons_of_mem))) (by (repeat' (first | with_reducible exact List.mem_cons_self .. | apply List.mem_cons_of_mem))) (by intro es n z; first | cases z | exact nomatch (z.symm.trans (by with_reducible assumption) : Data.dict _ _ = Data.fields _) | exact nomatch (z.symm.trans (by with_reducible assumption) : Data.dict _ _ = Data.cell _))
    case hcO => refine not_d (by k_asm) (by (repeat' (first | with_reducible exact List.mem_cons_self .. | apply List.mem_cons_of_mem))) (by (repeat' (first | with_reducible exact List.mem_cons_self .. | apply List.mem_cons_of_mem))) (by intro es n z; first | cases z | exact nomatch (z.symm.trans (by with_reducible assumption) : Data.dict _ _ = Data.fields _) | exact nomatch (z.symm.trans (by with_reducible assumption) : Data.dict _ _ = Data.cell _))
    case hoO => assumption
    case hcT => refine not_d (by k_asm) (by (repeat' (first | with_reducible exact List.mem_cons_self .. | apply List.mem_cons_of_mem))) (by (repeat' (first | with_reducible exact List.mem_cons_self .. | apply List.mem_cons_of_mem))) (by intro es n z; first | cases z | exact nomatch (z.symm.trans (by with_reducible assumption) : Data.dict _ _ = Data.fields _) | exact nomatch (z.symm.trans (by with_reducible assumption) : Data.dict _ _ = Data.cell _))
    case hoT => assumption
    case hcF => refine not_d (by k_asm) (by (repeat' (first | with_reducible exact List.mem_cons_self .. | apply List.mem_cons_of_mem))) (by (repeat' (first | with_reducible exact List.mem_cons_self .. | apply List.mem_cons_of_mem))) (by intro es n z; first | cases z | exact nomatch (z.symm.trans (by with_reducible assumption) : Data.dict _ _ = Data.fields _) | exact nomatch (z.symm.trans (by with_reducible assumption) : Data.dict _ _ = Data.cell _))
    case hoF => with_reducible assumption
    case hcE => refine not_d (by k_asm) (by (repeat' (first | with_reducible exact List.mem_cons_self .. | apply List.mem_cons_of_mem))) (by (repeat' (first | with_reducible exact List.mem_cons_self .. | apply List.mem_cons_of_mem))) (by intro es n z; first | cases z | exact nomatch (z.symm.trans (by with_reducible assumption) : Data.dict _ _ = Data.fields _) | exact nomatch (z.symm.trans (by with_reducible assumption) : Data.dict _ _ = Data.cell _))
    case hoE => assumption
  case hT =>
    refine' TabFull.mk _ _ _ _ _ _ _ _ _ _ _ _ ?g0 ?g1 ?g2 ?g3 ?g4 ?g5 ?g6 ?g7 ?g8 ?g9
    case g0 => refine not_d (by k_asm) (by (repeat' (first | with_reducible exact List.mem_cons_self .. | apply List.mem_cons_of_mem))) (by (repeat' (first | exact List.mem_cons_self .. | apply List.mem_cons_of_mem))) (by intro es n z; first | cases z | exact nomatch (z.symm.trans (by with_reducible assumption) : Data.dict _ _ = Data.fields _) | exact nomatch (z.symm.trans (by with_reducible assumption) : Data.dict _ _ = Data.cell _))
    case g1 => refine not_d (by k_asm) (by (repeat' (first | with_reducible exact List.mem_cons_self .. | apply List.mem_cons_of_mem))) (by (repeat' (first | with_reducible exact List.mem_cons_self .. | apply List.mem_cons_of_mem))) (by intro es n z; first | cases z | exact nomatch (z.symm.trans (by with_reducible assumption) : Data.dict _ _ = Data.fields _) | exact nomatch (z.symm.trans (by with_reducible assumption) : Data.dict _ _ = Data.cell _))
    case g2 => with_reducible assumption
    case g3 => assumption
    case g4 => refine not_d (by k_asm) (by (repeat' (first | with_reducible exact List.mem_cons_self .. | apply List.mem_cons_of_mem))) (by (repeat' (first | with_reducible exact List.mem_cons_self .. | apply List.mem_cons_of_mem))) (by intro es n z; first | cases z | exact nomatch (z.symm.trans (by with_reducible assumption) : Data.dict _ _ = Data.fields _) | exact nomatch (z.symm.trans (by with_reducible assumption) : Data.dict _ _ = Data.cell _))
    case g5 => with_reducible assumption
    case g6 => assumption
    case g7 => refine not_d (by k_asm) (by (repeat' (first | with_reducible exact List.mem_cons_self .. | apply List.mem_cons_of_mem))) (by (repeat' (first | with_reducible exact List.mem_cons_self .. | apply List.mem_cons_of_mem))) (by intro es n z; first | cases z | exact nomatch (z.symm.trans (by with_reducible assumption) : Data.dict _ _ = Data.fields _) | exact nomatch (z.symm.trans (by with_reducible assumption) : Data.dict _ _ = Data.cell _))
    case g8 => with_reducible assumption
    case g9 => assumption
  case hn =>
    intro q hq
    refine mem_drop.mpr ⟨by repeat' (first | exact hq | apply List.mem_cons_of_mem), ?_⟩
    exact ne_all (by with_reducible assumption) q hq
end Mine
end

section
open PySem PySem.W PySem.Calls PyProof.Rows
set_option maxRecDepth 100000
namespace Mine
local macro_rules | `(tactic| units_room) => `(tactic| ktr_units)
local macro_rules | `(tactic| kn_code) => `(tactic| exact codeHd_of_K (K := Mine.hd.heap_39 _) (c := 166) (P := 162) (by assumption) (by kernel_rfl))
local macro_rules | `(tactic| k_room) => `(tactic| ktr_room)
local macro_rules | `(tactic| k_all) => `(tactic| first | assumption | exact ne_all (by assumption) | exact ne_lt (by assumption) | exact ne_all1 (by assumption) | exact ne_all2 (by assumption) | exact ne_all3 (by assumption) | exact ne_all4 (by assumption) | exact ne_all5 (by assumption))
local macro_rules | `(tactic| k_lt $h:ident) => `(tactic| (replace $h := allLt_of $h; (try simp only [AllLt, and_true] at $h:ident); (repeat (have hlt9 := And.left $h; replace $h := And.right $h))))
set_option maxHeartbeats 2000000 in
theorem c_file1 {w : World} {b : Array UInt8} {tb : Tok} {te : Int} {tt : Tok} {er : Value} 
   {p : Program} {loose : List Str} {mean : ExcName → Option Value} {mg mb : Str → Option Value} {dp un : Nat} {gd : Option (List Code)} {cn : Str} {cs : Scope} {a : Addr} {ccd : Value} {cl : List (Str × Addr)} {outer : List Env} {A₀ : Around} {base h₀ : Heap} {L : Addr} {m : Str → Option Value} {news : List (Addr × Obj)} {s : Shared} {Q E : Value → Shared → Prop} :
    Below A₀ base outer h₀ → Fr h₀ L s.heap m → (Mine.hd.heap_39 w.params).In h₀ → News h₀ L s.heap news → TabFull news → Top p loose mean mg mb h₀ → cs.kind = .function → dp + 20 < recursionLimit → un + 400 < cLine →
    (∀ d x fs fr R' h' tk t1 t2 t3 t4 tn to, Fr h₀ L h' m → News h₀ L h' ((d, dictF w t1 t2 t3 t4 fs fr 0 tn 0 to) :: R') → (∀ p ∈ R', p.1 ≠ d) → St b te er x d fs fr R' → TabFull R' → (∀ p ∈ news, p ∈ R') → Q (.ref x) { s with heap := h', toks := tk }) →
    wpAny (model Challenge.rw_kl0460_01.row.prog w) (ktrTop dp un gd cn cs L a ccd cl outer) (call (.ref 167) [.bytes b tb, .int te tt, er]) Q E s := by
  w_top off
  k_with_none
  k_with "makeTail" =>
    ((k_here; k_dflt (refine' kdv_hit ?z9aF ?z9aN ?z9aT ?z9aC ?z9acd ?z9amem ?z9at ?z9an ?z9acl ?_; (case z9aF => k_asm); (case z9aN => k_asm); (case z9aT => k_asm); (case z9acd => exact rfl); (case z9aC => kn_code); (case z9amem => (repeat' (first | with_reducible assumption | with_reducible exact List.mem_cons_self .. | apply List.mem_cons_of_mem))); (case z9at => kn_triples); (case z9an => kn_among); (case z9acl => exact rfl)); intro f' ct' dc' h' tk' F' N' l1; (try dsimp only at N'); (try k_lt l1)))
  k_with "exec FunctionDef" =>
    ((k_here; k_dflt (refine' nestDef_K ?z9bd0 ?z9bk0 ?z9ba0 ?_; (case z9bd0 => exact rfl); (case z9bk0 => exact rfl); (case z9ba0 => exact rfl)); (k_dflt (refine' nestHit_K ?z9bF ?z9bN ?z9bT ?z9bC ?z9bcd ?z9bmem ?z9bt ?z9bn ?z9bcl ?_; (case z9bF => k_asm); (case z9bN => k_asm); (case z9bT => k_asm); (case z9bcd => exact rfl); (case z9bC => kn_code); (case z9bmem => (repeat' (first | with_reducible assumption | with_reducible exact List.mem_cons_self .. | apply List.mem_cons_of_mem))); (case z9bt => kn_triples); (case z9bn => kn_hit); (case z9bcl => exact rfl)); intro f' ct' dc' h' tk' F' N' l1; (try dsimp only at N'); (try k_lt l1))))
  k_fill
  intro B F X N hTF T hk hd hu hret
  have hTF0 := hTF
  obtain ⟨c1, c2, c3, o1, o2, o3, v1, v2, v3, k1, k2, k3, g0, g1, g2, g3, g4, g5, g6, g7, g8, g9⟩ := hTF0
  obtain ⟨ck, cn1, cn2, cn3, cn4⟩ := cs
  have hk' : ck = .function := hk
  subst hk'
  have codeHd : CodeHd h₀ 166 162 := codeHd_of_K X (by kernel_rfl)
  refine wpAny_call ?_
  k_dflt k_enter
  k_steps
  refine' hret ?d ?x ?fs ?fr ?R ?h ?tk ?t1 ?t2 ?t3 ?t4 ?tn ?to ?hF (to_drop ?hN ?hm) drop_ne ?hS ?hT ?hn
  case hF => k_asm
  case hN => k_asm
  case hm => (repeat' (first | with_reducible exact List.mem_cons_self .. | apply List.mem_cons_of_mem))
  case hS =>
    refine' St.mk _ _ _ _ _ _ _ _ _ _ _ _ _ _ _ _ _ _ _ _ _ _ _ _ _ _ _ _ _ _ _ _ _ _ _ _ _ _ _ _ _ ?hx ?hfd ?hkd ?hod ?hv1 ?hfs ?hks ?hos ?hv2 ?hts ?hfr ?hkr ?hor ?hv3 ?htr ?hcO ?hoO ?hcT ?hoT ?hcF ?hoF ?hcE ?hoE ?hcD ?hoD
    case hx => refine not_d (by k_asm) (by (repeat' (first | with_reducible exact List.mem_cons_self .. | apply List.mem_cons_of_mem))) (by (repeat' (first | with_reducible exact List.mem_cons_self .. | with_reducible assumption | apply List.mem_cons_of_mem))) (by intro es n z; first | cases z | exact nomatch (z.symm.trans (by with_reducible assumption) : Data.dict _ _ = Data.fields _) | exact nomatch (z.symm.trans (by with_reducible assumption) : Data.dict _ _ = Data.cell _))
    case hfs => refine not_d (by k_asm) (by (repeat' (first | with_reducible exact List.mem_cons_self .. | apply List.mem_cons_of_mem))) (by (repeat' (first | exact List.mem_cons_self .. | apply List.mem_cons_of_mem))) (by intro es n z; first | cases z | exact nomatch (z.symm.trans (by with_reducible assumption) : Data.dict _ _ = Data.fields _) | exact nomatch (z.symm.trans (by with_reducible assumption) : Data.dict _ _ = Data.cell _))
    case hfr => refine not_d (by k_asm) (by (repeat' (first | with_reducible exact List.mem_cons_self .. | apply List.mem_cons_of_mem))) (by (repeat' (first | exact List.mem_cons_self .. | apply List.mem_cons_of_mem))) (by intro es n z; first | cases z | exact nomatch (z.symm.trans (by with_reducible assumption) : Data.dict _ _ = Data.fields _) | exact nomatch (z.symm.trans (by with_reducible assumption) : Data.dict _ _ = Data.cell _))
    case hcD => refine not_d (by k_asm) (by (repeat' (first | with_reducible exact List.mem_cons_self .. | apply List.mem_cons_of_mem))) (by (repeat' (first | with_reducible exact List.mem_cons_self .. | with_reducible assumption | apply List.mem_cons_of_mem))) (by intro es n z; first | cases z | exact nomatch (z.symm.trans (by with_reducible assumption) : Data.dict _ _ = Data.fields _) | exact nomatch (z.symm.trans (by with_reducible assumption) : Data.dict _ _ = Data.cell _))
    case hoD => with_reducible assumption
    case hfd => refine not_d (by k_asm) (by (repeat' (first | with_reducible exact List.mem_cons_self .. | apply List.mem_cons_of_mem))) (by (repeat' (first | exact List.mem_cons_self .. | apply List.mem_cons_of_mem))) (by intro es n z; first | cases z | exact nomatch (z.symm.trans (by with_reducible assumption) : Data.dict _ _ = Data.fields _) | exact nomatch (z.symm.trans (by with_reducible assumption) : Data.dict _ _ = Data.cell _))
    case hkd => refine not_d (by k_asm) (by (repeat' (first | with_reducible exact List.mem_cons_self .. | apply List.mem_cons_of_mem))) (by (repeat' (first | with_reducible exact List.mem_cons_self .. | with_reducible assumption | apply List.mem_cons_of_mem))) (by intro es n z; first | cases z | exact nomatch (z.symm.trans (by with_reducible assumption) : Data.dict _ _ = Data.fields _) | exact nomatch (z.symm.trans (by with_reducible assumption) : Data.dict _ _ = Data.cell _))
    case hod => with_reducible assumption
    case hv1 => assumption
    case hks => refine not_d (by k_asm) (by (repeat' (first | with_reducible exact List.mem_cons_self .. | apply List.mem_cons_of_mem))) (by (repeat' (first | with_reducible exact List.mem_cons_self .. | with_reducible assumption | apply List.mem_cons_of_mem))) (by intro es n z; first | cases z | exact nomatch (z.symm.trans (by with_reducible assumption) : Data.dict _ _ = Data.fields _) | exact nomatch (z.symm.trans (by with_reducible assumption) : Data.dict _ _ = Data.cell _))
    case hos => with_reducible assumption
    case hv2 => assumption
    case hts => refine not_d (by k_asm) (by (repeat' (first | with_reducible exact List.mem_cons_self .. | apply List.mem_cons_of_mem))) (by (repeat' (first | with_reducible exact List.mem_cons_self .. | with_reducible assumption | apply List.mem_cons_of_mem))) (by intro es n z; first | cases z | exact nomatch (z.symm.trans (by with_reducible assumption) : Data.dict _ _ = Data.fields _) | exact nomatch (z.symm.trans (by with_reducible assumption) : Data.dict _ _ = Data.cell _))
    case hkr => refine not_d (by k_asm) (by (repeat' (first | with_reducible exact List.mem_cons_self .. | apply List.mem_cons_of_mem))) (by (repeat' (first | with_reducible exact List.mem_cons_self .. | with_reducible assumption | apply List.mem_cons_of_mem))) (by intro es n z; first | cases z | exact nomatch (z.symm.trans (by with_reducible assumption) : Data.dict _ _ = Data.fields _) | exact nomatch (z.symm.trans (by with_reducible assumption) : Data.dict _ _ = Data.cell _))
    case hor => with_reducible assumption
    case hv3 => assumption
    case htr => refine not_d (by k_asm) (by (repeat' (first | with_reducible exact List.mem_cons_self .. | apply List.mem_cons_of_mem))) (by (repeat' (first | with_reducible exact List.mem_cons_self .. | with_reducible assumption | apply List.mem_cons_of_mem))) (by intro es n z; first | cases z | exact nomatch (z.symm.trans (by with_reducible assumption) : Data.dict _ _ = Data.fields _) | exact nomatch (z.symm.trans (by with_reducible assumption) : Data.dict _ _ = Data.cell _))
    case hcO => refine not_d (by k_asm) (by (repeat' (first | with_reducible exact List.mem_cons_self .. | apply List.mem_cons_of_mem))) (by (repeat' (first | with_reducible exact List.mem_cons_self .. | with_reducible assumption | apply List.mem_cons_of_mem))) (by intro es n z; first | cases z | exact nomatch (z.symm.trans (by with_reducible assumption) : Data.dict _ _ = Data.fields _) | exact nomatch (z.symm.trans (by with_reducible assumption) : Data.dict _ _ = Data.cell _))
    case hoO => assumption
    case hcT => refine not_d (by k_asm) (by (repeat' (first | with_reducible exact List.mem_cons_self .. | apply List.mem_cons_of_mem))) (by (repeat' (first | with_reducible exact List.mem_cons_self .. | with_reducible assumption | apply List.mem_cons_of_mem))) (by intro es n z; first | cases z | exact nomatch (z.symm.trans (by with_reducible assumption) : Data.dict _ _ = Data.fields _) | exact nomatch (z.symm.trans (by with_reducible assumption) : Data.dict _ _ = Data.cell _))
    case hoT => assumption
    case hcF => refine not_d (by k_asm) (by (repeat' (first | with_reducible exact List.mem_cons_self .. | apply List.mem_cons_of_mem))) (by (repeat' (first | with_reducible exact List.mem_cons_self .. | with_reducible assumption | apply List.mem_cons_of_mem))) (by intro es n z; first | cases z | exact nomatch (z.symm.trans (by with_reducible assumption) : Data.dict _ _ = Data.fields _) | exact nomatch (z.symm.trans (by with_reducible assumption) : Data.dict _ _ = Data.cell _))
    case hoF => with_reducible assumption
    case hcE => refine not_d (by k_asm) (by (repeat' (first | with_reducible exact List.mem_cons_self .. | apply List.mem_cons_of_mem))) (by (repeat' (first | with_reducible exact List.mem_cons_self .. | with_reducible assumption | apply List.mem_cons_of_mem))) (by intro es n z; first | cases z | exact nomatch (z.symm.trans (by with_reducible assumption) : Data.dict _ _ = Data.fields _) | exact nomatch (z.symm.trans (by with_reducible assumption) : Data.dict _ _ = Data.cell _))
    case hoE => assumption
  case hT => exact hTF.mono fun q hq => mem_drop.mpr ⟨by repeat' (first | exact hq | apply List.mem_cons_of_mem), ne_all (by with_reducible assumption) q hq⟩
  case hn =>
    intro q hq
    refine mem_drop.mpr ⟨by repeat' (first | exact hq | apply List.mem_cons_of_mem), ?_⟩
    exact ne_all (by with_reducible assumption) q hq
end Mine
end

section
set_option maxRecDepth 100000
namespace Mine
open PySem PySem.W PySem.Calls PyProof.Rows PySem.Spec
section
variable {prog : Program} {w : World} {A : Around} {E : Value → Shared → Prop} {s : Shared} {h₀ : Heap} {L : Addr} {m : Str → Option Value} {l : List (Addr × Obj)} {p : Program} {loose : List Str} {mean : ExcName → Option Value} {mg mb : Str → Option Value}
def excObj (cls : Value) (t : Addr) : Obj := { cls := cls, data := .fields #[.ref t, .none, .none, .none, .bool false, .none] }
theorem made_L {cls v : Value} {h' : Heap} {e : Addr} (F : Fr h₀ L s.heap m) (N : News h₀ L s.heap l) (hx : Heap.MadeExcOf s.heap h' e cls [v]) :
    ∃ t, Fr h₀ L h' m ∧ News h₀ L h' ((e, excObj cls t) :: (t, kdv_tup [v]) :: l) ∧ (∀ p ∈ l, p.1 ≠ e) ∧ (∀ p ∈ l, p.1 ≠ t) ∧ e ≠ t := by
  obtain ⟨hk, hn, t, he, ht, htt⟩ := hx
  have hL : ∀ {b}, s.heap.get? b = none → b ≠ L := fun hb z => by
    obtain ⟨o, _, _, ho, _⟩ := F.ns
    rw [z, ho] at hb
    cases hb
  have h0 : ∀ {b}, s.heap.get? b = none → h₀.get? b = none := fun hb => kts_none F.keep hb
  refine ⟨t, F.keeps hk, fun q hq => ?_, fun q hq z => ?_, fun q hq z => ?_, fun z => ?_⟩
  · rcases List.mem_cons.mp hq with rfl | hq
    · exact ⟨he, hL hn, h0 hn⟩
    · rcases List.mem_cons.mp hq with rfl | hq
      · exact ⟨htt, hL ht, h0 ht⟩
      · exact ⟨hk _ _ (N q hq).1, (N q hq).2⟩
  · have := (N q hq).1; rw [z, hn] at this; cases this
  · have := (N q hq).1; rw [z, ht] at this; cases this
  · rw [z, htt] at he; cases he
theorem bad_exc (P : Params) : ∃ bm ni, PySem.ExcBaseFacts "Exception" "Exception.__new__" ni bm ∧ excIn (Mine.hd.heap_39 P) 59 bm "Exception.__new__" = true := ⟨_, _, PySem.F.excBase_Exception, by kernel_rfl⟩
theorem bad_L {v : Value} {Q : Value → Shared → Prop} (F : Fr h₀ L s.heap m) (X : (Mine.hd.heap_39 w.params).In h₀) (T : Top p loose mean mg mb h₀) (N : News h₀ L s.heap l)
    (h : ∀ h' e t, Fr h₀ L h' m → News h₀ L h' ((e, excObj (.ref 59) t) :: (t, kdv_tup [v]) :: l) → (∀ p ∈ l, p.1 ≠ e) → (∀ p ∈ l, p.1 ≠ t) → e ≠ t → Q (.ref e) { s with heap := h' }) : wpAny (model prog w) A (call (.ref 59) [v]) Q E s := by
  obtain ⟨bm, ni, FB, he⟩ := bad_exc w.params
  have O := own_of_in X (topRead_of T) (ns_bad _) he
  obtain ⟨tl, N', nm, q, bs, hdct, sn, sub, ab, col, dd, k0, k1, k2, k3, k5, mN, hC, hN, hni, OT⟩ := (O.keeps F.keep).obj
  obtain ⟨hh, g, d, t, os⟩ := s
  refine wpAny_call_exc_subT FB OT hC hN hni fun h' e hx => ?_
  obtain ⟨t', F', N', d1, d2, d3⟩ := made_L (s := ⟨hh, g, d, t, os⟩) F N hx
  exact h h' e t' F' N' d1 d2 d3
theorem ve_L {v : Value} {Q : Value → Shared → Prop} (F : Fr h₀ L s.heap m) (N : News h₀ L s.heap l)
    (h : ∀ h' e t, Fr h₀ L h' m → News h₀ L h' ((e, excObj (.type "ValueError") t) :: (t, kdv_tup [v]) :: l) → (∀ p ∈ l, p.1 ≠ e) → (∀ p ∈ l, p.1 ≠ t) → e ≠ t → Q (.ref e) { s with heap := h' }) : wpAny (model prog w) A (call (.type "ValueError") [v]) Q E s := by
  obtain ⟨hh, g, d, t, os⟩ := s
  refine wpAny_call_exc PySem.F.excCall_ValueError fun h' e hx => ?_
  obtain ⟨t', F', N', d1, d2, d3⟩ := made_L (s := ⟨hh, g, d, t, os⟩) F N hx.of
  exact h h' e t' F' N' d1 d2 d3
end
end Mine
end

section
open PySem PySem.W PySem.Calls PyProof.Rows
namespace Mine
theorem al_zero {τ : Int} (h : 0 ≤ τ) : Al 0 τ := ⟨by omega, by omega⟩
theorem sub_mem {l l' : List (Addr × Obj)} {p : Addr × Obj} (h : ∀ q ∈ l, q ∈ l') (hp : p ∈ l) : p ∈ l' := h p hp
theorem tf_up {l l' : List (Addr × Obj)} (h : TabFull l) (hs : ∀ p ∈ l, p ∈ l') : TabFull l' := TabFull.mono hs h
theorem St.inst {b : Array UInt8} {τ : Int} {er : Value} {x d fs fr : Addr} {l : List (Addr × Obj)} (h : St b τ er x d fs fr l) : (x, instObj 135 d) ∈ l := by cases h; assumption
theorem St.instDrop {b : Array UInt8} {τ : Int} {er : Value} {x d fs fr e L : Addr} {g h : Heap} {p1 : Addr × Obj} {oe : Obj} {vs : Array Value} {l : List (Addr × Obj)} (hS : St b τ er x d fs fr l) (N : News g L h (p1 :: l)) (he : (e, oe) ∈ l) (hd : oe.data = .fields vs) : (x, instObj 135 d) ∈ drop e l :=
  mem_drop.mpr ⟨hS.inst, N.twoPlaces (List.mem_cons_of_mem _ hS.inst) (List.mem_cons_of_mem _ he) fun z => by
    have z' : instObj 135 d = oe := z
    rw [← z'] at hd
    cases hd⟩
theorem ne_of {e : Addr} {l : List (Addr × Obj)} {p : Addr × Obj} (h : ∀ q ∈ l, q.1 ≠ e) (hp : p ∈ l) : p.1 ≠ e := h p hp
theorem tup_news {g h : Heap} {L q d : Addr} {o : Obj} {vs : List Value} {l l' : List (Addr × Obj)} (N : News g L h ((q, kdv_tup vs) :: (d, o) :: l')) (hs : ∀ p ∈ l, p ∈ l') : News g L h ((q, kdv_tup vs) :: l) := N.perm fun p hp => by
  rcases List.mem_cons.mp hp with rfl | hp
  · exact List.mem_cons_self ..
  · exact List.mem_cons_of_mem _ (List.mem_cons_of_mem _ (hs p hp))
theorem str_ve {prog : Program} {w : World} {A : Around} {E : Value → Shared → Prop} {s : Shared} {h₀ : Heap} {L e t : Addr} {p1 : Addr × Obj} {l : List (Addr × Obj)} {oe : Obj} {vs : Array Value} {x : Str} {u : Tok} {Q : Value → Shared → Prop} (N : News h₀ L s.heap (p1 :: l)) (ht : (t, kdv_tup [.str x u]) ∈ l)
    (q1 : s.heap.get? e = some oe) (q2 : oe.cls = .type "ValueError") (q3 : oe.data = .fields vs) (q4 : vs[0]? = some (.ref t)) (hu : A.units + 2 < cLine) (h : Q (.str x u) s) : wpAny (model prog w) A (call (.type "str") [.ref e]) Q E s :=
  P.str_of_exc_one PySem.F.excStr_ValueError hu ⟨oe, vs, q1, q2, q3, q4⟩ ⟨_, _, (N _ (List.mem_cons_of_mem _ ht)).1, rfl, rfl⟩ h
theorem drop_keep {e : Addr} {l l' : List (Addr × Obj)} (h : ∀ p ∈ l, p ∈ l') (hne : ∀ p ∈ l, p.1 ≠ e) : ∀ p ∈ l, p ∈ drop e l' := fun p hp => mem_drop.mpr ⟨h p hp, hne p hp⟩
end Mine
open PySem PySem.W PySem.Calls PyProof.Rows
set_option maxRecDepth 100000
namespace Mine
local macro_rules | `(tactic| units_room) => `(tactic| ktr_units)
local macro_rules | `(tactic| k_room) => `(tactic| ktr_room)
local macro_rules | `(tactic| k_all) => `(tactic| first | assumption | exact ne_all (by assumption) | exact ne_lt (by assumption))
local macro_rules | `(tactic| k_lt $h:ident) => `(tactic| skip)
set_option maxHeartbeats 1000000 in
theorem c_asked2 {w : World} {p : Program} {loose : List Str} {mean : ExcName → Option Value} {mg mb : Str → Option Value} {dp un : Nat} {gd : Option (List Code)} {cn : Str} {cs : Scope} {a : Addr} {ccd : Value} {outer : List Env} {A₀ : Around} {base h₀ : Heap} {L : Addr} {m : Str → Option Value} {R : List (Addr × Obj)} {s : Shared} {Q E : Value → Shared → Prop}
    {te : Int} {tb tt tw : Tok} {b : Array UInt8} :
    Below A₀ base outer h₀ → Fr h₀ L s.heap m → (Mine.hd.heap_39 w.params).In h₀ → News h₀ L s.heap R → TabFull R → Top p loose mean mg mb h₀ → cs.kind = .function → dp + 260 < recursionLimit → un + 5200 < cLine →
    b.size ≤ 1000 → No7 b → 0 ≤ te → (Mine.hd.heap_39 w.params).In base → Top p loose mean mg mb base → KtsDicts (outer.filterMap (·.frame)) h₀ →
    (∀ g' q v n h' tk tn, KtsTurn (outer.filterMap (·.frame)) h₀ g' → Below A₀ base outer g' → (Mine.hd.heap_39 w.params).In g' → Top p loose mean mg mb g' → KtsDicts (outer.filterMap (·.frame)) g' → Fr g' L h' m → News g' L h' ((q, kdv_tup [v, .int n tn]) :: R) → (Al n te ∧ v = .bool (dueB b)) ∨ (n = te ∧ 0 < te ∧ ∃ tv, v = .str (Str.ofString "torn") tv) → Q (.ref q) { s with heap := h', toks := tk }) →
    wpAny (model Challenge.rw_kl0460_01.row.prog w) (ktrTop dp un gd cn cs L a ccd [] outer) (call (.ref 174) [.bytes b tb, .int te tt, .int 2 tw]) Q E s := by
  w_top off
  k_with_none
  k_with "eval Name" =>
    ((k_here; (with_reducible show wpAny _ _ (eval (Expr.Name (Str.ofString "OSError") _) _) _ _ _); k_dflt (refine' nameX_B ?z9aF ?z9aX ?z9aT ?z9ae ?z9av ?z9an ?_ ?z9aa ?z9ab; (case z9aF => k_asm); (case z9aX => k_asm); (case z9aT => k_asm); (case z9aa => rfl); (case z9ab => rfl); (case z9ae => exact ns_os _); (case z9av => exact boot_os); (case z9an => decide))))
  k_with "call type:OSError" =>
    ((k_here; k_dflt (refine' os_L ?z9bF ?z9bN (fun h9 e9 t9 F9 N9 d9 => ?_); (case z9bF => k_asm); (case z9bN => k_asm))))
  k_with "call type:ValueError" =>
    ((k_here; k_dflt (refine' ve_L ?z9cF ?z9cN (fun h9 e9 t9 F9 N9 d9 d8 d7 => ?_); (case z9cF => k_asm); (case z9cN => k_asm))))
  k_with "call ref" =>
    ((k_here; (with_reducible show wpAny _ _ (call (Value.ref 59) _) _ _ _); k_dflt (refine' bad_L ?z9dF ?z9dX ?z9dT ?z9dN (fun h9 e9 t9 F9 N9 d9 d8 d7 => ?_); (case z9dF => k_asm); (case z9dX => k_asm); (case z9dT => k_asm); (case z9dN => k_asm))))
  k_with "call ref" =>
    ((k_here; (with_reducible show wpAny _ _ (call (Value.ref 167) _) _ _ _); k_dflt (refine' c_file1 ?z9eB ?z9eF ?z9eX ?z9eN ?z9etf ?z9eT ?z9ek ?z9ed ?z9eu (fun d9 x9 s9 r9 R9 h9 tk9 a1 a2 a3 a4 tn9 to9 F9 N9 off9 St9 TF9 sub9 => ?_); (case z9eF => k_asm); (case z9eB => k_asm); (case z9eX => k_asm); (case z9eN => k_asm); (case z9etf => refine tf_up (by with_reducible assumption) ?_; intro p hp; repeat' (first | exact hp | apply List.mem_cons_of_mem)); (case z9eT => k_asm); (case z9ek => rfl); (case z9ed => ktr_room); (case z9eu => ktr_units))))
  k_with "call ref" =>
    ((k_here; (with_reducible show wpAny _ _ (call (Value.ref 76) _) _ _ _); k_dflt (refine' c_isz ?z9fB ?z9fF ?z9fX ?z9fN ?z9foff ?z9fT ?z9fk ?z9fd ?z9fu ?z9fSt ?z9fE ?z9fs ?z9fh7 ?z9fal ?z9fXB ?z9fTB ?z9fD (fun g9 n9 o9 h9 tk9 tn9 to9 T9 B9 X9 P9 D9 F9 al9 N9 => ?_) (fun g9 n9 o9 h9 tk9 tn9 to9 T9 B9 X9 P9 D9 F9 e9 z9 k9 N9 => ?_) (fun G9 n9 h9 tk9 tn9 o9 to9 e9 z9 k9 F9 R9 S9 => ?_); (case z9fF => k_asm); (case z9fB => k_asm); (case z9fX => k_asm); (case z9fN => k_asm); (case z9foff => with_reducible assumption); (case z9fT => k_asm); (case z9fk => rfl); (case z9fd => ktr_room); (case z9fu => ktr_units); (case z9fSt => with_reducible assumption); (case z9fE => intro _; refine ⟨rfl, .ve, _, _, sub_mem (by with_reducible assumption) (by (repeat' (first | with_reducible assumption | with_reducible exact List.mem_cons_self .. | apply List.mem_cons_of_mem))), rfl, rfl, rfl, rfl⟩); (case z9fs => with_reducible assumption); (case z9fh7 => with_reducible assumption); (case z9fal => exact al_zero (by with_reducible assumption)); (case z9fXB => k_asm); (case z9fTB => k_asm); (case z9fD => assumption))))
  k_with "getAttr ref" =>
    ((k_here; k_dflt (refine' get_fp ?z9gF ?z9gX ?z9gN ?z9ghX ?_; (case z9gF => k_asm); (case z9gX => k_asm); (case z9gN => k_asm); (case z9ghX => first | exact St.inst (by with_reducible assumption) | exact St.instDrop (by with_reducible assumption) (by with_reducible assumption) (sub_mem (by with_reducible assumption) (by (repeat' (first | with_reducible assumption | with_reducible exact List.mem_cons_self .. | apply List.mem_cons_of_mem)))) rfl))))
  k_fill
  intro B F X N hTF T hk hd hu hs h7 hte XB TB D hret
  obtain ⟨ck, cn1, cn2, cn3, cn4⟩ := cs
  have hk' : ck = .function := hk
  subst hk'
  refine wpAny_call ?_
  refine' code_defS B F X N T XB TB D KtsTurn.refl rfl ?k6 ?k7 ?k8 ?k9 ?kB ?_ rfl ?c2 ?c3 ?c4 ?c5
  case k6 => k_is
  case k7 => k_is
  case k8 => ktr_room
  case k9 => exact BindsTo.of_eq rfl
  case kB => exact locs rfl
  case c2 => exact rfl
  case c3 => exact rfl
  case c4 => exact rfl
  case c5 => decide
  intro g' L' h' FG' F' N' B' X' T' D'
  (try dsimp only); (try k_lift B'); (try k_fold)
  k_steps
  · exact hret _ _ _ _ _ _ _ (by with_reducible assumption) (by with_reducible assumption) (by with_reducible assumption) (by with_reducible assumption) (by with_reducible assumption) (by with_reducible assumption) (tup_news (by with_reducible assumption) (fun p hp => sub_mem (by with_reducible assumption) (by (repeat' (first | with_reducible assumption | with_reducible exact List.mem_cons_self .. | apply List.mem_cons_of_mem))))) (.inl ⟨by with_reducible assumption, rfl⟩)
  · exact absurd rfl (by assumption)
  · refine' flew_note _ ?nR ?nK ?nS ?_
    case nR => assumption
    case nK => assumption
    case nS => assumption
    intro h7 R7 S7
    refine' flew_hit_as (KF := Mine.hd.heap_39 w.params) R7 ?hF ?hK S7 XB TB ?hD tests_ve ?_
    case hF => assumption
    case hK => assumption
    case hD => assumption
    intro h6 tk6 g6 oe6 vs6 T6 F6 N6 K6 X6 P6 D6 q1 q2 q3 q4
    k_steps
    refine str_ve N6 (mem_drop.mpr ⟨sub_mem (by with_reducible assumption) (by (repeat' (first | with_reducible assumption | with_reducible exact List.mem_cons_self .. | apply List.mem_cons_of_mem))), (Ne.symm (by with_reducible assumption))⟩) q1 q2 q3 q4 (by ktr_units) ?_
    k_steps
    exact hret _ _ _ _ _ _ _ (by with_reducible assumption) (by with_reducible assumption) (by with_reducible assumption) (by with_reducible assumption) (by with_reducible assumption) (by with_reducible assumption) (tup_news (by with_reducible assumption) (drop_keep (fun p hp => sub_mem (by with_reducible assumption) (by (repeat' (first | with_reducible assumption | with_reducible exact List.mem_cons_self .. | apply List.mem_cons_of_mem)))) (fun p hp => ne_of (by with_reducible assumption) (by (repeat' (first | with_reducible assumption | with_reducible exact List.mem_cons_self .. | apply List.mem_cons_of_mem)))))) (.inr ⟨by with_reducible assumption, by with_reducible assumption, _, rfl⟩)
end Mine
end

section
open PySem PySem.W PySem.Calls PyProof.Rows
set_option maxRecDepth 100000
namespace Mine
local macro_rules | `(tactic| units_room) => `(tactic| ktr_units)
local macro_rules | `(tactic| k_room) => `(tactic| ktr_room)
local macro_rules | `(tactic| k_all) => `(tactic| first | assumption | exact ne_all (by assumption) | exact ne_lt (by assumption))
local macro_rules | `(tactic| k_lt $h:ident) => `(tactic| skip)
set_option maxHeartbeats 1000000 in
theorem c_asked0 {w : World} {p : Program} {loose : List Str} {mean : ExcName → Option Value} {mg mb : Str → Option Value} {dp un : Nat} {gd : Option (List Code)} {cn : Str} {cs : Scope} {a : Addr} {ccd : Value} {outer : List Env} {A₀ : Around} {base h₀ : Heap} {L : Addr} {m : Str → Option Value} {R : List (Addr × Obj)} {s : Shared} {Q E : Value → Shared → Prop}
    {te : Int} {tb tt tw : Tok} {b : Array UInt8} :
    Below A₀ base outer h₀ → Fr h₀ L s.heap m → (Mine.hd.heap_39 w.params).In h₀ → News h₀ L s.heap R → TabFull R → Top p loose mean mg mb h₀ → cs.kind = .function → dp + 260 < recursionLimit → un + 5200 < cLine →
    b.size ≤ 1000 → No7 b → 0 ≤ te → (Mine.hd.heap_39 w.params).In base → Top p loose mean mg mb base → KtsDicts (outer.filterMap (·.frame)) h₀ →
    (∀ g' q v n h' tk tn, KtsTurn (outer.filterMap (·.frame)) h₀ g' → Below A₀ base outer g' → (Mine.hd.heap_39 w.params).In g' → Top p loose mean mg mb g' → KtsDicts (outer.filterMap (·.frame)) g' → Fr g' L h' m → News g' L h' ((q, kdv_tup [v, .int n tn]) :: R) → (Al n te ∧ v = .bool (dueB b)) ∨ (n = te ∧ 0 < te ∧ v = .bool false) → Q (.ref q) { s with heap := h', toks := tk }) →
    wpAny (model Challenge.rw_kl0460_01.row.prog w) (ktrTop dp un gd cn cs L a ccd [] outer) (call (.ref 174) [.bytes b tb, .int te tt, .int 0 tw]) Q E s := by
  w_top off
  k_with_none
  k_with "eval Name" =>
    ((k_here; (with_reducible show wpAny _ _ (eval (Expr.Name (Str.ofString "OSError") _) _) _ _ _); k_dflt (refine' nameX_B ?z9aF ?z9aX ?z9aT ?z9ae ?z9av ?z9an ?_ ?z9aa ?z9ab; (case z9aF => k_asm); (case z9aX => k_asm); (case z9aT => k_asm); (case z9aa => rfl); (case z9ab => rfl); (case z9ae => exact ns_os _); (case z9av => exact boot_os); (case z9an => decide))))
  k_with "call type:OSError" =>
    ((k_here; k_dflt (refine' os_L ?z9bF ?z9bN (fun h9 e9 t9 F9 N9 d9 => ?_); (case z9bF => k_asm); (case z9bN => k_asm))))
  k_with "call type:ValueError" =>
    ((k_here; k_dflt (refine' ve_L ?z9cF ?z9cN (fun h9 e9 t9 F9 N9 d9 d8 d7 => ?_); (case z9cF => k_asm); (case z9cN => k_asm))))
  k_with "call ref" =>
    ((k_here; (with_reducible show wpAny _ _ (call (Value.ref 59) _) _ _ _); k_dflt (refine' bad_L ?z9dF ?z9dX ?z9dT ?z9dN (fun h9 e9 t9 F9 N9 d9 d8 d7 => ?_); (case z9dF => k_asm); (case z9dX => k_asm); (case z9dT => k_asm); (case z9dN => k_asm))))
  k_with "call ref" =>
    ((k_here; (with_reducible show wpAny _ _ (call (Value.ref 167) _) _ _ _); k_dflt (refine' c_file1 ?z9eB ?z9eF ?z9eX ?z9eN ?z9etf ?z9eT ?z9ek ?z9ed ?z9eu (fun d9 x9 s9 r9 R9 h9 tk9 a1 a2 a3 a4 tn9 to9 F9 N9 off9 St9 TF9 sub9 => ?_); (case z9eF => k_asm); (case z9eB => k_asm); (case z9eX => k_asm); (case z9eN => k_asm); (case z9etf => refine tf_up (by with_reducible assumption) ?_; intro p hp; repeat' (first | exact hp | apply List.mem_cons_of_mem)); (case z9eT => k_asm); (case z9ek => rfl); (case z9ed => ktr_room); (case z9eu => ktr_units))))
  k_with "call ref" =>
    ((k_here; (with_reducible show wpAny _ _ (call (Value.ref 76) _) _ _ _); k_dflt (refine' c_isz ?z9fB ?z9fF ?z9fX ?z9fN ?z9foff ?z9fT ?z9fk ?z9fd ?z9fu ?z9fSt ?z9fE ?z9fs ?z9fh7 ?z9fal ?z9fXB ?z9fTB ?z9fD (fun g9 n9 o9 h9 tk9 tn9 to9 T9 B9 X9 P9 D9 F9 al9 N9 => ?_) (fun g9 n9 o9 h9 tk9 tn9 to9 T9 B9 X9 P9 D9 F9 e9 z9 k9 N9 => ?_) (fun G9 n9 h9 tk9 tn9 o9 to9 e9 z9 k9 F9 R9 S9 => ?_); (case z9fF => k_asm); (case z9fB => k_asm); (case z9fX => k_asm); (case z9fN => k_asm); (case z9foff => with_reducible assumption); (case z9fT => k_asm); (case z9fk => rfl); (case z9fd => ktr_room); (case z9fu => ktr_units); (case z9fSt => with_reducible assumption); (case z9fE => intro _; refine ⟨rfl, .os, _, _, sub_mem (by with_reducible assumption) (by (repeat' (first | with_reducible assumption | with_reducible exact List.mem_cons_self .. | apply List.mem_cons_of_mem))), rfl, rfl, rfl, rfl⟩); (case z9fs => with_reducible assumption); (case z9fh7 => with_reducible assumption); (case z9fal => exact al_zero (by with_reducible assumption)); (case z9fXB => k_asm); (case z9fTB => k_asm); (case z9fD => assumption))))
  k_with "getAttr ref" =>
    ((k_here; k_dflt (refine' get_fp ?z9gF ?z9gX ?z9gN ?z9ghX ?_; (case z9gF => k_asm); (case z9gX => k_asm); (case z9gN => k_asm); (case z9ghX => first | exact St.inst (by with_reducible assumption) | exact St.instDrop (by with_reducible assumption) (by with_reducible assumption) (sub_mem (by with_reducible assumption) (by (repeat' (first | with_reducible assumption | with_reducible exact List.mem_cons_self .. | apply List.mem_cons_of_mem)))) rfl))))
  k_fill
  intro B F X N hTF T hk hd hu hs h7 hte XB TB D hret
  obtain ⟨ck, cn1, cn2, cn3, cn4⟩ := cs
  have hk' : ck = .function := hk
  subst hk'
  refine wpAny_call ?_
  refine' code_defS B F X N T XB TB D KtsTurn.refl rfl ?k6 ?k7 ?k8 ?k9 ?kB ?_ rfl ?c2 ?c3 ?c4 ?c5
  case k6 => k_is
  case k7 => k_is
  case k8 => ktr_room
  case k9 => exact BindsTo.of_eq rfl
  case kB => exact locs rfl
  case c2 => exact rfl
  case c3 => exact rfl
  case c4 => exact rfl
  case c5 => decide
  intro g' L' h' FG' F' N' B' X' T' D'
  (try dsimp only); (try k_lift B'); (try k_fold)
  k_steps
  · exact hret _ _ _ _ _ _ _ (by with_reducible assumption) (by with_reducible assumption) (by with_reducible assumption) (by with_reducible assumption) (by with_reducible assumption) (by with_reducible assumption) (tup_news (by with_reducible assumption) (fun p hp => sub_mem (by with_reducible assumption) (by (repeat' (first | with_reducible assumption | with_reducible exact List.mem_cons_self .. | apply List.mem_cons_of_mem))))) (.inl ⟨by with_reducible assumption, rfl⟩)
  · exact hret _ _ _ _ _ _ _ (by with_reducible assumption) (by with_reducible assumption) (by with_reducible assumption) (by with_reducible assumption) (by with_reducible assumption) (by with_reducible assumption) (tup_news (by with_reducible assumption) (drop_keep (fun p hp => sub_mem (by with_reducible assumption) (by (repeat' (first | with_reducible assumption | with_reducible exact List.mem_cons_self .. | apply List.mem_cons_of_mem)))) (fun p hp => ne_of (by with_reducible assumption) (by (repeat' (first | with_reducible assumption | with_reducible exact List.mem_cons_self .. | apply List.mem_cons_of_mem)))))) (.inr ⟨by with_reducible assumption, by with_reducible assumption, rfl⟩)
  · exact absurd (show (0 : Nat) = 2 from by assumption) (by decide)
end Mine
end

section
open PySem PySem.W PySem.Calls PyProof.Rows
set_option maxRecDepth 100000
namespace Mine
local macro_rules | `(tactic| units_room) => `(tactic| ktr_units)
local macro_rules | `(tactic| k_room) => `(tactic| ktr_room)
local macro_rules | `(tactic| k_all) => `(tactic| first | assumption | exact ne_all (by assumption) | exact ne_lt (by assumption))
local macro_rules | `(tactic| k_lt $h:ident) => `(tactic| skip)
set_option maxHeartbeats 1000000 in
theorem c_asked1 {w : World} {p : Program} {loose : List Str} {mean : ExcName → Option Value} {mg mb : Str → Option Value} {dp un : Nat} {gd : Option (List Code)} {cn : Str} {cs : Scope} {a : Addr} {ccd : Value} {outer : List Env} {A₀ : Around} {base h₀ : Heap} {L : Addr} {m : Str → Option Value} {R : List (Addr × Obj)} {s : Shared} {Q E : Value → Shared → Prop}
    {te : Int} {tb tt tw : Tok} {b : Array UInt8} :
    Below A₀ base outer h₀ → Fr h₀ L s.heap m → (Mine.hd.heap_39 w.params).In h₀ → News h₀ L s.heap R → TabFull R → Top p loose mean mg mb h₀ → cs.kind = .function → dp + 260 < recursionLimit → un + 5200 < cLine →
    b.size ≤ 1000 → No7 b → 0 ≤ te → (Mine.hd.heap_39 w.params).In base → Top p loose mean mg mb base → KtsDicts (outer.filterMap (·.frame)) h₀ →
    (∀ g' q v n h' tk tn, KtsTurn (outer.filterMap (·.frame)) h₀ g' → Below A₀ base outer g' → (Mine.hd.heap_39 w.params).In g' → Top p loose mean mg mb g' → KtsDicts (outer.filterMap (·.frame)) g' → Fr g' L h' m → News g' L h' ((q, kdv_tup [v, .int n tn]) :: R) → (Al n te ∧ v = .bool (dueB b)) ∨ (n = te ∧ 0 < te ∧ v = .bool false) → Q (.ref q) { s with heap := h', toks := tk }) →
    wpAny (model Challenge.rw_kl0460_01.row.prog w) (ktrTop dp un gd cn cs L a ccd [] outer) (call (.ref 174) [.bytes b tb, .int te tt, .int 1 tw]) Q E s := by
  w_top off
  k_with_none
  k_with "eval Name" =>
    ((k_here; (with_reducible show wpAny _ _ (eval (Expr.Name (Str.ofString "OSError") _) _) _ _ _); k_dflt (refine' nameX_B ?z9aF ?z9aX ?z9aT ?z9ae ?z9av ?z9an ?_ ?z9aa ?z9ab; (case z9aF => k_asm); (case z9aX => k_asm); (case z9aT => k_asm); (case z9aa => rfl); (case z9ab => rfl); (case z9ae => exact ns_os _); (case z9av => exact boot_os); (case z9an => decide))))
  k_with "call type:OSError" =>
    ((k_here; k_dflt (refine' os_L ?z9bF ?z9bN (fun h9 e9 t9 F9 N9 d9 => ?_); (case z9bF => k_asm); (case z9bN => k_asm))))
  k_with "call type:ValueError" =>
    ((k_here; k_dflt (refine' ve_L ?z9cF ?z9cN (fun h9 e9 t9 F9 N9 d9 d8 d7 => ?_); (case z9cF => k_asm); (case z9cN => k_asm))))
  k_with "call ref" =>
    ((k_here; (with_reducible show wpAny _ _ (call (Value.ref 59) _) _ _ _); k_dflt (refine' bad_L ?z9dF ?z9dX ?z9dT ?z9dN (fun h9 e9 t9 F9 N9 d9 d8 d7 => ?_); (case z9dF => k_asm); (case z9dX => k_asm); (case z9dT => k_asm); (case z9dN => k_asm))))
  k_with "call ref" =>
    ((k_here; (with_reducible show wpAny _ _ (call (Value.ref 167) _) _ _ _); k_dflt (refine' c_file1 ?z9eB ?z9eF ?z9eX ?z9eN ?z9etf ?z9eT ?z9ek ?z9ed ?z9eu (fun d9 x9 s9 r9 R9 h9 tk9 a1 a2 a3 a4 tn9 to9 F9 N9 off9 St9 TF9 sub9 => ?_); (case z9eF => k_asm); (case z9eB => k_asm); (case z9eX => k_asm); (case z9eN => k_asm); (case z9etf => refine tf_up (by with_reducible assumption) ?_; intro p hp; repeat' (first | exact hp | apply List.mem_cons_of_mem)); (case z9eT => k_asm); (case z9ek => rfl); (case z9ed => ktr_room); (case z9eu => ktr_units))))
  k_with "call ref" =>
    ((k_here; (with_reducible show wpAny _ _ (call (Value.ref 76) _) _ _ _); k_dflt (refine' c_isz ?z9fB ?z9fF ?z9fX ?z9fN ?z9foff ?z9fT ?z9fk ?z9fd ?z9fu ?z9fSt ?z9fE ?z9fs ?z9fh7 ?z9fal ?z9fXB ?z9fTB ?z9fD (fun g9 n9 o9 h9 tk9 tn9 to9 T9 B9 X9 P9 D9 F9 al9 N9 => ?_) (fun g9 n9 o9 h9 tk9 tn9 to9 T9 B9 X9 P9 D9 F9 e9 z9 k9 N9 => ?_) (fun G9 n9 h9 tk9 tn9 o9 to9 e9 z9 k9 F9 R9 S9 => ?_); (case z9fF => k_asm); (case z9fB => k_asm); (case z9fX => k_asm); (case z9fN => k_asm); (case z9foff => with_reducible assumption); (case z9fT => k_asm); (case z9fk => rfl); (case z9fd => ktr_room); (case z9fu => ktr_units); (case z9fSt => with_reducible assumption); (case z9fE => intro _; refine ⟨rfl, .bad, _, _, sub_mem (by with_reducible assumption) (by (repeat' (first | with_reducible assumption | with_reducible exact List.mem_cons_self .. | apply List.mem_cons_of_mem))), rfl, rfl, rfl, rfl⟩); (case z9fs => with_reducible assumption); (case z9fh7 => with_reducible assumption); (case z9fal => exact al_zero (by with_reducible assumption)); (case z9fXB => k_asm); (case z9fTB => k_asm); (case z9fD => assumption))))
  k_with "getAttr ref" =>
    ((k_here; k_dflt (refine' get_fp ?z9gF ?z9gX ?z9gN ?z9ghX ?_; (case z9gF => k_asm); (case z9gX => k_asm); (case z9gN => k_asm); (case z9ghX => first | exact St.inst (by with_reducible assumption) | exact St.instDrop (by with_reducible assumption) (by with_reducible assumption) (sub_mem (by with_reducible assumption) (by (repeat' (first | with_reducible assumption | with_reducible exact List.mem_cons_self .. | apply List.mem_cons_of_mem)))) rfl))))
  k_fill
  intro B F X N hTF T hk hd hu hs h7 hte XB TB D hret
  obtain ⟨ck, cn1, cn2, cn3, cn4⟩ := cs
  have hk' : ck = .function := hk
  subst hk'
  refine wpAny_call ?_
  refine' code_defS B F X N T XB TB D KtsTurn.refl rfl ?k6 ?k7 ?k8 ?k9 ?kB ?_ rfl ?c2 ?c3 ?c4 ?c5
  case k6 => k_is
  case k7 => k_is
  case k8 => ktr_room
  case k9 => exact BindsTo.of_eq rfl
  case kB => exact locs rfl
  case c2 => exact rfl
  case c3 => exact rfl
  case c4 => exact rfl
  case c5 => decide
  intro g' L' h' FG' F' N' B' X' T' D'
  (try dsimp only); (try k_lift B'); (try k_fold)
  k_steps
  · exact hret _ _ _ _ _ _ _ (by with_reducible assumption) (by with_reducible assumption) (by with_reducible assumption) (by with_reducible assumption) (by with_reducible assumption) (by with_reducible assumption) (tup_news (by with_reducible assumption) (fun p hp => sub_mem (by with_reducible assumption) (by (repeat' (first | with_reducible assumption | with_reducible exact List.mem_cons_self .. | apply List.mem_cons_of_mem))))) (.inl ⟨by with_reducible assumption, rfl⟩)
  · exact hret _ _ _ _ _ _ _ (by with_reducible assumption) (by with_reducible assumption) (by with_reducible assumption) (by with_reducible assumption) (by with_reducible assumption) (by with_reducible assumption) (tup_news (by with_reducible assumption) (drop_keep (fun p hp => sub_mem (by with_reducible assumption) (by (repeat' (first | with_reducible assumption | with_reducible exact List.mem_cons_self .. | apply List.mem_cons_of_mem)))) (fun p hp => ne_of (by with_reducible assumption) (by (repeat' (first | with_reducible assumption | with_reducible exact List.mem_cons_self .. | apply List.mem_cons_of_mem)))))) (.inr ⟨by with_reducible assumption, by with_reducible assumption, rfl⟩)
  · exact absurd (show (1 : Nat) = 2 from by assumption) (by decide)
end Mine
end

section
set_option maxRecDepth 100000
namespace Mine
open PySem PySem.W PySem.Calls PyProof.Rows PySem.Spec
def IterO (l : Addr) (o : Obj) : Prop := ∃ k : Int, o.data = .fields #[.ref l, .int k 0]
def EndR (h₀ : Heap) (L I : Addr) (J : (Str → Option Value) → List (Addr × Obj) → Prop) (oI : Obj) (s₁ s₂ : Shared) : Prop :=
  ∃ h' tk m' nx, s₂ = { s₁ with heap := h', toks := tk } ∧ Fr h₀ L h' m' ∧ News h₀ L h' ((I, oI) :: nx) ∧ (∀ p ∈ nx, p.1 ≠ I) ∧ J m' nx
def PostR (h₀ : Heap) (L I : Addr) (J : (Str → Option Value) → List (Addr × Obj) → Prop) (oI : Obj) (s₁ : Shared) (Q : Flow → Shared → Prop) (f : Flow) (s₂ : Shared) : Prop :=
  match f with
  | .ret v => Q (.ret v) s₂
  | .brk => Q .next s₂
  | _ => EndR h₀ L I J oI s₁ s₂
section
variable {prog : Program} {w : World} {A : Around} {E : Value → Shared → Prop} {s : Shared} {env : Env} {h₀ : Heap} {x : Str} {body : List Stmt} {Q : Flow → Shared → Prop}
theorem iter_R {l : Addr} {vs : List Value} {ns : List Int} {nn : Nat} {m₀ : Str → Option Value} {news : List (Addr × Obj)} (J : Nat → (Str → Option Value) → List (Addr × Obj) → Prop)
    (hh : A.handled = none) (hl : (l, listOf vs.toArray nn) ∈ news) (hi : IntsAre vs ns) (F : Fr h₀ env.locals s.heap m₀) (N : News h₀ env.locals s.heap news) (hj : J 0 m₀ news) (hJl : ∀ i m nx, J i m nx → (l, listOf vs.toArray nn) ∈ nx)
    (turn : ∀ i n t m₁ news₁ h tk I oI, ns[i]? = some n → IterO l oI → J i m₁ news₁ → (∀ p ∈ news₁, p.1 ≠ I) → Fr h₀ env.locals h (fun y => if y = x then some (.int n t) else m₁ y) → News h₀ env.locals h ((I, oI) :: news₁) →
      wpAny (model prog w) A (execs body env) (PostR h₀ env.locals I (J (i + 1)) oI { s with heap := h, toks := tk } Q) E { s with heap := h, toks := tk })
    (done : ∀ m₁ news₁ h tk, J ns.length m₁ news₁ → Fr h₀ env.locals h m₁ → News h₀ env.locals h news₁ → Q .next { s with heap := h, toks := tk }) :
    wpAny (model prog w) A (pyIter (.ref l)) (fun it s₂ => LoopAtV prog w A h₀ env x body Q E it s₂) E s := by
  have hol : s.heap.get? l = some (listOf vs.toArray nn) := (N _ hl).1
  have hls : s.heap.IsList l vs.toArray := ⟨_, hol, rfl, nn, rfl⟩
  have hne : l ≠ s.heap.objs.size := Nat.ne_of_lt (Heap.lt_size hol)
  refine wpAny_pyIter_list hls ?_
  have W := Walks.list (prog := prog) (w := w) hh s.heap.objs.size l hne vs.toArray
  have hlen : vs.toArray.size = ns.length := by simp [hi.length]
  rw [hlen] at W
  refine ⟨_, _, _, ns.length, _, _, m₀, news, J, rfl, W, ?_, ?_, ?_, ⟨⟨_, Heap.get?_push_size _ rfl, rfl, rfl⟩, hls.at fun o e => Heap.get?_push_of_some _ e⟩, F.push _, (fun p hp => ⟨Heap.get?_push_of_some _ (N p hp).1, (N p hp).2⟩), hj, ?_, ?_⟩
  · intro hm
    rcases List.mem_cons.mp hm with e | hm
    · exact absurd F.ns.lt (e ▸ Nat.lt_irrefl _)
    · exact (N _ hl).2.1 ((List.mem_singleton.mp hm).symm)
  · intro b hb
    rw [List.mem_singleton.mp hb]
    exact next_is_new F
  · intro p hp hI
    exact absurd (Heap.lt_size (N p hp).1) ((List.mem_singleton.mp hI) ▸ Nat.lt_irrefl _)
  · rintro i v m₁ news₁ s₁ own ⟨hh', tk', rfl⟩ hin hP hJ hoff hown hget hfp hst F₁ N₁
    have hI0 : h₀.get? s.heap.objs.size = none := next_is_new F
    obtain ⟨⟨oI, hoI, hcI, hdI⟩, _⟩ := id hst
    have hIown : (s.heap.objs.size, oI) ∈ own := hfp _ (List.mem_cons.mpr (.inl rfl)) hI0 _ hoI
    have hlt' : i < ns.length := hin
    obtain ⟨t, hx⟩ := hi.get i ns[i] (by simp [hlt'])
    have hv : v = .int ns[i] t := by
      have hP' : vs[i]? = some v := by simpa using hP
      rw [hx] at hP'; exact (Option.some.inj hP').symm
    subst hv
    have hl₁ := hJl _ _ _ hJ
    have N₂ : News h₀ env.locals hh' ((s.heap.objs.size, oI) :: news₁) := fun p hp => N₁ p ((List.mem_cons.mp hp).elim (fun h => List.mem_append.mpr (.inl (h ▸ hIown))) fun h => List.mem_append.mpr (.inr h))
    refine wpAny_mono (turn i ns[i] t m₁ news₁ hh' tk' s.heap.objs.size oI (by simp [hlt']) ⟨_, hdI⟩ hJ (fun p hp e => hoff p hp (List.mem_singleton.mpr e)) F₁ N₂) (fun f s₂ p => ?_) fun _ _ e => e
    have fin : EndR h₀ env.locals s.heap.objs.size (J (i + 1)) oI { s with heap := hh', toks := tk' } s₂ → LoopStepU h₀ env.locals [s.heap.objs.size] own (J (i + 1)) { s with heap := hh', toks := tk' } .next s₂ := by
      rintro ⟨h', tk, m', nx, e, F', N', hn, hm⟩
      have hlx := hJl _ _ _ hm
      refine ⟨rfl, h', tk, m', nx, e, F', fun p hp => ?_, fun p hp hq => hn p hp (List.mem_singleton.mp hq), hm⟩
      rcases List.mem_append.mp hp with h | h
      · rcases List.mem_cons.mp (hown p h) with h2 | h2
        · have h3 : hh'.get? p.1 = some p.2 := hget p h
          rw [h2] at h3
          have h4 : p.2 = oI := Option.some.inj (h3.symm.trans hoI)
          have h5 : p = (s.heap.objs.size, oI) := Prod.ext h2 h4
          rw [h5]
          exact N' _ (List.mem_cons_self ..)
        · have h1 := List.mem_singleton.mp h2
          have h2 : hh'.get? p.1 = some p.2 := hget p h
          rw [h1, (N₁ _ (List.mem_append.mpr (.inr hl₁))).1] at h2
          have h3 : p = (l, listOf vs.toArray nn) := Prod.ext h1 (Option.some.inj h2).symm
          rw [h3]
          exact N' _ (List.mem_cons_of_mem _ hlx)
      · exact N' p (List.mem_cons_of_mem _ h)
    cases f with
    | ret v => exact .ret p
    | brk => exact .brk p
    | next => exact .next (fin p)
    | cont => exact .cont (fin p)
  · rintro h' tk m' news' F' N' _ hJ
    exact done m' news' h' tk hJ F' N'
-- grounds that turn where no outer frame stands are the grounds themselves
theorem turn_nil {g g' : Heap} (T : KtsTurn [] g g') {b : Addr} {o : Obj} (e : g.get? b = some o) : g'.get? b = some o := T.other b o e (by simp)
theorem fr_back {g g' h : Heap} {L : Addr} {m : Str → Option Value} (T : KtsTurn [] g g') (F : Fr g' L h m) : Fr g L h m :=
  ⟨F.ns, fun b o e => F.keep b o (turn_nil T e), by rw [← T.size]; exact F.above⟩
theorem news_back {g g' h : Heap} {L : Addr} {l : List (Addr × Obj)} (T : KtsTurn [] g g') (N : News g' L h l) : News g L h l := fun p hp =>
  ⟨(N p hp).1, (N p hp).2.1, by
    cases q : g.get? p.1 with
    | none => rfl
    | some o => have := (N p hp).2.2; rw [turn_nil T q] at this; cases this⟩
end
end Mine
end

section
open PySem PySem.W PySem.Calls PyProof.Rows PySem.Spec
set_option maxRecDepth 100000
namespace Mine
-- the table of the law's own defs: empty, or full
def TabSt (l : List (Addr × Obj)) : Prop := (162, tabObj #[]) ∈ l ∨ TabFull l
theorem c_fileT {w : World} {b : Array UInt8} {tb : Tok} {te : Int} {tt : Tok} {er : Value}
   {p : Program} {loose : List Str} {mean : ExcName → Option Value} {mg mb : Str → Option Value} {dp un : Nat} {gd : Option (List Code)} {cn : Str} {cs : Scope} {a : Addr} {ccd : Value} {cl : List (Str × Addr)} {outer : List Env} {A₀ : Around} {base h₀ : Heap} {L : Addr} {m : Str → Option Value} {news : List (Addr × Obj)} {s : Shared} {Q E : Value → Shared → Prop}
    (B : Below A₀ base outer h₀) (F : Fr h₀ L s.heap m) (X : (Mine.hd.heap_39 w.params).In h₀) (N : News h₀ L s.heap news) (hT : TabSt news) (T : Top p loose mean mg mb h₀) (hk : cs.kind = .function) (hd : dp + 20 < recursionLimit) (hu : un + 400 < cLine)
    (h : ∀ d x fs fr R' h' tk t1 t2 t3 t4 tn to, Fr h₀ L h' m → News h₀ L h' ((d, dictF w t1 t2 t3 t4 fs fr 0 tn 0 to) :: R') → (∀ p ∈ R', p.1 ≠ d) → St b te er x d fs fr R' → TabFull R' → (∀ p ∈ news, p.1 ≠ 162 → p ∈ R') → Q (.ref x) { s with heap := h', toks := tk }) :
    wpAny (model Challenge.rw_kl0460_01.row.prog w) (ktrTop dp un gd cn cs L a ccd cl outer) (call (.ref 167) [.bytes b tb, .int te tt, er]) Q E s := by
  rcases hT with hT | hT
  · exact c_file0 B F X (to_drop N hT) drop_ne T hk hd hu fun d x fs fr R' h' tk t1 t2 t3 t4 tn to F' N' o' S' T' sub => h d x fs fr R' h' tk t1 t2 t3 t4 tn to F' N' o' S' T' fun q hq hn => sub q (mem_drop.mpr ⟨hq, hn⟩)
  · exact c_file1 B F X N hT T hk hd hu fun d x fs fr R' h' tk t1 t2 t3 t4 tn to F' N' o' S' T' sub => h d x fs fr R' h' tk t1 t2 t3 t4 tn to F' N' o' S' T' fun q hq _ => sub q hq
-- the calls where no outer frame stands
theorem c_callL {w : World} {p : Program} {loose : List Str} {mean : ExcName → Option Value} {mg mb : Str → Option Value} {dp un : Nat} {gd : Option (List Code)} {cn : Str} {cs : Scope} {a : Addr} {ccd : Value} {A₀ : Around} {base h₀ : Heap} {L : Addr} {m : Str → Option Value} {R : List (Addr × Obj)} {s : Shared} {Q E : Value → Shared → Prop}
    {d x fs fr : Addr} {t1 t2 t3 t4 tn to : Tok} {n o : Int} {er : Value} {b : Array UInt8}
    (B : Below A₀ base [] h₀) (F : Fr h₀ L s.heap m) (X : (Mine.hd.heap_39 w.params).In h₀) (N : News h₀ L s.heap ((d, dictF w t1 t2 t3 t4 fs fr n tn o to) :: R)) (hoff : ∀ p ∈ R, p.1 ≠ d) (T : Top p loose mean mg mb h₀) (hk : cs.kind = .function) (hd : dp + 220 < recursionLimit) (hu : un + 4400 < cLine)
    (hS : St b 0 er x d fs fr R) (hs : b.size ≤ 1000) (h7 : No7 b) (hal : Al n 0) (XB : (Mine.hd.heap_39 w.params).In base) (TB : Top p loose mean mg mb base)
    (h : ∀ n' o' h' tk tn' to', Fr h₀ L h' m → News h₀ L h' ((d, dictF w t1 t2 t3 t4 fs fr n' tn' o' to') :: R) → Q (.bool (dueB b)) { s with heap := h', toks := tk }) :
    wpAny (model Challenge.rw_kl0460_01.row.prog w) (ktrTop dp un gd cn cs L a ccd [] []) (call (.ref 146) [.ref 76] [(Str.ofString "filename", .ref x)]) Q E s :=
  c_call B F X N hoff T hk hd hu hS hs h7 hal XB TB ktsDicts_nil fun g' n' o' h' tk tn' to' T' _ _ _ _ F' N' => h n' o' h' tk tn' to' (fr_back T' F') (news_back T' N')
theorem c_askedL {w : World} {p : Program} {loose : List Str} {mean : ExcName → Option Value} {mg mb : Str → Option Value} {dp un : Nat} {gd : Option (List Code)} {cn : Str} {cs : Scope} {a : Addr} {ccd : Value} {A₀ : Around} {base h₀ : Heap} {L : Addr} {m : Str → Option Value} {R : List (Addr × Obj)} {s : Shared} {Q E : Value → Shared → Prop}
    {te wh : Int} {tb tt tw : Tok} {b : Array UInt8}
    (B : Below A₀ base [] h₀) (F : Fr h₀ L s.heap m) (X : (Mine.hd.heap_39 w.params).In h₀) (N : News h₀ L s.heap R) (hTF : TabFull R) (T : Top p loose mean mg mb h₀) (hk : cs.kind = .function) (hd : dp + 260 < recursionLimit) (hu : un + 5200 < cLine)
    (hs : b.size ≤ 1000) (h7 : No7 b) (hte : 0 ≤ te) (hw0 : 0 ≤ wh) (hw2 : wh < 3) (XB : (Mine.hd.heap_39 w.params).In base) (TB : Top p loose mean mg mb base)
    (h1 : ∀ q n h' tk tn, Fr h₀ L h' m → News h₀ L h' ((q, kdv_tup [.bool (dueB b), .int n tn]) :: R) → 0 ≤ n → (te = 0 ∨ n < te) → Q (.ref q) { s with heap := h', toks := tk })
    (h2 : wh = 2 → 0 < te → ∀ q h' tk tn tv, Fr h₀ L h' m → News h₀ L h' ((q, kdv_tup [.str (Str.ofString "torn") tv, .int te tn]) :: R) → Q (.ref q) { s with heap := h', toks := tk })
    (h3 : wh ≠ 2 → 0 < te → ∀ q h' tk tn, Fr h₀ L h' m → News h₀ L h' ((q, kdv_tup [.bool false, .int te tn]) :: R) → Q (.ref q) { s with heap := h', toks := tk }) :
    wpAny (model Challenge.rw_kl0460_01.row.prog w) (ktrTop dp un gd cn cs L a ccd [] []) (call (.ref 174) [.bytes b tb, .int te tt, .int wh tw]) Q E s := by
  have hw : wh = 0 ∨ wh = 1 ∨ wh = 2 := by omega
  rcases hw with rfl | rfl | rfl
  · refine c_asked0 B F X N hTF T hk hd hu hs h7 hte XB TB ktsDicts_nil fun g' q v n h' tk tn T' _ _ _ _ F' N' hv => ?_
    rcases hv with ⟨al, rfl⟩ | ⟨rfl, z, rfl⟩
    · exact h1 q n h' tk tn (fr_back T' F') (news_back T' N') al.1 al.2
    · exact h3 (by decide) z q h' tk tn (fr_back T' F') (news_back T' N')
  · refine c_asked1 B F X N hTF T hk hd hu hs h7 hte XB TB ktsDicts_nil fun g' q v n h' tk tn T' _ _ _ _ F' N' hv => ?_
    rcases hv with ⟨al, rfl⟩ | ⟨rfl, z, rfl⟩
    · exact h1 q n h' tk tn (fr_back T' F') (news_back T' N') al.1 al.2
    · exact h3 (by decide) z q h' tk tn (fr_back T' F') (news_back T' N')
  · refine c_asked2 B F X N hTF T hk hd hu hs h7 hte XB TB ktsDicts_nil fun g' q v n h' tk tn T' _ _ _ _ F' N' hv => ?_
    rcases hv with ⟨al, rfl⟩ | ⟨rfl, z, tv, rfl⟩
    · exact h1 q n h' tk tn (fr_back T' F') (news_back T' N') al.1 al.2
    · exact h2 rfl z q h' tk tn tv (fr_back T' F') (news_back T' N')
theorem iter_ne {l : Addr} {oI o : Obj} {v : Array Value} {x : Str} {k : Tok} (hI : IterO l oI) (hd : o.data = .fields v) (hv : v[1]? = some (.str x k)) : o ≠ oI := fun z => by
  obtain ⟨j, hj⟩ := hI
  rw [z, hj] at hd
  cases hd
  cases hv
theorem tf_drop {g h : Heap} {L I l : Addr} {oI : Obj} {R : List (Addr × Obj)} (N : News g L h R) (hI : (I, oI) ∈ R) (hO : IterO l oI) (hT : TabFull R) : TabFull (drop I R) := by
  obtain ⟨c1, c2, c3, o1, o2, o3, v1, v2, v3, k1, k2, k3, g0, g1, d1, e1, g2, d2, e2, g3, d3, e3⟩ := hT
  exact .mk c1 c2 c3 o1 o2 o3 v1 v2 v3 k1 k2 k3 (mem_drop.mpr ⟨g0, N.twoPlaces g0 hI fun z => by
    obtain ⟨j, hj⟩ := hO
    have z' : tabObj _ = oI := z
    rw [← z'] at hj
    cases hj⟩) (mem_drop.mpr ⟨g1, N.twoPlaces g1 hI (iter_ne hO d1 e1)⟩) d1 e1 (mem_drop.mpr ⟨g2, N.twoPlaces g2 hI (iter_ne hO d2 e2)⟩) d2 e2 (mem_drop.mpr ⟨g3, N.twoPlaces g3 hI (iter_ne hO d3 e3)⟩) d3 e3
theorem list_drop {g h : Heap} {L I l : Addr} {oI : Obj} {vs : Array Value} {nn : Nat} {R : List (Addr × Obj)} (N : News g L h R) (hI : (I, oI) ∈ R) (hO : IterO l oI) (hl : (l, listOf vs nn) ∈ R) : (l, listOf vs nn) ∈ drop I R :=
  mem_drop.mpr ⟨hl, N.twoPlaces hl hI fun z => by
    obtain ⟨j, hj⟩ := hO
    have z' : listOf vs nn = oI := z
    rw [← z'] at hj
    cases hj⟩
theorem news_drop {g h : Heap} {L I : Addr} {oI : Obj} {R : List (Addr × Obj)} (N : News g L h R) (hI : (I, oI) ∈ R) : News g L h ((I, oI) :: drop I R) := to_drop N hI
end Mine
end

section
open PySem PySem.W PyProof.Rows
set_option maxRecDepth 100000
namespace Mine
set_option maxHeartbeats 8000000 in
theorem c_iaddB (w : World) (a b : Array UInt8) (ta tb : Tok) (hs : a.size + b.size ≤ 16777216) : PureC w 153 [.bytes a ta, .bytes b tb] (fun v => ∃ t, v = .bytes (a ++ b) t) := by
  w_top off
  k_with_none
  k_with "inplaceOp" =>
    ((k_here; (with_reducible show wpAny _ _ (inplaceOp Operator.Add (Value.bytes _ _) (Value.bytes _ _)) _ _ _); (refine iadd_bytes (by first | assumption | omega) ?_); intro _ _))
  unfold PureC
  k_fill
  intro p loose mean mg mb dp un gd cn cs a ccd cl outer A₀ base h₀ L m news s Q E B F X N T hk hd hu hret
  refine wpAny_call ?_
  k_dflt ktr_enter
  k_steps
  exact hret _ _ _ ⟨_, rfl⟩ (by k_asm) (by k_asm)
set_option maxHeartbeats 8000000 in
theorem c_iaddI (w : World) (a b : Int) (ta tb : Tok) : PureC w 153 [.int a ta, .int b tb] (fun v => ∃ t, v = .int (a + b) t) := by
  w_top off
  k_with_none
  k_with "inplaceOp" =>
    ((k_here; (with_reducible show wpAny _ _ (inplaceOp Operator.Add (Value.bytes _ _) (Value.bytes _ _)) _ _ _); (refine iadd_bytes (by first | assumption | omega) ?_); intro _ _))
  unfold PureC
  k_fill
  intro p loose mean mg mb dp un gd cn cs a ccd cl outer A₀ base h₀ L m news s Q E B F X N T hk hd hu hret
  refine wpAny_call ?_
  k_dflt ktr_enter
  k_steps
  exact hret _ _ _ ⟨_, rfl⟩ (by k_asm) (by k_asm)
end Mine
end

section
open PySem PySem.W PySem.Calls PyProof.Rows PySem.Spec
set_option maxRecDepth 100000
namespace Mine
section
variable {w : World} {p : Program} {loose : List Str} {mean : ExcName → Option Value} {mg mb : Str → Option Value} {dp un : Nat} {gd : Option (List Code)} {cn : Str} {cs : Scope} {a : Addr} {ccd : Value} {cl : List (Str × Addr)} {outer : List Env} {A₀ : Around} {base h₀ : Heap} {L : Addr} {m : Str → Option Value} {news : List (Addr × Obj)} {s : Shared} {Q E : Value → Shared → Prop}
theorem PureC.use {f : Addr} {vs : List Value} {Post : Value → Prop} (c : PureC w f vs Post) (B : Below A₀ base outer h₀) (F : Fr h₀ L s.heap m) (X : (Mine.hd.heap_39 w.params).In h₀) (N : News h₀ L s.heap news) (T : Top p loose mean mg mb h₀) (hk : cs.kind = .function) (hd : dp + 20 < recursionLimit) (hu : un + 400 < cLine)
    (h : ∀ v h' tk', Post v → Fr h₀ L h' m → News h₀ L h' news → Q v { s with heap := h', toks := tk' }) :
    wpAny (model Challenge.rw_kl0460_01.row.prog w) (ktrTop dp un gd cn cs L a ccd cl outer) (call (.ref f) vs) Q E s :=
  c p loose mean mg mb dp un gd cn cs a ccd cl outer A₀ base h₀ L m news s Q E B F X N T hk hd hu h
theorem piece_U {row : Array UInt8} {tr tn : Tok} {n : Int} (hs : row.size ≤ 1000) (h7 : No7 row) (B : Below A₀ base outer h₀) (F : Fr h₀ L s.heap m) (X : (Mine.hd.heap_39 w.params).In h₀) (N : News h₀ L s.heap news) (T : Top p loose mean mg mb h₀) (hk : cs.kind = .function) (hd : dp + 20 < recursionLimit) (hu : un + 400 < cLine)
    (h : ∀ pc t h' tk', pc.size ≤ 22 → No7 pc → Fr h₀ L h' m → News h₀ L h' news → Q (.bytes pc t) { s with heap := h', toks := tk' }) :
    wpAny (model Challenge.rw_kl0460_01.row.prog w) (ktrTop dp un gd cn cs L a ccd cl outer) (call (.ref 160) [.bytes row tr, .int n tn]) Q E s :=
  (c_piece w row tr n tn hs h7).use B F X N T hk hd hu fun v h' tk' pv F' N' => by
    obtain ⟨pc, t, rfl, h1, h2⟩ := pv
    exact h pc t h' tk' h1 h2 F' N'
theorem iadd_U {x y : Array UInt8} {tx ty : Tok} (hs : x.size + y.size ≤ 16777216) (B : Below A₀ base outer h₀) (F : Fr h₀ L s.heap m) (X : (Mine.hd.heap_39 w.params).In h₀) (N : News h₀ L s.heap news) (T : Top p loose mean mg mb h₀) (hk : cs.kind = .function) (hd : dp + 20 < recursionLimit) (hu : un + 400 < cLine)
    (h : ∀ t h' tk', Fr h₀ L h' m → News h₀ L h' news → Q (.bytes (x ++ y) t) { s with heap := h', toks := tk' }) :
    wpAny (model Challenge.rw_kl0460_01.row.prog w) (ktrTop dp un gd cn cs L a ccd cl outer) (call (.ref 153) [.bytes x tx, .bytes y ty]) Q E s :=
  (c_iaddB w x y tx ty hs).use B F X N T hk hd hu fun v h' tk' pv F' N' => by
    obtain ⟨t, rfl⟩ := pv
    exact h t h' tk' F' N'
theorem due_U {b : Array UInt8} {tb : Tok} (hs : b.size ≤ 1000) (B : Below A₀ base outer h₀) (F : Fr h₀ L s.heap m) (X : (Mine.hd.heap_39 w.params).In h₀) (N : News h₀ L s.heap news) (T : Top p loose mean mg mb h₀) (hk : cs.kind = .function) (hd : dp + 20 < recursionLimit) (hu : un + 400 < cLine)
    (h : ∀ h' tk', Fr h₀ L h' m → News h₀ L h' news → Q (.bool (dueB b)) { s with heap := h', toks := tk' }) :
    wpAny (model Challenge.rw_kl0460_01.row.prog w) (ktrTop dp un gd cn cs L a ccd cl outer) (call (.ref 179) [.bytes b tb]) Q E s :=
  (c_due w b tb hs).use B F X N T hk hd hu fun v h' tk' pv F' N' => by
    subst pv
    exact h h' tk' F' N'
end
theorem no7_append {x y : Array UInt8} (hx : No7 x) (hy : No7 y) : No7 (x ++ y) := fun z hz => by
  rw [Array.toList_append] at hz
  exact (List.mem_append.mp hz).elim (hx z) (hy z)
theorem picked_size1 {b : Array UInt8} {lo hi : Option Int} (hs : b.size ≤ 1000) : (KBy.picked b lo hi).size ≤ 1000 := by
  rw [KBc.picked_eq, List.size_toArray, List.length_take, List.length_drop, Array.length_toList]
  omega
section
variable {w : World} {p : Program} {loose : List Str} {mean : ExcName → Option Value} {mg mb : Str → Option Value} {dp un : Nat} {gd : Option (List Code)} {cn : Str} {cs : Scope} {a : Addr} {ccd : Value} {cl : List (Str × Addr)} {outer : List Env} {A₀ : Around} {base h₀ : Heap} {L : Addr} {m : Str → Option Value} {news : List (Addr × Obj)} {s : Shared} {Q E : Value → Shared → Prop}
theorem iaddRow_U {x y : Array UInt8} {tx ty : Tok} (hs : x.size ≤ 900) (h7 : No7 x) (hs' : y.size ≤ 22) (h7' : No7 y) (B : Below A₀ base outer h₀) (F : Fr h₀ L s.heap m) (X : (Mine.hd.heap_39 w.params).In h₀) (N : News h₀ L s.heap news) (T : Top p loose mean mg mb h₀) (hk : cs.kind = .function) (hd : dp + 20 < recursionLimit) (hu : un + 400 < cLine)
    (h : ∀ z t h' tk', z.size ≤ x.size + 22 → z.size ≤ 1000 → No7 z → Fr h₀ L h' m → News h₀ L h' news → Q (.bytes z t) { s with heap := h', toks := tk' }) :
    wpAny (model Challenge.rw_kl0460_01.row.prog w) (ktrTop dp un gd cn cs L a ccd cl outer) (call (.ref 153) [.bytes x tx, .bytes y ty]) Q E s :=
  iadd_U (by omega) B F X N T hk hd hu fun t h' tk' F' N' => h (x ++ y) t h' tk' (by rw [Array.size_append]; omega) (by rw [Array.size_append]; omega) (no7_append h7 h7') F' N'
end
theorem turn_end {g h : Heap} {L I l : Addr} {oI : Obj} {vs : Array Value} {nn : Nat} {p1 p2 : Addr × Obj} {R R9 : List (Addr × Obj)} (N : News g L h (p1 :: p2 :: R9)) (sub9 : ∀ p ∈ (I, oI) :: R, p.1 ≠ 162 → p ∈ R9) (TF9 : TabFull R9) (hO : IterO l oI) (hI : I ≠ 162) (hl : l ≠ 162) (hlR : (l, listOf vs nn) ∈ R) :
    ∃ nx, News g L h ((I, oI) :: nx) ∧ (∀ p ∈ nx, p.1 ≠ I) ∧ (l, listOf vs nn) ∈ nx ∧ TabSt nx := by
  have up : ∀ p ∈ R9, p ∈ p1 :: p2 :: R9 := fun p hp => List.mem_cons_of_mem _ (List.mem_cons_of_mem _ hp)
  have mI := up _ (sub9 _ (List.mem_cons_self ..) hI)
  have ml := up _ (sub9 _ (List.mem_cons_of_mem _ hlR) hl)
  exact ⟨_, news_drop N mI, drop_ne, list_drop N mI hO ml, .inr (tf_drop N mI hO (TF9.mono up))⟩
theorem bne_refl_no {α : Type} [BEq α] [LawfulBEq α] {x : α} (h : (x != x) = true) : False := by
  rw [bne_self_eq_false] at h
  cases h
def lawStmt : Stmt := stmtAt Challenge.pw_kl0460_01.main.body 36
def forBody : Stmt → List Stmt
  | .For _ _ b _ _ => b
  | _ => []
def lawBody : List Stmt := forBody (stmtAt (fBody lawStmt) 1)
end Mine
end

section
open PySem PySem.W PySem.Calls PyProof.Rows
set_option maxRecDepth 100000
namespace Mine
local macro_rules | `(tactic| units_room) => `(tactic| ktr_units)
local macro_rules | `(tactic| k_room) => `(tactic| ktr_room)
local macro_rules | `(tactic| k_all) => `(tactic| first | assumption | exact ne_all (by assumption) | exact ne_lt (by assumption))
local macro_rules | `(tactic| k_lt $h:ident) => `(tactic| skip)
set_option maxHeartbeats 2000000 in
theorem c_turn {w : World} {p : Program} {loose : List Str} {mean : ExcName → Option Value} {mg mb : Str → Option Value} {fa : Addr} {cd : Value} {base h₀ : Heap} {L : Addr} {m : Str → Option Value} {R : List (Addr × Obj)} {s : Shared} {Q : Flow → Shared → Prop} {E : Value → Shared → Prop}
    {I l : Addr} {oI : Obj} {vs : Array Value} {nn : Nat} {row : Array UInt8} {n : Int} {tn tr : Tok} :
    Below callerA base [] h₀ → Fr h₀ L s.heap (fun y => if y = Str.ofString "number" then some (.int n tn) else if y = Str.ofString "row" then some (.bytes row tr) else m y) → (Mine.hd.heap_39 w.params).In h₀ → News h₀ L s.heap ((I, oI) :: R) → TabSt ((I, oI) :: R) → Top p loose mean mg mb h₀ →
    row.size ≤ 900 → No7 row → 0 ≤ n → n < 10 ^ 30 → (Mine.hd.heap_39 w.params).In base → Top p loose mean mg mb base →
    IterO l oI → (∀ p ∈ R, p.1 ≠ I) → I ≠ 162 → l ≠ 162 → (l, listOf vs nn) ∈ R →
    (∀ h' tk m' nx row' tr', Fr h₀ L h' m' → News h₀ L h' ((I, oI) :: nx) → (∀ p ∈ nx, p.1 ≠ I) → (l, listOf vs nn) ∈ nx → TabSt nx → m' (Str.ofString "row") = some (.bytes row' tr') → row'.size ≤ row.size + 22 → No7 row' → Q .next { s with heap := h', toks := tk }) →
    wpAny (model Challenge.rw_kl0460_01.row.prog w) (callerA.deeper (envOf (Str.ofString "law") (fScope lawStmt) L fa cd)) (execs lawBody (envOf (Str.ofString "law") (fScope lawStmt) L fa cd)) Q E s := by
  w_top off
  k_with_none
  k_with "call ref" =>
    ((k_here; (with_reducible show wpAny _ _ (call (Value.ref 160) _) _ _ _); k_dflt (refine' piece_U ?z9ahs ?z9ah7 ?z9aB ?z9aF ?z9aX ?z9aN ?z9aT ?z9ak ?z9ad ?z9au (fun pc9 t9 h9 tk9 ps9 p79 F9 N9 => ?_); (case z9aF => k_asm); (case z9aB => k_asm); (case z9aX => k_asm); (case z9aN => k_asm); (case z9aT => k_asm); (case z9ak => rfl); (case z9ad => ktr_room); (case z9au => ktr_units); (case z9ahs => with_reducible assumption); (case z9ah7 => with_reducible assumption))))
  k_with "call ref" =>
    ((k_here; (with_reducible show wpAny _ _ (call (Value.ref 153) _) _ _ _); k_dflt (refine' iaddRow_U ?z9bs1 ?z9bs2 ?z9bs3 ?z9bs4 ?z9bB ?z9bF ?z9bX ?z9bN ?z9bT ?z9bk ?z9bd ?z9bu (fun row9 t9 h9 tk9 z9 y9 o9 F9 N9 => ?_); (case z9bF => k_asm); (case z9bB => k_asm); (case z9bX => k_asm); (case z9bN => k_asm); (case z9bT => k_asm); (case z9bk => rfl); (case z9bd => ktr_room); (case z9bu => ktr_units); (case z9bs1 => with_reducible assumption); (case z9bs2 => with_reducible assumption); (case z9bs3 => with_reducible assumption); (case z9bs4 => with_reducible assumption))))
  k_with "call ref" =>
    ((k_here; (with_reducible show wpAny _ _ (call (Value.ref 179) _) _ _ _); k_dflt (refine' due_U ?z9chs ?z9cB ?z9cF ?z9cX ?z9cN ?z9cT ?z9ck ?z9cd ?z9cu (fun h9 tk9 F9 N9 => ?_); (case z9cF => k_asm); (case z9cB => k_asm); (case z9cX => k_asm); (case z9cN => k_asm); (case z9cT => k_asm); (case z9ck => rfl); (case z9cd => ktr_room); (case z9cu => ktr_units); (case z9chs => first | with_reducible assumption | exact picked_size1 (by with_reducible assumption)))))
  k_with "call ref" =>
    ((k_here; (with_reducible show wpAny _ _ (call (Value.ref 167) _) _ _ _); k_dflt (refine' c_fileT ?z9dB ?z9dF ?z9dX ?z9dN ?z9dtf ?z9dT ?z9dk ?z9dd ?z9du (fun d9 x9 s9 r9 R9 h9 tk9 a1 a2 a3 a4 tn9 to9 F9 N9 off9 St9 TF9 sub9 => ?_); (case z9dF => k_asm); (case z9dB => k_asm); (case z9dX => k_asm); (case z9dN => k_asm); (case z9dT => k_asm); (case z9dk => rfl); (case z9dd => ktr_room); (case z9du => ktr_units); (case z9dtf => with_reducible assumption))))
  k_with "call ref" =>
    ((k_here; (with_reducible show wpAny _ _ (call (Value.ref 146) _ _) _ _ _); k_dflt (refine' c_callL ?z9eB ?z9eF ?z9eX ?z9eN ?z9eoff ?z9eT ?z9ek ?z9ed ?z9eu ?z9eSt ?z9es ?z9eh7 ?z9eal ?z9eXB ?z9eTB (fun n9 o9 h9 tk9 tn9 to9 F9 N9 => ?_); (case z9eF => k_asm); (case z9eB => k_asm); (case z9eX => k_asm); (case z9eN => k_asm); (case z9eT => k_asm); (case z9ek => rfl); (case z9ed => ktr_room); (case z9eu => ktr_units); (case z9eoff => with_reducible assumption); (case z9eSt => with_reducible assumption); (case z9es => with_reducible assumption); (case z9eh7 => with_reducible assumption); (case z9eal => exact al_zero (by decide)); (case z9eXB => k_asm); (case z9eTB => k_asm))))
  k_with "call ref" =>
    ((k_here; (with_reducible show wpAny _ _ (call (Value.ref 174) _) _ _ _); k_dflt (refine' c_askedL ?z9fB ?z9fF ?z9fX ?z9fN ?z9ftf ?z9fT ?z9fk ?z9fd ?z9fu ?z9fs ?z9fh7 ?z9fte ?z9fw0 ?z9fw2 ?z9fXB ?z9fTB (fun q9 n9 h9 tk9 tn9 F9 N9 l9 m9 => ?_) (fun w9 z9 q9 h9 tk9 tn9 tv9 F9 N9 => ?_) (fun w9 z9 q9 h9 tk9 tn9 F9 N9 => ?_); (case z9fF => k_asm); (case z9fB => k_asm); (case z9fX => k_asm); (case z9fN => k_asm); (case z9fT => k_asm); (case z9fk => rfl); (case z9fd => ktr_room); (case z9fu => ktr_units); (case z9ftf => exact TabFull.mono (fun p hp => List.mem_cons_of_mem _ hp) (by with_reducible assumption)); (case z9fs => exact picked_size1 (by with_reducible assumption)); (case z9fh7 => exact no7_picked (by with_reducible assumption)); (case z9fte => exact Int.fmod_nonneg_of_pos _ (by decide)); (case z9fw0 => exact Int.fmod_nonneg_of_pos _ (by decide)); (case z9fw2 => exact Int.fmod_lt_of_pos _ (by decide)); (case z9fXB => k_asm); (case z9fTB => k_asm))))
  k_with "subscriptTail" =>
    ((k_here; (with_reducible show wpAny _ _ (subscriptTail _ (Expr.Slice _ _ none _) (Value.bytes _ _) (Value.ref _)) _ _ _); (with_reducible rename Fr _ _ _ _ => F'); (with_reducible rename News _ _ _ _ => N'); (refine slice_bytes (s := ⟨_, _, _, _, _⟩) F' N' (by constructor) (by constructor) (by omega) ?_); intro _ _ _ F' N'))
  k_fill
  intro B F X N hT T hs h7 hn0 hn1 XB TB hO hoff hI hl hlR hret
  have eb : lawBody = lawBody := rfl
  conv at eb => rhs; whnf
  have es : fScope lawStmt = fScope lawStmt := rfl
  conv at es => rhs; whnf
  simp only [eb, es]
  (try dsimp only); (try k_fold)
  clear eb es
  have hs9 : row.size ≤ 1000 := Nat.le_trans hs (by decide)
  k_steps
  all_goals first
    | exact (bne_refl_no (by with_reducible assumption)).elim
    | exact absurd (show _ = (2 : Int) from by with_reducible assumption) (by with_reducible assumption)
    | (obtain ⟨nx, e1, e2, e3, e4⟩ := turn_end (by with_reducible assumption) (by with_reducible assumption) (by with_reducible assumption) hO hI hl hlR
       exact hret _ _ _ nx _ _ (by with_reducible assumption) e1 e2 e3 e4 rfl (by with_reducible assumption) (by with_reducible assumption))


end Mine
end

section
open PySem PySem.W PySem.Calls PyProof.Rows
set_option maxRecDepth 100000
namespace Mine
def LawJ (l : Addr) (vs : Array Value) (nn : Nat) (i : Nat) (m : Str → Option Value) (nx : List (Addr × Obj)) : Prop :=
  (l, listOf vs nn) ∈ nx ∧ TabSt nx ∧ ∃ row t, m (Str.ofString "row") = some (.bytes row t) ∧ row.size ≤ 22 * i ∧ No7 row
theorem number_ok {ks ns : List Int} {i : Nat} {n : Int} (e : ns = (ks.map fun k => k.fmod (10 ^ Int.toNat 30)) ++ [1, 330, 3, 4, 618]) (h : ns[i]? = some n) : 0 ≤ n ∧ n < 10 ^ 30 := by
  have hm := List.mem_of_getElem? h
  rw [e] at hm
  rcases List.mem_append.mp hm with hm | hm
  · obtain ⟨k, _, rfl⟩ := List.mem_map.mp hm
    have e2 : (10 : Int) ^ Int.toNat 30 = 10 ^ 30 := rfl
    rw [e2]
    exact ⟨Int.fmod_nonneg_of_pos _ (by decide), Int.fmod_lt_of_pos _ (by decide)⟩
  · simp only [List.mem_cons, List.not_mem_nil, or_false] at hm
    rcases hm with rfl | rfl | rfl | rfl | rfl <;> decide
theorem index_ok {ks ns : List Int} {i : Nat} {n : Int} (e : ns = (ks.map fun k => k.fmod (10 ^ Int.toNat 30)) ++ [1, 330, 3, 4, 618]) (hk : ks.length ≤ 6) (h : ns[i]? = some n) : i ≤ 10 := by
  have hi := (List.getElem?_eq_some_iff.mp h).1
  rw [e, List.length_append, List.length_map] at hi
  simp only [List.length_cons, List.length_nil] at hi
  omega
theorem row_map {m : Str → Option Value} {row : Array UInt8} {t tn : Tok} {n : Int} (h : m (Str.ofString "row") = some (.bytes row t)) :
    (fun y => if y = Str.ofString "number" then some (Value.int n tn) else m y) = fun y => if y = Str.ofString "number" then some (.int n tn) else if y = Str.ofString "row" then some (.bytes row t) else m y := by
  funext y
  by_cases h1 : y = Str.ofString "number"
  · simp only [h1, if_true]
  · simp only [if_neg h1]
    by_cases h2 : y = Str.ofString "row"
    · simp only [h2, if_true]; exact h
    · simp only [if_neg h2]
theorem tab_of {l : List (Addr × Obj)} (h : TabSt l) : ∃ ps, (162, tabObj ps) ∈ l := by
  rcases h with h | h
  · exact ⟨_, h⟩
  · cases h with
    | mk _ _ _ _ _ _ _ _ _ _ _ _ h0 => exact ⟨_, h0⟩
theorem c_loop {w : World} {p : Program} {loose : List Str} {mean : ExcName → Option Value} {mg mb : Str → Option Value} {fa : Addr} {cd : Value} {base h₀ : Heap} {L : Addr} {m : Str → Option Value} {R : List (Addr × Obj)} {s : Shared} {Q : Flow → Shared → Prop} {E : Value → Shared → Prop}
    {l : Addr} {vs : List Value} {nn : Nat} {ns ks : List Int} {tr : Tok} (B : Below callerA base [] h₀) (F : Fr h₀ L s.heap m) (X : (Mine.hd.heap_39 w.params).In h₀) (N : News h₀ L s.heap R) (T : Top p loose mean mg mb h₀) (XB : (Mine.hd.heap_39 w.params).In base) (TB : Top p loose mean mg mb base)
    (hT : (162, tabObj #[]) ∈ R) (hlR : (l, listOf vs.toArray nn) ∈ R) (hl : l ≠ 162) (hI : IntsAre vs ns) (e : ns = (ks.map fun k => k.fmod (10 ^ Int.toNat 30)) ++ [1, 330, 3, 4, 618]) (hk : ks.length ≤ 6) (hrow : m (Str.ofString "row") = some (.bytes #[] tr))
    (h : ∀ h' tk m' ps, Fr h₀ L h' m' → News h₀ L h' [(162, tabObj ps)] → Q .next { s with heap := h', toks := tk }) :
    wpAny (model Challenge.rw_kl0460_01.row.prog w) (callerA.deeper (envOf (Str.ofString "law") (fScope lawStmt) L fa cd)) (pyIter (.ref l))
      (fun it s₂ => LoopAtV Challenge.rw_kl0460_01.row.prog w (callerA.deeper (envOf (Str.ofString "law") (fScope lawStmt) L fa cd)) h₀ (envOf (Str.ofString "law") (fScope lawStmt) L fa cd) (Str.ofString "number") lawBody Q E it s₂) E s := by
  refine iter_R (env := envOf (Str.ofString "law") (fScope lawStmt) L fa cd) (LawJ l vs.toArray nn) rfl hlR hI F N ⟨hlR, .inl hT, _, _, hrow, Nat.le_refl _, fun x hx => nomatch hx⟩ (fun i m nx j => j.1) ?_ fun m₁ nx h' tk hJ F' N' => ?_
  rotate_left
  · obtain ⟨ps, hp⟩ := tab_of hJ.2.1
    exact h h' tk m₁ ps F' (N'.perm fun q hq => by rw [List.mem_singleton.mp hq]; exact hp)
  intro i n t m₁ news₁ h' tk I oI hn hO hJ hoff F₁ N₁
  obtain ⟨ml, mt, row, trr, hr, hs, h7⟩ := hJ
  have hn2 := number_ok e hn
  have hi := index_ok e hk hn
  have F₁' : Fr h₀ L h' _ := (row_map (n := n) (tn := t) hr) ▸ F₁
  have hI2 : I ≠ 162 := by
    rcases mt with mt | mt
    · exact fun z => hoff _ mt z.symm
    · cases mt with
      | mk _ _ _ _ _ _ _ _ _ _ _ _ h0 => exact fun z => hoff _ h0 z.symm
  have mt' : TabSt ((I, oI) :: news₁) := by
    rcases mt with mt | mt
    · exact .inl (List.mem_cons_of_mem _ mt)
    · exact .inr (mt.mono fun p hp => List.mem_cons_of_mem _ hp)
  refine c_turn B F₁' X N₁ mt' T (by omega) h7 hn2.1 hn2.2 XB TB hO hoff hI2 hl ml fun h'' tk'' m' nx row' tr' F2 N2 o2 l2 t2 r2 s2 z2 => ?_
  exact ⟨h'', tk'', m', nx, rfl, F2, N2, o2, l2, t2, row', tr', r2, by omega, z2⟩
end Mine
end

open PySem PySem.W PySem.Calls PyProof.Rows
set_option maxRecDepth 100000
namespace Mine
inductive Hold (P : Prop) : Prop
  | mk (h : P)
theorem hold_ {P : Prop} (h : Hold P) : P := h.1
end Mine
set_option maxRecDepth 100000 in
set_option maxHeartbeats 8000000 in
theorem PySem.Challenge.cw_kl0460_01_holds : PySem.Challenge.rw_kl0460_01.Holds := by
  w_top off
  k_with_none
  k_with "exec For Name BinOp cons nil" =>
    ((k_here; (rename Fr _ _ _ _ => lF'); (with_unfolding_all refine' For_invVF lF' ?z9ak1 ?z9ak2 ?_; (case z9ak1 => exact rfl); (case z9ak2 => exact rfl); k_whole)))
  k_with "pyIter ref" =>
    ((k_here; apply Mine.hold_))
  refine Mine.hd ?_
  k_go0
  (all_goals try k_fold)
  k_steps
  refine Mine.Hold.mk ?_
  rename Fr _ _ _ _ => lF
  rename News _ _ _ _ => lN
  refine' Mine.c_loop ?z_B ?z_F ?z_X ?z_N ?z_T ?z_XB ?z_TB ?z_hT ?z_hl ?z_l ?z_I ?z_e ?z_k ?z_r (fun h9 tk9 m9 nx9 F9 N9 => ?_)
  (case z_B => k_asm)
  (case z_F => exact lF)
  (case z_X => k_asm)
  (case z_N => exact lN)
  (case z_T => k_asm)
  (case z_XB => k_asm)
  (case z_TB => k_asm)
  (case z_hT => repeat' (first | with_reducible exact List.mem_cons_self .. | apply List.mem_cons_of_mem))
  (case z_hl => repeat' (first | with_reducible exact List.mem_cons_self .. | apply List.mem_cons_of_mem))
  (case z_l => exact Nat.ne_of_gt (by omega))
  (case z_I => assumption)
  (case z_e => exact rfl)
  (case z_k => exact List.length_take_le ..)
  (case z_r => exact rfl)
  clear lF lN
  dsimp only
  walk1
  walk1
  walk1
  walk1
  · (k_end; wrow_close)
  · walk1

