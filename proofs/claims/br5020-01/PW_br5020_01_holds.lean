import PyProof.Rows.All
import Wide.All
import OpenK.AllK
import Wide.FinOn
import Lean
import PySem.Challenge.RW_br5020_01
set_option Elab.async false
set_option linter.unusedVariables false
set_option linter.unusedSimpArgs false

section
open PySem PySem.W PyProof.Rows
namespace Mine
set_option maxRecDepth 100000 in
set_option maxHeartbeats 0 in
open_top hd for PySem.Challenge.rw_br5020_01
end Mine
end

section
open PySem PySem.W PySem.Calls PyProof.Rows
namespace Mine

def TextOk (T : Str) : Prop := T.length ≤ 420 ∧ ∀ c ∈ T.cps.toList, c < 128 ∧ c ≠ 38
def plainF (T : Str) : Str := Txt.replace (Txt.replace (Txt.replace T (Str.ofString "<") (Str.ofString "&lt;")) (Str.ofString ">") (Str.ofString "&gt;")) (Str.ofString "\"") (Str.ofString "&quot;")
def isPiece (x : Str) : Prop := x.length ≤ 30 ∧ ∀ c ∈ x.cps.toList, c < 128 ∧ c ≠ 38

end Mine
end

section
open PySem PySem.W PySem.Calls PyProof.Rows
set_option maxRecDepth 100000
namespace Mine

section
variable {h₀ h h' : Heap} {L S : Addr} {m : Str → Option Value} {news : List (Addr × Obj)} {g : Obj → List (Addr × Obj)} {o o' : Obj}
theorem fr_ext (F : Fr h₀ L h m) (hk : ∀ b x, b ≠ S → h.get? b = some x → h'.get? b = some x) (hS : S ≠ L) (hn : h₀.get? S = none) : Fr h₀ L h' m := by
  obtain ⟨oL, es, ep, hL, r⟩ := F.ns
  refine ⟨⟨oL, es, ep, hk _ _ (Ne.symm hS) hL, r⟩, fun b x e => hk b x (fun z => ?_) (F.keep b x e), F.above⟩
  rw [z, hn] at e; cases e
theorem news_ext (N : News h₀ L h news) (U : UpdF S o news g) (hk : ∀ b x, b ≠ S → h.get? b = some x → h'.get? b = some x) (hs : h'.get? S = some o') : News h₀ L h' (g o') := by
  obtain ⟨pre, post, rfl, hg, h1, h2⟩ := U.split
  rw [hg]
  intro p hp
  rcases List.mem_append.mp hp with q | q
  · have P := N p (List.mem_append_left _ q); exact ⟨hk _ _ (h1 p q) P.1, P.2⟩
  · rcases List.mem_cons.mp q with rfl | q
    · exact ⟨hs, (N (S, o) (List.mem_append_right _ (.head _))).2⟩
    · have P := N p (List.mem_append_right _ (.tail _ q)); exact ⟨hk _ _ (h2 p q) P.1, P.2⟩
theorem upd_mem (U : UpdF S o news g) : (S, o) ∈ news := by
  obtain ⟨pre, post, rfl, _⟩ := U.split
  exact List.mem_append_right _ (.head _)
end

section
variable {prog : Program} {w : World} {A : Around} {E : Value → Shared → Prop} {s : Shared}
theorem hint_bytes {b : Array UInt8} {t : Tok} {Q : Bool → Shared → Prop} (h : Q false s) : wpAny (model prog w) A (Builtin.List.listLengthHint (.bytes b t)) Q E s := by
  unfold Builtin.List.listLengthHint
  refine wpAny_bind (wpAny_specialOf (typeIs_bytes s b t) FB.slot_bytes_len.lookup ?_)
  generalize hid : ("bytes.__len__" : String) = id0
  wp_delta
  rw [show splitId id0 = some ("bytes", "__len__") from by subst hid; decide +kernel]
  subst hid
  refine wpAny_bind (wpAny_isInstance (T := "bytes") (b := true) (typeIs_bytes s b t) (by rw [isSubtype_type]; kernel_rfl) ?_)
  refine wpAny_ite_split (fun hab => absurd hab (by decide)) (fun _ => ?_)
  refine wpAny_ite_split (fun _ => ?_) (fun hab => absurd (by decide +kernel) hab)
  refine wpAny_bind (wpAny_typeOf (typeIs_bytes s b t) ?_)
  exact wpAny_pure h


theorem ext1 {h₀ : Heap} {L S : Addr} {m : Str → Option Value} {news : List (Addr × Obj)} {g : Obj → List (Addr × Obj)} {its : List Value} {n : Nat} {c : UInt8} {tb : Tok} {Q : Value → Shared → Prop} (hh : A.handled = none)
    (F : Fr h₀ L s.heap m) (N : News h₀ L s.heap news) (U : UpdF S (listOf its.toArray n) news g) (hz : its.length ≤ 100)
    (h : ∀ t n' h' tk', Fr h₀ L h' m → News h₀ L h' (g (listOf (its ++ [Value.int (c.toNat : Int) t]).toArray n')) → Q .none { s with heap := h', toks := tk' }) :
    wpAny (model prog w) A (call (.builtin "list.extend") [.ref S, .bytes #[c] tb]) Q E s := by
  have hS := N _ (upd_mem U)
  have hT : s.TypeIs (.ref S) "list" := ⟨_, hS.1, rfl⟩
  have hSI : S ≠ s.heap.objs.size := Nat.ne_of_lt (Heap.lt_size hS.1)
  -- the loop, from a heap where the iterator stands at 0
  have key : ∀ (h₁ : Heap) (n₁ tk : Nat), (∀ b x, b ≠ S → s.heap.get? b = some x → h₁.get? b = some x) → KBw.IsBytesIter h₁ s.heap.objs.size #[c] tb 0 → h₁.get? S = some (listOf its.toArray n₁) →
      codeAny (model prog w) A (.builtin "list.extend.loop" ⟨[.ref S, .ref s.heap.objs.size, .none], []⟩) (wants Q E) { s with heap := h₁, toks := tk } := by
    intro h₁ n₁ tk hk hit hS₁
    refine codeAny_builtin PySem.F.entry_extend_loop ?_
    rw [Around.under_plainId PySem.F.plain_extend_loop _]
    show wpAny _ A.in1 (pyNext (.ref s.heap.objs.size) >>= _) _ _ _
    refine wpAny_bind (KBw.next_item hit (c := c) rfl fun h₂ hit₂ hs₂ => ?_)
    have hS₂ := (hs₂.2 S hSI).trans hS₁
    show wpAny _ A.in1 (updateSeq S (·.push _) >>= _) _ _ _
    refine wpAny_bind ?_
    refine wpAny_updateSeq hS₂ rfl (wpAny_pure ⟨plainId_quiet PySem.F.plain_extend_loop _, ?_⟩) (by rw [List.size_toArray, sizeLine_eq]; omega) (by show (Array.push _ _).size ≤ sizeLine + 1; rw [Array.size_push, List.size_toArray, sizeLine_eq]; omega)
    have hS₃ := Heap.get?_update_self (Obj.mapSeq (·.push (Value.int (c.toNat : Int) tk))) hS₂ rfl
    refine codeAny_builtin PySem.F.entry_extend_loop ?_
    rw [Around.under_plainId PySem.F.plain_extend_loop _]
    show wpAny _ A.in1 (pyNext (.ref s.heap.objs.size) >>= _) _ _ _
    refine wpAny_bind (KBw.next_end hh (b := #[c]) (t := tb) (i := 1) ?_ rfl fun h₃ he₃ => ?_)
    · obtain ⟨o, e1, e2⟩ := hit₂
      exact ⟨o, (Heap.get?_update_other _ _ hSI).trans e1, e2⟩
    · refine wpAny_pure ?_
      have hk' : ∀ b x, b ≠ S → s.heap.get? b = some x → h₃.get? b = some x := fun b x hb e => by
        have hbI : b ≠ s.heap.objs.size := Nat.ne_of_lt (Heap.lt_size e)
        exact he₃ b x hbI ((Heap.get?_update_other _ _ (Ne.symm hb)).trans ((hs₂.2 b hbI).trans (hk b x hb e)))
      refine h tk (n₁ + 1) h₃ _ (fr_ext F hk' hS.2.1 hS.2.2) (news_ext N U hk' ((he₃ S _ hSI hS₃).trans ?_))
      simp [Obj.mapSeq]
  refine wpAny_call (codeAny_call_builtin PySem.F.slot_list_extend.plain PySem.F.entry_list_extend (PySem.F.slot_list_extend.check _ _ _ _ _ _ _ _ hT (PySem.F.args_list_extend_2 _ _) ?_))
  show wpAny _ _ (Builtin.List.listExtendWith (.ref S) (.bytes #[c] tb) .none) _ _ s
  unfold Builtin.List.listExtendWith
  refine wpAny_bind (wpAny_typeOf (T := "bytes") (typeIs_bytes s _ tb) ?_)
  have h1 : Builtin.List.listSameRef (.ref S) (.bytes #[c] tb) = false := rfl
  simp only [h1, show ((Value.type "bytes" == Value.type "list") = false) from by decide, show ((Value.type "bytes" == Value.type "tuple") = false) from by decide, Bool.or_false, Bool.false_eq_true, if_false]
  refine wpAny_bind (KBw.pyIter_bytes ?_)
  have hS₁ := Heap.get?_push_of_some ({ cls := .type "bytes_iterator", data := .fields #[.bytes #[c] tb, .int 0 0] } : Obj) hS.1
  have st : KBw.IsBytesIter (s.heap.push { cls := .type "bytes_iterator", data := .fields #[.bytes #[c] tb, .int 0 0] }) s.heap.objs.size #[c] tb 0 := ⟨_, Heap.get?_push_size _ rfl, rfl, rfl⟩
  refine wpAny_bind (wpAny_holding (hint_bytes ?_))
  have up : ∀ b x, s.heap.get? b = some x → (s.heap.push { cls := .type "bytes_iterator", data := .fields #[.bytes #[c] tb, .int 0 0] }).get? b = some x := fun b x e => Heap.get?_push_of_some _ e
  refine wpAny_ite_split (fun hab => absurd hab (by decide)) (fun _ => wpAny_pure ⟨plainId_quiet PySem.F.plain_extend_loop _, key _ n _ (fun b x _ e => up b x e) st hS₁⟩)

theorem ext117 {h₀ : Heap} {L S : Addr} {m : Str → Option Value} {news : List (Addr × Obj)} {g : Obj → List (Addr × Obj)} {its : List Value} {n : Nat} {tb : Tok} {Q : Value → Shared → Prop} (hh : A.handled = none)
    (F : Fr h₀ L s.heap m) (N : News h₀ L s.heap news) (U : UpdF S (listOf its.toArray n) news g) (hz : its.length ≤ 100)
    (h : ∀ t n' h' tk', Fr h₀ L h' m → News h₀ L h' (g (listOf (its ++ [Value.int 117 t]).toArray n')) → Q .none { s with heap := h', toks := tk' }) :
    wpAny (model prog w) A (call (.builtin "list.extend") [.ref S, .bytes #[117] tb]) Q E s := ext1 (c := 117) hh F N U hz h
theorem ext47 {h₀ : Heap} {L S : Addr} {m : Str → Option Value} {news : List (Addr × Obj)} {g : Obj → List (Addr × Obj)} {its : List Value} {n : Nat} {tb : Tok} {Q : Value → Shared → Prop} (hh : A.handled = none)
    (F : Fr h₀ L s.heap m) (N : News h₀ L s.heap news) (U : UpdF S (listOf its.toArray n) news g) (hz : its.length ≤ 100)
    (h : ∀ t n' h' tk', Fr h₀ L h' m → News h₀ L h' (g (listOf (its ++ [Value.int 47 t]).toArray n')) → Q .none { s with heap := h', toks := tk' }) :
    wpAny (model prog w) A (call (.builtin "list.extend") [.ref S, .bytes #[47] tb]) Q E s := ext1 (c := 47) hh F N U hz h
theorem getM_encode {M : Model} {A : Around} {E : Value → Shared → Prop} {s : Shared} {x : Str} {t : Tok} {pl : Sem Bool} {Q : Value × List Value → Shared → Prop} (h : Q (.builtin "str.encode", [.str x t]) s) : wpAny M A (getMethod (.str x t) "encode" pl) Q E s := by
  with_reducible exact GM.of (.str x t) (typeIs_str _ _ _) PySem.F.slot_str_encode PySem.F.type_str_encode GM.noRef h
theorem enc_slash (t u : Tok) : Builtin.«str.encode» ⟨[.str (Txt.item (Str.ofString "/u") 0) t, .str (Str.ofString "utf-8") u], []⟩ = (do ret (← mkBytes #[47])) := by kernel_rfl
theorem enc_u (t u : Tok) : Builtin.«str.encode» ⟨[.str (Txt.item (Str.ofString "/u") (0 + 1)) t, .str (Str.ofString "utf-8") u], []⟩ = (do ret (← mkBytes #[117])) := by kernel_rfl
theorem enc_of {x : Str} {t u : Tok} {c : UInt8} {Q : Value → Shared → Prop} (e : Builtin.«str.encode» ⟨[.str x t, .str (Str.ofString "utf-8") u], []⟩ = (do ret (← mkBytes #[c]))) (h : Q (.bytes #[c] s.toks) { s with toks := s.toks + 1 }) :
    wpAny (model prog w) A (call (.builtin "str.encode") [.str x t, .str (Str.ofString "utf-8") u]) Q E s := by
  refine wpAny_call_entry PySem.F.slot_str_encode (typeIs_str s x t) PySem.F.entry_str_encode ?_ (PySem.F.args_str_encode_2 _ _)
  rw [e]
  refine wpAny_bind (fun _ _ _ => ?_)
  exact fun _ _ _ => ⟨_, rfl, h⟩

theorem args_dec3 (a b c : Value) : argsOk "bytes.decode" ⟨[a, b, c], []⟩ := by unfold argsOk; kernel_rfl
theorem dec_tree (t u v : Tok) : Builtin.«bytes.decode» ⟨[.bytes #[47, 117] t, .str (Str.ofString "utf-8") u, .str (Str.ofString "replace") v], []⟩ = (mkStr (PySem.Str.ofString "utf-8") >>= fun _ => mkStr (PySem.Str.ofString "utf-8") >>= fun e => mkStr (PySem.Str.ofString "replace") >>= fun r => mkStr (PySem.Str.ofString "bytes.decode") >>= fun d =>
    call (.builtin "_codecs.decode.text") [.bytes #[47, 117] t, e, r, d] >>= fun v => ret v) := by kernel_rfl
theorem dec_text (t t1 t2 t3 : Tok) : Builtin.«_codecs.decode.text» ⟨[.bytes #[47, 117] t, .str (PySem.Str.ofString "utf-8") t1, .str (Str.ofString "replace") t2, .str (Str.ofString "bytes.decode") t3], []⟩ = (do ret (← mkStr (Str.ofString "/u"))) := by kernel_rfl
theorem dec_rule {t u v : Tok} {Q : Value → Shared → Prop} (h : ∀ t' k, Q (.str (Str.ofString "/u") t') { s with toks := k }) :
    wpAny (model prog w) A (call (.builtin "bytes.decode") [.bytes #[47, 117] t, .str (Str.ofString "utf-8") u, .str (Str.ofString "replace") v]) Q E s := by
  refine wpAny_call_entry FB.slot_bytes_decode (typeIs_bytes s _ t) FB.entry_bytes_decode ?_ (args_dec3 _ _ _)
  rw [dec_tree]
  refine wpAny_bind (wpAny_mkStr ?_ (by decide))
  refine wpAny_bind (wpAny_mkStr ?_ (by decide))
  refine wpAny_bind (wpAny_mkStr ?_ (by decide))
  refine wpAny_bind (wpAny_mkStr ?_ (by decide))
  refine wpAny_bind (call_function_entry KBd.kind_text KBd.plain_text KBd.entry_text (KBd.args_text _ _ _ _) ?_)
  rw [dec_text]
  refine wpAny_bind (wpAny_mkStr ?_ (by decide))
  exact wpAny_pure ⟨_, rfl, wpAny_pure ⟨_, rfl, h _ _⟩⟩
theorem starts_tup {x : Str} {t : Tok} {a : Addr} {vs : List Value} {xs : List Str} {Q : Value → Shared → Prop} (hx : IsTup s.heap a vs.toArray) (hv : StrsAre vs xs)
    (h : Q (.bool (xs.any fun y => Txt.startswith x y)) s) : wpAny (model prog w) A (call (.builtin "str.startswith") [.str x t, .ref a]) Q E s := by
  obtain ⟨o, ho, hc, n, hd⟩ := hx
  refine wpAny_call_entry PySem.F.slot_str_startswith (typeIs_str s x t) PySem.F.entry_str_startswith ?_ (PySem.F.args_str_startswith_2 _ _)
  unfold Builtin.«str.startswith» Builtin.Str.affixEntry
  refine wpAny_bind (wpAny_of_eq (a := (.str x t, x, [.ref a])) rfl ?_)
  refine wpAny_bind (wpAny_of_eq (a := (0, x.length)) (by first | rfl | (simp [Builtin.Str.searchRange]; done) | (unfold Builtin.Str.searchRange; simp; rfl)) ?_)
  dsimp only [List.headD]
  refine wpAny_bind (m := asStr? (.ref a)) (wpAny_bind (wpAny_load ho ?_))
  rw [hd]
  refine wpAny_pure ?_
  dsimp only
  refine wpAny_bind (wpAny_isInstance (T := "tuple") (b := true) ⟨o, ho, hc⟩ (by rw [isSubtype_type]; kernel_rfl) ?_)
  simp only [if_true]
  refine wpAny_bind (wpAny_rule ?_)
  refine wpAny_bind (wpAny_seqItems ho hd ?_)
  dsimp only
  rw [List.forIn_toArray]
  refine wpAny_bind ?_
  clear hd ho
  have key : ∀ (P : Option Fin × Unit → Shared → Prop), P (if (xs.any fun y => Txt.startswith x y) then (some (Fin.done (.ret (.bool true))), ()) else (none, ())) s →
      wpAny (model prog w) A.in1 (forIn vs ((none, ()) : Option Fin × Unit) fun x_1 (_ : Option Fin × Unit) => do
            let __do_lift ← asStr? x_1
            match __do_lift with
              | some p =>
                if (decide (0 + p.length ≤ x.length) && Builtin.Str.subAt x p 0) = true then do
                  let __do_lift ← ret (Value.bool true)
                  pure (ForInStep.done (some __do_lift, ()))
                else pure (ForInStep.yield (none, ()))
              | none => do
                rule (toString "str." ++ toString "startswith" ++ toString ".tuple-item-not-str")
                let __do_lift ← PySem.typeNameOf x_1
                raiseErrorMade "TypeError"
                    (toString "tuple for " ++ toString "startswith" ++ toString " must only contain str, not " ++
                      toString __do_lift)
                pure (ForInStep.yield (none, ()))) P E s := by
    clear h
    induction hv with
    | nil =>
      intro P h
      rw [List.forIn_nil]
      exact wpAny_pure h
    | cons y u _ ih =>
      intro P h
      rw [List.forIn_cons]
      rw [List.any_cons] at h
      refine wpAny_bind (wpAny_bind (wpAny_of_eq (a := some y) rfl ?_))
      dsimp only
      by_cases hb : (decide (0 + y.length ≤ x.length) && Builtin.Str.subAt x y 0) = true
      · rw [if_pos hb]
        have hb' : Txt.startswith x y = true := hb
        rw [hb', Bool.true_or, if_pos rfl] at h
        exact wpAny_bind (wpAny_pure (wpAny_pure (wpAny_pure h)))
      · rw [if_neg hb]
        have hb' : Txt.startswith x y = false := by
          cases q : Txt.startswith x y with
          | false => rfl
          | true => exact absurd q hb
        rw [hb', Bool.false_or] at h
        exact wpAny_pure (ih P h)
  refine key _ ?_
  cases hb : (xs.any fun y => Txt.startswith x y) with
  | true => rw [hb] at h; exact wpAny_pure ⟨_, rfl, h⟩
  | false => rw [hb] at h; exact wpAny_pure ⟨_, rfl, h⟩
end
end Mine
end

section
open PySem PySem.W PySem.Calls PyProof.Rows
namespace Mine
local macro_rules | `(tactic| walk_at "getMethod str") => `(tactic| (k_here; with_reducible refine getM_encode ?_))
local macro_rules | `(tactic| walk_at "call builtin:str.encode") => `(tactic| (k_here; first | (with_reducible refine enc_of (enc_slash _ _) ?_) | (with_reducible refine enc_of (enc_u _ _) ?_)))
local macro_rules | `(tactic| walk_at "call builtin:list.extend") => `(tactic| (k_here; (with_reducible show wpAny _ _ (call (Value.builtin "list.extend") [Value.ref _, Value.bytes _ _]) _ _ _); k_dflt ((first | refine' ext47 ?H ?F ?N ?U ?z ?_ | refine' ext117 ?H ?F ?N ?U ?z ?_); (case H => exact rfl); (case F => k_asm); (case N => k_asm); (case U => k_updF); (case z => exact Nat.le_of_ble_eq_true rfl); k_whole); intro t' n' h' tk' F' N'; (try dsimp only at N'); (try simp only [List.nil_append, List.cons_append] at N'); (try k_sweep)))
local macro_rules | `(tactic| walk_at "call builtin:bytes.decode") => `(tactic| (k_here; (have eB : (#[(Int.toNat 47).toUInt8, (Int.toNat 117).toUInt8] : Array UInt8) = #[47, 117] := by decide +kernel); rw [eB]; k_dflt (refine dec_rule ?_); intro t' k'))
section
variable {w : World} {p : Program} {loose : List Str} {mean : ExcName → Option Value} {mg mb : Str → Option Value} {news : List (Addr × Obj)} {g : Obj → List (Addr × Obj)}
  {dp un : Nat} {gd : Option (List Code)} {cn : Str} {cs : Scope} {a : Addr} {ccd : Value} {cl : List (Str × Addr)} {outer : List Env} {A₀ : Around} {base h₀ : Heap} {L : Addr} {m : Str → Option Value} {s : Shared} {Q E : Value → Shared → Prop}
set_option maxRecDepth 100000 in
set_option maxHeartbeats 8000000 in
theorem unq {tu : Tok} {news : List (Addr × Obj)}
    (B : Below A₀ base outer h₀) (F : Fr h₀ L s.heap m) (X : (hd.heap_39 w.params).In h₀) (N : News h₀ L s.heap news) (Tp : Top p loose mean mg mb h₀) (hK : cs.kind = .function)
    (hd : dp + 15 < recursionLimit) (hu : un + 120 < cLine)
    (h : ∀ t h' tk', Fr h₀ L h' m → News h₀ L h' news → Q (.str (Str.ofString "/u") t) { s with heap := h', toks := tk' }) :
    wpAny (model PySem.Challenge.rw_br5020_01.row.prog w) (ktrTop dp un gd cn cs L a ccd cl outer) (call (.ref 53) [.str "/u" tu]) Q E s := by
  w_top off
  revert X; k_fill; intro X
  have hlen2 : (Str.ofString "/u").length = 2 := by decide +kernel
  refine wpAny_call ?_
  k_dflt ktr_enter
  k_steps

  all_goals (first | (exact h _ _ _ (by k_asm) (by first | k_asm | (refine' cb_drop ?cbN ?cbS; (case cbN => assumption); (case cbS => kcj_all)))))
end
end Mine
end

section
open PySem PySem.W PySem.Calls PyProof.Rows
set_option maxRecDepth 100000
namespace Mine
theorem pa_pat : PlainAttrs "re.Pattern" :=
  ⟨⟨"object.__getattribute__", by rw [typeLookup_type, builtinLookup_eq_fast]; kernel_rfl, by decide +kernel⟩, by rw [typeLookup_type, builtinLookup_eq_fast]; kernel_rfl⟩
theorem pa_match : PlainAttrs "re.Match" :=
  ⟨⟨"object.__getattribute__", by rw [typeLookup_type, builtinLookup_eq_fast]; kernel_rfl, by decide +kernel⟩, by rw [typeLookup_type, builtinLookup_eq_fast]; kernel_rfl⟩
theorem slot_sub : Slot "re.Pattern" "sub" "re.Pattern.sub" :=
  .of (owner := "re.Pattern") (n := "sub") (by rw [typeLookup_type, builtinLookup_eq_fast]; kernel_rfl) (by decide +kernel) (by decide +kernel) (by decide +kernel)
    (by first | exact .inl (by decide +kernel) | exact .inr (by decide +kernel)) (by rw [isSubtype_type]; kernel_rfl)
theorem type_sub : typeOf (.builtin "re.Pattern.sub") = pure (.type "method_descriptor") := by show builtinType _ = _; rw [builtinType_eq_fast]; kernel_rfl
theorem entry_sub : entryFor table "re.Pattern.sub" = some Builtin.«re.Pattern.sub» := entryFor_of_tree (by kernel_rfl)
theorem slot_fullm : Slot "re.Pattern" "fullmatch" "re.Pattern.fullmatch" :=
  .of (owner := "re.Pattern") (n := "fullmatch") (by rw [typeLookup_type, builtinLookup_eq_fast]; kernel_rfl) (by decide +kernel) (by decide +kernel) (by decide +kernel)
    (by first | exact .inl (by decide +kernel) | exact .inr (by decide +kernel)) (by rw [isSubtype_type]; kernel_rfl)
theorem type_fullm : typeOf (.builtin "re.Pattern.fullmatch") = pure (.type "method_descriptor") := by show builtinType _ = _; rw [builtinType_eq_fast]; kernel_rfl
theorem entry_fullm : entryFor table "re.Pattern.fullmatch" = some Builtin.«re.Pattern.fullmatch» := entryFor_of_tree (by kernel_rfl)
theorem slot_grp : Slot "re.Match" "group" "re.Match.group" :=
  .of (owner := "re.Match") (n := "group") (by rw [typeLookup_type, builtinLookup_eq_fast]; kernel_rfl) (by decide +kernel) (by decide +kernel) (by decide +kernel)
    (by first | exact .inl (by decide +kernel) | exact .inr (by decide +kernel)) (by rw [isSubtype_type]; kernel_rfl)
theorem type_grp : typeOf (.builtin "re.Match.group") = pure (.type "method_descriptor") := by show builtinType _ = _; rw [builtinType_eq_fast]; kernel_rfl
theorem entry_grp : entryFor table "re.Match.group" = some Builtin.«re.Match.group» := entryFor_of_tree (by kernel_rfl)
theorem args_sub3 (a b c : Value) : argsOk "re.Pattern.sub" ⟨[a, b, c], []⟩ := by unfold argsOk; kernel_rfl
theorem args_full2 (a b : Value) : argsOk "re.Pattern.fullmatch" ⟨[a, b], []⟩ := by unfold argsOk; kernel_rfl
theorem args_grp2 (a b : Value) : argsOk "re.Match.group" ⟨[a, b], []⟩ := by unfold argsOk; kernel_rfl
theorem entry_loop : entryFor table "re.Pattern.sub.loop" = some Builtin.«re.Pattern.sub.loop» := entryFor_of_tree (by kernel_rfl)
theorem plain_loop : plainId "re.Pattern.sub.loop" = true := by decide +kernel
theorem match_nobool : typeLookup (.type "re.Match") "__bool__" = pure none := by rw [typeLookup_type, builtinLookup_eq_fast]; kernel_rfl
theorem match_nolen : typeLookup (.type "re.Match") "__len__" = pure none := by rw [typeLookup_type, builtinLookup_eq_fast]; kernel_rfl
theorem fn_call : typeLookup (.type "function") "__call__" = pure (some (.builtin "function.__call__")) := by rw [typeLookup_type, builtinLookup_eq_fast]; kernel_rfl

section
open PySem.Sre PySem.Builtin.Re
theorem runFor_stop {m : Sre.M} (h : m.outcome.isSome = true) : ∀ n, m.runFor n = m
  | 0 => rfl
  | n + 1 => by unfold Sre.M.runFor; rw [if_pos h]
theorem runFor_succ {m : Sre.M} (h : m.outcome.isSome = false) (n : Nat) : m.runFor (n + 1) = (m.step).runFor n := by
  conv => lhs; unfold Sre.M.runFor
  rw [if_neg (by rw [h]; exact Bool.false_ne_true)]
theorem runFor_add : ∀ (a b : Nat) (m : Sre.M), m.runFor (a + b) = (m.runFor a).runFor b
  | 0, b, m => by rw [Nat.zero_add]; rfl
  | a + 1, b, m => by
    cases h : m.outcome.isSome with
    | true => rw [runFor_stop h, runFor_stop h, runFor_stop h]
    | false => rw [Nat.add_right_comm, runFor_succ h, runFor_succ h, runFor_add a b]
variable {M : Model} {A : Around} {E : Value → Shared → Prop} {s : Shared}
theorem drive_rule : ∀ (turns N : Nat) (m : Sre.M) (Q : Sre.M → Shared → Prop), (m.runFor N).outcome.isSome = true → N < 4 * turns → Q (m.runFor N) s → wpAny M A (reDrive turns m) Q E s
  | 0, N, m, Q, _, hN, _ => absurd hN (Nat.not_lt_zero _)
  | turns + 1, N, m, Q, ho, hN, hQ => by
    unfold reDrive
    show wpAny M A (if (m.runFor 4).outcome.isSome = true then pure (m.runFor 4) else (do rule "sre.turn"; reDrive turns (m.runFor 4))) Q E s
    cases h4 : (m.runFor 4).outcome.isSome with
    | true =>
      rw [if_pos rfl]
      have e : m.runFor N = m.runFor 4 := by
        by_cases hle : N ≤ 4
        · obtain ⟨d, e⟩ := Nat.exists_eq_add_of_le hle
          have e4 : (m.runFor 4) = (m.runFor N).runFor d := by rw [← runFor_add, ← e]
          rw [e4, runFor_stop ho]
        · obtain ⟨d, rfl⟩ := Nat.exists_eq_add_of_le (Nat.le_of_lt (Nat.lt_of_not_le hle))
          rw [runFor_add, runFor_stop h4]
      rw [e] at hQ
      exact wpAny_pure hQ
    | false =>
      rw [if_neg Bool.false_ne_true]
      have hle : 4 ≤ N := by
        refine Nat.le_of_not_lt fun hlt => ?_
        obtain ⟨d, e⟩ := Nat.exists_eq_add_of_le (Nat.le_of_lt hlt)
        have e4 : (m.runFor 4) = (m.runFor N).runFor d := by rw [← runFor_add, ← e]
        rw [e4, runFor_stop ho, ho] at h4
        cases h4
      obtain ⟨d, rfl⟩ := Nat.exists_eq_add_of_le hle
      rw [runFor_add] at ho hQ
      exact wpAny_bind (wpAny_rule (drive_rule turns d (m.runFor 4) Q ho (by omega) hQ))
theorem rules_rule {c : Nat → Bool} {f : Nat → String} {Q : PUnit → Shared → Prop} (h : Q ⟨⟩ s) : ∀ l : List Nat, wpAny M A (forIn l PUnit.unit fun i (_ : PUnit) => if c i = true then (do rule (f i); pure (ForInStep.yield PUnit.unit)) else pure (ForInStep.yield PUnit.unit)) Q E s
  | [] => by rw [List.forIn_nil]; exact wpAny_pure h
  | i :: l => by
    rw [List.forIn_cons]
    refine wpAny_bind ?_
    cases hc : c i with
    | true => rw [if_pos rfl]; exact wpAny_bind (wpAny_rule (wpAny_pure (rules_rule h l)))
    | false => rw [if_neg Bool.false_ne_true]; exact wpAny_pure (rules_rule h l)
theorem runToEnd_rule {m : Sre.M} {N : Nat} {Q : Option Sre.M → Shared → Prop} (hN : N < 2 ^ 66)
    (h : (∃ m', m.runFor N = m' ∧ m'.outcome = some .matched ∧ Q (some m') s) ∨ ((m.runFor N).outcome = some .failed ∧ Q none s)) : wpAny M A (reRunToEnd m) Q E s := by
  unfold reRunToEnd
  have ho : (m.runFor N).outcome.isSome = true := by
    rcases h with ⟨m', e, o, _⟩ | ⟨o, _⟩
    · rw [e, o]; rfl
    · rw [o]; rfl
  refine wpAny_bind (drive_rule (2 ^ 64) N m _ ho (by omega) ?_)
  refine wpAny_bind (rules_rule ?_ _)
  rcases h with ⟨m', e, o, q⟩ | ⟨o, q⟩
  · subst e
    simp only [o]
    exact wpAny_pure q
  · simp only [o]
    exact wpAny_pure q

end
end Mine
end

section
open PySem PySem.W PySem.Calls PyProof.Rows
set_option maxRecDepth 100000
namespace Mine
section
open PySem.Sre PySem.Builtin.Re
variable {M : Model} {A : Around} {E : Value → Shared → Prop} {s : Shared}
theorem textOf_rule {x : Str} {t : Tok} {Q : Array Nat × Nat → Shared → Prop} (h : Q (x.cps, 0) s) : wpAny M A (reTextOf (.str x t)) Q E s := by
  unfold reTextOf
  refine wpAny_bind (wpAny_of_eq (a := some x) rfl ?_)
  exact wpAny_pure h
theorem rawItems_rule {c : Addr} {o : Obj} {items : Array Value} {n : Nat} {Q : Array Int → Shared → Prop} (ho : s.heap.get? c = some o) (hd : o.data = .seq items n) (h : Q (items.map reRawOf) s) : wpAny M A (reRawItems (.ref c)) Q E s := by
  unfold reRawItems
  refine wpAny_bind (wpAny_seqItems ho hd ?_)
  exact wpAny_pure h
/-- a compiled pattern of strs stands at P -/
structure PatAt (h : Heap) (P : Addr) (code : Array Nat) (groups : Nat) : Prop where
  at_ : ∃ o vs C oc items n, h.get? P = some o ∧ o.cls = .type "re.Pattern" ∧ o.dict = none ∧ o.data = .fields vs ∧ vs.getD 5 .none = .ref C ∧ reRawNat (vs.getD 6 .none) = 0 ∧ reRawNat (vs.getD 2 .none) = groups ∧
    h.get? C = some oc ∧ oc.data = .seq items n ∧ (items.map reRawOf).map (·.toNat) = code
theorem PatAt.keeps {h h' : Heap} {P : Addr} {code : Array Nat} {groups : Nat} (x : PatAt h P code groups) (k : ∀ b o, h.get? b = some o → h'.get? b = some o) : PatAt h' P code groups :=
  let ⟨o, vs, C, oc, items, n, a, a2, a3, b, c, d, e, f, g⟩ := x.at_; ⟨o, vs, C, oc, items, n, k _ _ a, a2, a3, b, c, d, e, k _ _ f, g⟩
theorem PatAt.type {P : Addr} {code : Array Nat} {groups : Nat} (x : PatAt s.heap P code groups) : s.TypeIs (.ref P) "re.Pattern" :=
  let ⟨o, _, _, _, _, _, a, a2, _⟩ := x.at_; ⟨o, a, a2⟩
theorem wholeTarget_rule {P : Addr} {code : Array Nat} {groups : Nat} {x : Str} {t : Tok} {Q : ReTarget → Shared → Prop} (hp : PatAt s.heap P code groups)
    (h : Q ⟨.ref P, .str x t, code, x.cps, 0, groups, 0, x.cps.size⟩ s) : wpAny M A (reWholeTarget (.ref P) (.str x t)) Q E s := by
  obtain ⟨o, vs, C, oc, items, n, a, _, _, b, c, d, e, f, g, hc⟩ := hp.at_
  unfold reWholeTarget
  refine wpAny_bind (wpAny_fieldsOf a b ?_)
  refine wpAny_bind (textOf_rule ?_)
  dsimp only
  rw [d]
  rw [if_neg (by decide), if_neg (by decide)]
  refine wpAny_bind (m := reNoCollectionInside (.str x t) 0) (wpAny_of_eq (a := ()) rfl ?_)
  rw [c]
  refine wpAny_bind (rawItems_rule f g ?_)
  rw [e, hc]
  exact wpAny_pure h
theorem target_full {P : Addr} {code : Array Nat} {groups : Nat} {x : Str} {t : Tok} {Q : ReTarget → Shared → Prop} (hp : PatAt s.heap P code groups) (hx : x.cps.size < 1000)
    (h : Q ⟨.ref P, .str x t, code, x.cps, 0, groups, 0, x.cps.size⟩ s) : wpAny M A (reTarget "re.Pattern.fullmatch" "fullmatch" ⟨[.ref P, .str x t], []⟩) Q E s := by
  obtain ⟨o, vs, C, oc, items, n, a, _, _, b, c, d, e, f, g, hc⟩ := hp.at_
  unfold reTarget
  refine wpAny_bind (wpAny_of_eq (a := [some (.str x t), none, none]) rfl ?_)
  dsimp only
  refine wpAny_bind (wpAny_pure ?_)
  refine wpAny_bind (wpAny_pure ?_)
  refine wpAny_bind (wpAny_fieldsOf a b ?_)
  refine wpAny_bind (textOf_rule ?_)
  dsimp only
  rw [d]
  rw [if_neg (by decide), if_neg (by decide)]
  refine wpAny_bind (m := reNoCollectionInside (.str x t) 0) (wpAny_of_eq (a := ()) rfl ?_)
  rw [c]
  refine wpAny_bind (rawItems_rule f g ?_)
  rw [e, hc]
  have h1 : min (Int.toNat 0) x.cps.size = 0 := Nat.zero_min _
  have h2 : min (Int.toNat (2 ^ 63 - 1)) x.cps.size = x.cps.size := Nat.min_eq_right (by omega)
  rw [h1, h2]
  exact wpAny_pure h
def spansOf (m : Sre.M) (groups : Nat) : List Value := (List.range groups).flatMap fun g =>
    match if ((2 * g + 1 : Nat) : Int) ≤ m.lastmark then (m.marks.getD (2 * g) none, m.marks.getD (2 * g + 1) none) else (none, none) with
    | (some b, some e) => [rawInt b, rawInt e]
    | _ => [rawInt (-1), rawInt (-1)]
def wrongSpan (m : Sre.M) (groups : Nat) : Bool := (List.range groups).any (fun g => match m.marks.getD (2 * g) none, m.marks.getD (2 * g + 1) none with | some b, some e => ((2 * g + 1 : Nat) : Int) ≤ m.lastmark && e < b | _, _ => false)
abbrev tupObj (vs : List Value) : Obj := { cls := .type "tuple", data := .seq vs.toArray }
abbrev matchObj (string pattern : Value) (pos lim : Nat) (m : Sre.M) (tp : Addr) : Obj := { cls := .type "re.Match", data := .fields #[string, pattern, rawInt pos, rawInt lim, rawInt m.lastindex, .ref tp] }
theorem newMatch_rule {h₀ : Heap} {L : Addr} {fm : Str → Option Value} {news : List (Addr × Obj)} {pattern string : Value} {groups pos lim : Nat} {m : Sre.M} {Q : Value → Shared → Prop} (F : Fr h₀ L s.heap fm) (N : News h₀ L s.heap news)
    (hg : groups ≤ 100) (hw : wrongSpan m groups = false)
    (h : ∀ r tp h', Fr h₀ L h' fm → News h₀ L h' ((r, matchObj string pattern pos lim m tp) :: (tp, tupObj (rawInt m.start :: rawInt m.handed :: spansOf m groups)) :: news) → (∀ p ∈ news, p.1 < tp) → tp < r → Q (.ref r) { s with heap := h' }) :
    wpAny M A (reNewMatch pattern string groups pos lim m) Q E s := by
  unfold reNewMatch
  have hw' := hw
  unfold wrongSpan at hw'
  have hl : (spansOf m groups).length ≤ 2 * groups := by
    unfold spansOf
    rw [List.length_flatMap]
    have : ∀ l : List Nat, (l.map fun g => (match if ((2 * g + 1 : Nat) : Int) ≤ m.lastmark then (m.marks.getD (2 * g) none, m.marks.getD (2 * g + 1) none) else (none, none) with
      | (some b, some e) => [rawInt b, rawInt e]
      | _ => [rawInt (-1), rawInt (-1)]).length).sum ≤ 2 * l.length := by
      intro l
      induction l with
      | nil => exact Nat.le_refl _
      | cons g r ih =>
        rw [List.map_cons, List.sum_cons, List.length_cons]
        have : (match if ((2 * g + 1 : Nat) : Int) ≤ m.lastmark then (m.marks.getD (2 * g) none, m.marks.getD (2 * g + 1) none) else (none, none) with
          | (some b, some e) => [rawInt b, rawInt e]
          | _ => [rawInt (-1), rawInt (-1)]).length = 2 := by split <;> rfl
        omega
    have := this (List.range groups)
    rw [List.length_range] at this
    exact this
  extract_lets spans jp
  refine wpAny_ite_split (fun hab => Bool.noConfusion (hw.symm.trans hab : false = true)) (fun _ => ?_)
  show wpAny M A (newTuple (rawInt m.start :: rawInt m.handed :: spansOf m groups) >>= fun tp => newFields "re.Match" [string, pattern, rawInt pos, rawInt lim, rawInt m.lastindex, tp]) Q E s
  refine wpAny_bind (newTuple_N F N (fun h₁ F₁ N₁ => ?_) (by rw [sizeLine_eq, List.length_cons, List.length_cons]; omega))
  unfold newFields
  have l1 : ∀ p ∈ news, p.1 < s.heap.objs.size := fun p hp => Heap.lt_size (N p hp).1
  have l2 : s.heap.objs.size < h₁.objs.size := Heap.lt_size (N₁ _ (.head _)).1
  exact wpAny_newObj_type (h _ _ _ (F₁.push _) (N₁.push F₁ _) l1 l2)
end
section
open PySem.Sre PySem.Builtin.Re
variable {prog : Program} {w : World} {A : Around} {E : Value → Shared → Prop} {s : Shared} {h₀ : Heap} {L : Addr} {fm : Str → Option Value} {news : List (Addr × Obj)}
theorem getM_pat {P : Addr} {code : Array Nat} {groups : Nat} {name : Str} {id : String} {pl : Sem Bool} {Q : Value × List Value → Shared → Prop} (hp : PatAt s.heap P code groups) (slot : Slot "re.Pattern" name id) (ty : typeOf (.builtin id) = pure (.type "method_descriptor"))
    (h : Q (.builtin id, [.ref P]) s) : wpAny (model prog w) A (getMethod (.ref P) name pl) Q E s :=
  getMethod_builtin hp.type pa_pat slot ty (fun a e => by
    cases e
    obtain ⟨o, vs, C, oc, items, n, a, a2, a3, _⟩ := hp.at_
    exact ⟨o, a, a3⟩) h
theorem fullmatch_rule {P : Addr} {code : Array Nat} {x : Str} {t : Tok} {N : Nat} {Q : Value → Shared → Prop} (F : Fr h₀ L s.heap fm) (Nw : News h₀ L s.heap news) (hp : PatAt s.heap P code 0) (hx : x.cps.size < 1000) (hN : N < 1000)
    (hrun : ((Sre.forMatch code x.cps 0 0 x.cps.size true false).runFor N).outcome = some .matched)
    (h : ∀ r tp m h', Fr h₀ L h' fm → News h₀ L h' ((r, matchObj (.str x t) (.ref P) 0 x.cps.size m tp) :: (tp, tupObj [rawInt m.start, rawInt m.handed]) :: news) → (∀ p ∈ news, p.1 < tp) → tp < r → Q (.ref r) { s with heap := h' }) :
    wpAny (model prog w) A (call (.builtin "re.Pattern.fullmatch") [.ref P, .str x t]) Q E s := by
  refine wpAny_call_entry slot_fullm hp.type entry_fullm ?_ (args_full2 _ _)
  unfold Builtin.«re.Pattern.fullmatch»
  refine wpAny_bind (target_full hp hx ?_)
  dsimp only
  unfold reAnswer
  refine wpAny_bind (runToEnd_rule (N := N) (by omega) (.inl ⟨_, rfl, hrun, ?_⟩))
  dsimp only
  refine wpAny_bind (newMatch_rule F Nw (by omega) rfl fun r tp h' F' N' l1 l2 => ?_)
  exact wpAny_pure ⟨_, rfl, h r tp _ h' F' N' l1 l2⟩
theorem truthy_match {r : Addr} {o : Obj} {Q : Bool → Shared → Prop} (ho : s.heap.get? r = some o) (hc : o.cls = .type "re.Match") (h : Q true s) : wpAny (model prog w) A (truthy (.ref r)) Q E s := by
  have hT : s.TypeIs (.ref r) "re.Match" := ⟨o, ho, hc⟩
  unfold truthy
  refine wpAny_bind (m := callSpecial? (.ref r) (Str.ofString "__bool__")) (wpAny_bind (wpAny_specialOf hT match_nobool (wpAny_pure ?_)))
  refine wpAny_bind (wpAny_specialOf hT match_nolen ?_)
  exact wpAny_pure h
end
end Mine
end

section
open PySem PySem.W PySem.Calls PyProof.Rows
set_option maxRecDepth 100000
namespace Mine
def codeA : Array Nat := #[14, 4, 0, 1, 4294967295, 6, 0, 13, 11, 9, 0, 67108864, 2281701374, 134217726, 0, 0, 0, 0, 0, 24, 16, 0, 4294967295, 13, 11, 9, 0, 134176768, 2281701374, 134217726, 0, 0, 0, 0, 0, 1, 6, 5, 1]
theorem pat172 {w : World} {h : Heap} (X : (hd.heap_39 w.params).In h) : PatAt h 172 codeA 0 := by
  have e1 : (hd.heap_39 w.params).lookup 172 = some (⟨Value.type "re.Pattern", none, Data.fields #[Value.str (Str.ofString "^[A-Za-z_:][A-Za-z0-9_.:-]*$") 714, Value.int 32 756, Value.int 0 0, Value.none, Value.none, Value.ref 171, Value.int 0 0], #[]⟩ : Obj) := by kernel_rfl
  have e2 : (hd.heap_39 w.params).lookup 171 = some (⟨Value.type "tuple", none, Data.seq #[Value.int 14 0, Value.int 4 0, Value.int 0 0, Value.int 1 0, Value.int 4294967295 0, Value.int 6 0, Value.int 0 0, Value.int 13 0, Value.int 11 0, Value.int 9 0, Value.int 0 0, Value.int 67108864 0, Value.int 2281701374 0, Value.int 134217726 0, Value.int 0 0, Value.int 0 0, Value.int 0 0, Value.int 0 0, Value.int 0 0, Value.int 24 0, Value.int 16 0, Value.int 0 0, Value.int 4294967295 0, Value.int 13 0, Value.int 11 0, Value.int 9 0, Value.int 0 0, Value.int 134176768 0, Value.int 2281701374 0, Value.int 134217726 0, Value.int 0 0, Value.int 0 0, Value.int 0 0, Value.int 0 0, Value.int 0 0, Value.int 1 0, Value.int 6 0, Value.int 5 0, Value.int 1 0] 0, #[]⟩ : Obj) := by kernel_rfl
  exact ⟨_, _, _, _, _, _, X _ _ e1, rfl, rfl, rfl, rfl, rfl, rfl, X _ _ e2, rfl, by decide +kernel⟩
def codeI : Array Nat := #[14, 14, 1, 11, 4294967295, 4, 4, 60, 105, 109, 103, 0, 0, 0, 0, 16, 60, 16, 105, 16, 109, 16, 103, 6, 10, 24, 6, 0, 4294967295, 20, 62, 1, 6, 10, 16, 97, 16, 108, 16, 116, 16, 61, 17, 0, 7, 18, 16, 34, 17, 2, 24, 6, 0, 4294967295, 20, 34, 1, 17, 3, 16, 34, 15, 20, 18, 16, 39, 17, 4, 24, 6, 0, 4294967295, 20, 39, 1, 17, 5, 16, 39, 15, 2, 0, 17, 1, 24, 6, 0, 4294967295, 20, 62, 1, 16, 62, 1]
theorem pat97 {w : World} {h : Heap} (X : (hd.heap_39 w.params).In h) : PatAt h 97 codeI 3 := by
  have e1 : (hd.heap_39 w.params).lookup 97 = some (⟨Value.type "re.Pattern", none, Data.fields #[Value.str (Str.ofString "<img\\b[^>]*\\balt=(\\\"([^\\\"]*)\\\"|'([^']*)')[^>]*>") 517, Value.int 32 614, Value.int 3 0, Value.none, Value.none, Value.ref 96, Value.int 0 0], #[]⟩ : Obj) := by kernel_rfl
  have e2 : (hd.heap_39 w.params).lookup 96 = some (⟨Value.type "tuple", none, Data.seq #[Value.int 14 0, Value.int 14 0, Value.int 1 0, Value.int 11 0, Value.int 4294967295 0, Value.int 4 0, Value.int 4 0, Value.int 60 0, Value.int 105 0, Value.int 109 0, Value.int 103 0, Value.int 0 0, Value.int 0 0, Value.int 0 0, Value.int 0 0, Value.int 16 0, Value.int 60 0, Value.int 16 0, Value.int 105 0, Value.int 16 0, Value.int 109 0, Value.int 16 0, Value.int 103 0, Value.int 6 0, Value.int 10 0, Value.int 24 0, Value.int 6 0, Value.int 0 0, Value.int 4294967295 0, Value.int 20 0, Value.int 62 0, Value.int 1 0, Value.int 6 0, Value.int 10 0, Value.int 16 0, Value.int 97 0, Value.int 16 0, Value.int 108 0, Value.int 16 0, Value.int 116 0, Value.int 16 0, Value.int 61 0, Value.int 17 0, Value.int 0 0, Value.int 7 0, Value.int 18 0, Value.int 16 0, Value.int 34 0, Value.int 17 0, Value.int 2 0, Value.int 24 0, Value.int 6 0, Value.int 0 0, Value.int 4294967295 0, Value.int 20 0, Value.int 34 0, Value.int 1 0, Value.int 17 0, Value.int 3 0, Value.int 16 0, Value.int 34 0, Value.int 15 0, Value.int 20 0, Value.int 18 0, Value.int 16 0, Value.int 39 0, Value.int 17 0, Value.int 4 0, Value.int 24 0, Value.int 6 0, Value.int 0 0, Value.int 4294967295 0, Value.int 20 0, Value.int 39 0, Value.int 1 0, Value.int 17 0, Value.int 5 0, Value.int 16 0, Value.int 39 0, Value.int 15 0, Value.int 2 0, Value.int 0 0, Value.int 17 0, Value.int 1 0, Value.int 24 0, Value.int 6 0, Value.int 0 0, Value.int 4294967295 0, Value.int 20 0, Value.int 62 0, Value.int 1 0, Value.int 16 0, Value.int 62 0, Value.int 1 0] 0, #[]⟩ : Obj) := by kernel_rfl
  exact ⟨_, _, _, _, _, _, X _ _ e1, rfl, rfl, rfl, rfl, rfl, rfl, X _ _ e2, rfl, by decide +kernel⟩
def codeT : Array Nat := #[14, 8, 1, 2, 4294967295, 1, 0, 60, 0, 17, 0, 16, 60, 7, 21, 16, 33, 16, 45, 16, 45, 26, 5, 0, 4294967295, 2, 1, 16, 45, 16, 45, 16, 62, 15, 14, 12, 24, 6, 0, 4294967295, 20, 62, 1, 16, 62, 15, 2, 0, 17, 1, 1]
theorem pat92 {w : World} {h : Heap} (X : (hd.heap_39 w.params).In h) : PatAt h 92 codeT 1 := by
  have e1 : (hd.heap_39 w.params).lookup 92 = some (⟨Value.type "re.Pattern", none, Data.fields #[Value.str (Str.ofString "(<!--.*?-->|<[^>]*>)") 460, Value.int 32 514, Value.int 1 0, Value.none, Value.none, Value.ref 91, Value.int 0 0], #[]⟩ : Obj) := by kernel_rfl
  have e2 : (hd.heap_39 w.params).lookup 91 = some (⟨Value.type "tuple", none, Data.seq #[Value.int 14 0, Value.int 8 0, Value.int 1 0, Value.int 2 0, Value.int 4294967295 0, Value.int 1 0, Value.int 0 0, Value.int 60 0, Value.int 0 0, Value.int 17 0, Value.int 0 0, Value.int 16 0, Value.int 60 0, Value.int 7 0, Value.int 21 0, Value.int 16 0, Value.int 33 0, Value.int 16 0, Value.int 45 0, Value.int 16 0, Value.int 45 0, Value.int 26 0, Value.int 5 0, Value.int 0 0, Value.int 4294967295 0, Value.int 2 0, Value.int 1 0, Value.int 16 0, Value.int 45 0, Value.int 16 0, Value.int 45 0, Value.int 16 0, Value.int 62 0, Value.int 15 0, Value.int 14 0, Value.int 12 0, Value.int 24 0, Value.int 6 0, Value.int 0 0, Value.int 4294967295 0, Value.int 20 0, Value.int 62 0, Value.int 1 0, Value.int 16 0, Value.int 62 0, Value.int 15 0, Value.int 2 0, Value.int 0 0, Value.int 17 0, Value.int 1 0, Value.int 1 0] 0, #[]⟩ : Obj) := by kernel_rfl
  exact ⟨_, _, _, _, _, _, X _ _ e1, rfl, rfl, rfl, rfl, rfl, rfl, X _ _ e2, rfl, by decide +kernel⟩
end Mine
end

section
open PySem PySem.W PySem.Calls PyProof.Rows
set_option maxRecDepth 100000
namespace Mine
section
open PySem.Sre PySem.Builtin.Re
def cut (T : Str) (b e : Nat) : Str := ⟨T.cps.extract b e⟩
structure MatchAt (code : Array Nat) (groups : Nat) (T : Str) (st b e : Nat) (sp : List Value) : Prop where
  run : ∃ N m, N < 2 ^ 66 ∧ (Sre.forSearch code T.cps groups st T.cps.size false).runFor N = m ∧ m.outcome = some .matched ∧ m.start = b ∧ m.handed = e ∧ wrongSpan m groups = false ∧ spansOf m groups = sp
structure NoMatch (code : Array Nat) (groups : Nat) (T : Str) (st : Nat) : Prop where
  run : ∃ N, N < 2 ^ 66 ∧ ((Sre.forSearch code T.cps groups st T.cps.size false).runFor N).outcome = some .failed
inductive SubR (code : Array Nat) (groups : Nat) (T : Str) (val : List Value → Str → Prop) : Nat → List Str → Prop
  | stop {d : Nat} (hn : NoMatch code groups T d) (hd : d ≤ T.cps.size) : SubR code groups T val d (if d < T.cps.size then [cut T d T.cps.size] else [])
  | hit {d b e : Nat} {sp : List Value} {v : Str} {zs : List Str} (hm : MatchAt code groups T d b e sp) (h1 : d ≤ b) (h2 : b < e) (h3 : e ≤ T.cps.size) (hv : val sp v) (hr : SubR code groups T val e zs) :
      SubR code groups T val d ((if d < b then [cut T d b] else []) ++ v :: zs)

variable {prog : Program} {w : World} {A : Around} {E : Value → Shared → Prop} {s : Shared} {h₀ : Heap} {L : Addr} {fm : Str → Option Value} {rest : List (Addr × Obj)}
theorem push_rule {l : Addr} {its : List Value} {n : Nat} {v : Value} {Q : Unit → Shared → Prop} (F : Fr h₀ L s.heap fm) (N : News h₀ L s.heap ((l, listOf its.toArray n) :: rest)) (hr : ∀ p ∈ rest, p.1 ≠ l) (hz : its.length ≤ 100000)
    (h : ∀ n' h', Fr h₀ L h' fm → News h₀ L h' ((l, listOf (its ++ [v]).toArray n') :: rest) → Q () { s with heap := h' }) : wpAny (model prog w) A (updateSeq l (·.push v)) Q E s := by
  have hS := N _ (.head _)
  refine wpAny_updateSeq hS.1 rfl ?_ (by rw [List.size_toArray, sizeLine_eq]; omega) (by show (Array.push _ _).size ≤ sizeLine + 1; rw [Array.size_push, List.size_toArray, sizeLine_eq]; omega)
  have hS₃ := Heap.get?_update_self (Obj.mapSeq (·.push v)) hS.1 rfl
  have hk : ∀ b x, b ≠ l → s.heap.get? b = some x → (s.heap.update l (Obj.mapSeq (·.push v))).get? b = some x := fun b x hb e => (Heap.get?_update_other _ _ (Ne.symm hb)).trans e
  refine h (n + 1) _ (fr_ext F hk hS.2.1 hS.2.2) (fun p hp => ?_)
  rcases List.mem_cons.mp hp with rfl | q
  · refine ⟨hS₃.trans ?_, hS.2⟩
    simp [Obj.mapSeq]
  · have P := N p (.tail _ q); exact ⟨hk _ _ (hr p q) P.1, P.2⟩
theorem slice_rule {T : Str} {b e : Nat} {Q : Value → Shared → Prop} (hT : T.cps.size ≤ 1000) (h : ∀ t k, Q (.str (cut T b e) t) { s with toks := k }) : wpAny (model prog w) A (reSlice T.cps 0 b e) Q E s := by
  show wpAny (model prog w) A (mkStr (cut T b e)) Q E s
  refine wpAny_mkStr (h _ _) ?_
  show (T.cps.extract b e).size ≤ sizeLine
  rw [Array.size_extract, sizeLine_eq]; omega
theorem strs_snoc {vs : List Value} {ys : List Str} {y : Str} {t : Tok} (h : StrsAre vs ys) : StrsAre (vs ++ [.str y t]) (ys ++ [y]) := by
  induction h with
  | nil => exact .cons _ _ .nil
  | cons y t _ ih => exact .cons _ _ ih
theorem pushcut_rule {α : Type} {K : Sem α} {l : Addr} {T : Str} {its : List Value} {ys : List Str} {n d b : Nat} {Q : α → Shared → Prop} (hT : T.cps.size ≤ 1000) (F : Fr h₀ L s.heap fm) (N : News h₀ L s.heap ((l, listOf its.toArray n) :: rest)) (hr : ∀ p ∈ rest, p.1 ≠ l) (hz : its.length ≤ 100000) (hi : StrsAre its ys)
    (h : ∀ its' n' h' tk', Fr h₀ L h' fm → News h₀ L h' ((l, listOf its'.toArray n') :: rest) → StrsAre its' (ys ++ if d < b then [cut T d b] else []) → its'.length ≤ its.length + 1 → wpAny (model prog w) A K Q E { s with heap := h', toks := tk' }) :
    wpAny (model prog w) A (if d < b then (do let x ← reSlice T.cps 0 d b; updateSeq l (·.push x); K) else K) Q E s := by
  refine wpAny_ite_split (fun hab => ?_) (fun hab => ?_)
  · refine wpAny_bind (slice_rule hT fun t k => ?_)
    refine wpAny_bind (push_rule (s := { s with toks := k }) F N hr hz fun n' h' F' N' => ?_)
    refine h _ n' h' k F' N' ?_ (by rw [List.length_append]; exact Nat.le_refl _)
    rw [if_pos hab]; exact strs_snoc hi
  · refine h its n s.heap s.toks F N ?_ (by omega)
    rw [if_neg hab, List.append_nil]; exact hi
end
end Mine
end

section
open PySem PySem.W PySem.Calls PyProof.Rows
set_option maxRecDepth 100000
namespace Mine
section
open PySem.Sre PySem.Builtin.Re
variable {prog : Program} {w : World} {A : Around} {E : Value → Shared → Prop} {h₀ : Heap} {L : Addr} {fm : Str → Option Value} {rest : List (Addr × Obj)}
abbrev strSum (zs : List Str) : Nat := (zs.map (·.length)).sum
abbrev wants' (Q : Value → Shared → Prop) (E : Value → Shared → Prop) : Result → Shared → Prop := fun r s' => match r with | .ok (.ret v) => Q v s' | .ok _ => False | .error e => E e s'
theorem cut_nil {T : Str} : cut T 0 0 = Str.ofString "" := by
  apply Str.ext'
  rw [show (Str.ofString "").cps = #[] from by decide +kernel]
  show T.cps.extract 0 0 = #[]
  simp
theorem strs_nil {ys : List Str} (h : StrsAre [] ys) : Txt.join (Str.ofString "") ys = Str.ofString "" := by
  cases h; decide +kernel
theorem loop0 {code : Array Nat} {groups : Nat} {T lit : Str} {P l : Addr} {t u : Tok} {d : Nat} {zs : List Str} {Q : Value → Shared → Prop} (hp : PatAt h₀ P code groups) (hT : T.cps.size ≤ 1000) (hr : ∀ p ∈ rest, p.1 ≠ l)
    (H : SubR code groups T (fun _ v => v = lit) d zs) : ∀ (s : Shared) (its : List Value) (ys : List Str) (n : Nat) (i : Int) (must : Bool), must = false → Fr h₀ L s.heap fm → News h₀ L s.heap ((l, listOf its.toArray n) :: rest) → StrsAre its ys → its.length + 2 * (T.cps.size - d) ≤ 50000 →
      strSum (ys ++ zs) ≤ 100000 →
      (∀ t' h' tk', Fr h₀ L h' fm → News h₀ L h' rest → Q (.str (Txt.join (Str.ofString "") (ys ++ zs)) t') { s with heap := h', toks := tk' }) →
      codeAny (model prog w) A (.builtin "re.Pattern.sub.loop" ⟨[.ref P, .str T t, .str lit u, .int 0 0, .int 0 0, .int i 0, .int d 0, .int d 0, .bool must, .ref l, .bool false], []⟩) (wants' Q E) s := by
  induction H with
  | @stop d hn hd =>
    intro s its ys n i must hmust F N hi hz hs h
    subst hmust
    refine codeAny_builtin entry_loop ?_
    rw [Around.under_plainId plain_loop _]
    unfold Builtin.«re.Pattern.sub.loop»
    dsimp only
    refine wpAny_bind (wholeTarget_rule (hp.keeps F.keep) ?_)
    dsimp only
    obtain ⟨N0, hN0, ho⟩ := hn.run
    rw [if_pos (by decide)]
    refine wpAny_bind (m := reLiteralCannotBeTurned (.str lit u)) (wpAny_of_eq (a := ()) rfl ?_)
    rw [if_neg (by simp)]
    refine wpAny_bind (m := reNextFound _ _ _) ?_
    unfold reNextFound
    refine runToEnd_rule (N := N0) hN0 (.inr ⟨ho, ?_⟩)
    dsimp only
    refine pushcut_rule (d := d) hT F N hr (by omega) hi fun its' n' h' tk' F' N' hi' hl => ?_
    refine wpAny_bind (slice_rule hT fun tj kj => ?_)
    rw [cut_nil]
    have hl' := N' _ (.head _)
    refine wpAny_bind (wpAny_seqItems (s := { s with heap := h', toks := kj }) hl'.1 rfl ?_)
    refine wpAny_ite_split (fun hab => ?_) (fun hab => ?_)
    · refine wpAny_bind (wpAny_pure ?_)
      rw [if_neg (by simp)]
      have e0 : its' = [] := by simpa using hab
      subst e0
      have e1 := strs_nil hi'
      refine wpAny_pure ?_
      have := h tj h' kj F' (fun p hp => N' p (.tail _ hp))
      rw [e1] at this
      exact this
    · rw [if_pos (by decide)]
      refine wpAny_bind (join_list (s := { s with heap := h', toks := kj }) ⟨_, hl'.1, rfl, _, rfl⟩ (by simpa using hi') ?_ fun t' k => ?_)
      · have e0 : (Str.ofString "").length = 0 := by decide +kernel
        rw [e0, Nat.mul_zero]
        have := hs; unfold strSum at this; omega
      · rw [if_neg (by simp)]
        exact wpAny_pure (h t' h' k F' (fun p hp => N' p (.tail _ hp)))
  | @hit d b e sp v zs hm h1 h2 h3 hv hr9 ih =>
    intro s its ys n i must hmust F N hi hz hs h
    subst hmust
    refine codeAny_builtin entry_loop ?_
    rw [Around.under_plainId plain_loop _]
    unfold Builtin.«re.Pattern.sub.loop»
    dsimp only
    refine wpAny_bind (wholeTarget_rule (hp.keeps F.keep) ?_)
    dsimp only
    obtain ⟨N0, m0, hN0, e0, ho, hb, he, hw, hsp⟩ := hm.run
    rw [if_pos (by decide)]
    refine wpAny_bind (m := reLiteralCannotBeTurned (.str lit u)) (wpAny_of_eq (a := ()) rfl ?_)
    rw [if_neg (by simp)]
    refine wpAny_bind (m := reNextFound _ _ _) ?_
    unfold reNextFound
    refine runToEnd_rule (N := N0) hN0 (.inl ⟨m0, e0, ho, ?_⟩)
    dsimp only
    subst hb he hv
    refine pushcut_rule (d := d) hT F N hr (by omega) hi fun its' n' h' tk' F' N' hi' hl => ?_
    rw [if_pos (by decide)]
    refine wpAny_bind (wpAny_pure ?_)
    rw [if_pos (bne_iff_ne.mpr (fun x => by cases x))]
    refine wpAny_bind (push_rule (s := { s with heap := h', toks := tk' }) F' N' hr (by omega) fun n2 h2' F2 N2 => ?_)
    refine wpAny_pure ⟨plainId_quiet plain_loop _, ?_⟩
    have hi2 := strs_snoc (y := v) (t := u) hi'
    refine ih { s with heap := h2', toks := tk' } _ _ n2 (i + 1) (m0.handed == m0.start) (by simp; omega) F2 N2 hi2 (by rw [List.length_append, List.length_singleton]; omega) ?_ ?_
    · refine Nat.le_trans (Nat.le_of_eq ?_) hs
      congr 1; simp
    · intro t' h3' k3 F3 N3
      have := h t' h3' k3 F3 N3
      simpa using this
theorem loop1 {code : Array Nat} {groups : Nat} {T : Str} {repl : Value} {val : List Value → Str → Prop} {P l : Addr} {t : Tok} {d : Nat} {zs : List Str} {Q : Value → Shared → Prop} (hp : PatAt h₀ P code groups) (hT : T.cps.size ≤ 1000) (hg : groups ≤ 100) (hr : ∀ p ∈ rest, p.1 ≠ l)
    (hcb : ∀ (s : Shared) (r tp : Addr) (m0 : Sre.M) (sp : List Value) (v : Str) (its : List Value) (n : Nat) (Q' : Value → Shared → Prop), Fr h₀ L s.heap fm → News h₀ L s.heap ((r, matchObj (.str T t) (.ref P) 0 T.cps.size m0 tp) :: (tp, tupObj (rawInt m0.start :: rawInt m0.handed :: sp)) :: (l, listOf its.toArray n) :: rest) →
      (∀ p ∈ rest, p.1 < tp) → l < tp → tp < r → val sp v →
      (∀ t' h' tk', Fr h₀ L h' fm → News h₀ L h' ((l, listOf its.toArray n) :: rest) → Q' (.str v t') { s with heap := h', toks := tk' }) → wpAny (model prog w) A.in1 (call repl [.ref r]) Q' E s)
    (H : SubR code groups T val d zs) : ∀ (s : Shared) (its : List Value) (ys : List Str) (n : Nat) (i : Int) (must : Bool), must = false → Fr h₀ L s.heap fm → News h₀ L s.heap ((l, listOf its.toArray n) :: rest) → StrsAre its ys → its.length + 2 * (T.cps.size - d) ≤ 50000 →
      strSum (ys ++ zs) ≤ 100000 →
      (∀ t' h' tk', Fr h₀ L h' fm → News h₀ L h' rest → Q (.str (Txt.join (Str.ofString "") (ys ++ zs)) t') { s with heap := h', toks := tk' }) →
      codeAny (model prog w) A (.builtin "re.Pattern.sub.loop" ⟨[.ref P, .str T t, repl, .int 1 0, .int 0 0, .int i 0, .int d 0, .int d 0, .bool must, .ref l, .bool false], []⟩) (wants' Q E) s := by
  induction H with
  | @stop d hn hd =>
    intro s its ys n i must hmust F N hi hz hs h
    subst hmust
    refine codeAny_builtin entry_loop ?_
    rw [Around.under_plainId plain_loop _]
    unfold Builtin.«re.Pattern.sub.loop»
    dsimp only
    refine wpAny_bind (wholeTarget_rule (hp.keeps F.keep) ?_)
    dsimp only
    obtain ⟨N0, hN0, ho⟩ := hn.run
    rw [if_neg (by decide)]
    rw [if_neg (by simp)]
    refine wpAny_bind (m := reNextFound _ _ _) ?_
    unfold reNextFound
    refine runToEnd_rule (N := N0) hN0 (.inr ⟨ho, ?_⟩)
    dsimp only
    refine pushcut_rule (d := d) hT F N hr (by omega) hi fun its' n' h' tk' F' N' hi' hl => ?_
    refine wpAny_bind (slice_rule hT fun tj kj => ?_)
    rw [cut_nil]
    have hl' := N' _ (.head _)
    refine wpAny_bind (wpAny_seqItems (s := { s with heap := h', toks := kj }) hl'.1 rfl ?_)
    refine wpAny_ite_split (fun hab => ?_) (fun hab => ?_)
    · refine wpAny_bind (wpAny_pure ?_)
      rw [if_neg (by simp)]
      have e0 : its' = [] := by simpa using hab
      subst e0
      have e1 := strs_nil hi'
      refine wpAny_pure ?_
      have := h tj h' kj F' (fun p hp => N' p (.tail _ hp))
      rw [e1] at this
      exact this
    · rw [if_pos (by decide)]
      refine wpAny_bind (join_list (s := { s with heap := h', toks := kj }) ⟨_, hl'.1, rfl, _, rfl⟩ (by simpa using hi') ?_ fun t' k => ?_)
      · have e0 : (Str.ofString "").length = 0 := by decide +kernel
        rw [e0, Nat.mul_zero]
        have := hs; unfold strSum at this; omega
      · rw [if_neg (by simp)]
        exact wpAny_pure (h t' h' k F' (fun p hp => N' p (.tail _ hp)))
  | @hit d b e sp v zs hm h1 h2 h3 hv hr9 ih =>
    intro s its ys n i must hmust F N hi hz hs h
    subst hmust
    refine codeAny_builtin entry_loop ?_
    rw [Around.under_plainId plain_loop _]
    unfold Builtin.«re.Pattern.sub.loop»
    dsimp only
    refine wpAny_bind (wholeTarget_rule (hp.keeps F.keep) ?_)
    dsimp only
    obtain ⟨N0, m0, hN0, e0, ho, hb, he, hw, hsp⟩ := hm.run
    rw [if_neg (by decide)]
    rw [if_neg (by simp)]
    refine wpAny_bind (m := reNextFound _ _ _) ?_
    unfold reNextFound
    refine runToEnd_rule (N := N0) hN0 (.inl ⟨m0, e0, ho, ?_⟩)
    dsimp only
    subst hb he hsp
    refine pushcut_rule (d := d) hT F N hr (by omega) hi fun its' n' h' tk' F' N' hi' hl => ?_
    rw [if_neg (by decide)]
    refine wpAny_bind (newMatch_rule (s := { s with heap := h', toks := tk' }) F' N' hg hw fun r tp h5 F5 N5 l5 l6 => ?_)
    refine wpAny_bind (wpAny_holding ?_)
    rw [if_pos (by decide)]
    refine hcb { s with heap := h5, toks := tk' } r tp m0 _ v its' n' _ F5 N5 (fun p hp => l5 p (.tail _ hp)) (l5 _ (.head _)) l6 hv fun t6 h6 k6 F6 N6 => ?_
    rw [if_pos (bne_iff_ne.mpr (fun x => by cases x))]
    refine wpAny_bind (push_rule (s := { s with heap := h6, toks := k6 }) F6 N6 hr (by omega) fun n2 h2' F2 N2 => ?_)
    refine wpAny_pure ⟨plainId_quiet plain_loop _, ?_⟩
    have hi2 := strs_snoc (y := v) (t := t6) hi'
    refine ih { s with heap := h2', toks := k6 } _ _ n2 (i + 1) (m0.handed == m0.start) (by simp; omega) F2 N2 hi2 (by rw [List.length_append, List.length_singleton]; omega) ?_ ?_
    · refine Nat.le_trans (Nat.le_of_eq ?_) hs
      congr 1; simp
    · intro t' h3' k3 F3 N3
      have := h t' h3' k3 F3 N3
      simpa using this
end
end Mine
end

section
open PySem PySem.W PySem.Calls PyProof.Rows
set_option maxRecDepth 100000
namespace Mine
theorem str_nocall : typeLookup (.type "str") "__call__" = pure none := by rw [typeLookup_type, builtinLookup_eq_fast]; kernel_rfl
section
open PySem.Sre PySem.Builtin.Re
variable {prog : Program} {w : World} {A : Around} {E : Value → Shared → Prop} {s : Shared} {h₀ : Heap} {L : Addr} {fm : Str → Option Value} {rest : List (Addr × Obj)}
theorem sub0 {code : Array Nat} {groups : Nat} {T lit : Str} {P : Addr} {t u : Tok} {zs : List Str} {Q : Value → Shared → Prop} (F : Fr h₀ L s.heap fm) (N : News h₀ L s.heap rest) (hp : PatAt h₀ P code groups) (hT : T.cps.size ≤ 1000) (hl : lit.cps.contains 92 = false)
    (H : SubR code groups T (fun _ v => v = lit) 0 zs) (hz : strSum zs ≤ 100000)
    (h : ∀ t' h' tk', Fr h₀ L h' fm → News h₀ L h' rest → Q (.str (Txt.join (Str.ofString "") zs) t') { s with heap := h', toks := tk' }) :
    wpAny (model prog w) A (call (.builtin "re.Pattern.sub") [.ref P, .str lit u, .str T t]) Q E s := by
  have hp' := hp.keeps F.keep
  refine wpAny_call (codeAny_call_builtin slot_sub.plain entry_sub (slot_sub.check _ _ _ _ _ _ _ _ hp'.type (args_sub3 _ _ _) ?_))
  unfold Builtin.«re.Pattern.sub» reSubstitute
  dsimp only
  refine wpAny_bind (wpAny_of_eq (a := [some (.str lit u), some (.str T t), none]) rfl ?_)
  dsimp only
  refine wpAny_bind (wpAny_pure ?_)
  refine wpAny_bind (wpAny_specialOf (typeIs_str s lit u) str_nocall ?_)
  rw [if_neg (by simp)]
  refine wpAny_bind (m := asStr? (.str lit u)) (wpAny_of_eq (a := some lit) rfl ?_)
  dsimp only
  refine wpAny_bind (wpAny_pure ?_)
  rw [hl]
  rw [if_neg (by simp), if_pos (by simp)]
  refine wpAny_bind (wpAny_pure ?_)
  refine wpAny_bind (wpAny_holding (wholeTarget_rule hp' ?_))
  rw [if_neg (fun x => by cases x)]
  refine wpAny_bind (newList_N F N (fun h' F' N' => ?_))
  refine wpAny_pure ⟨plainId_quiet plain_loop _, ?_⟩
  refine loop0 hp hT (fun p hp9 => Nat.ne_of_lt (Heap.lt_size (N p hp9).1)) H { s with heap := h' } [] [] 0 0 false rfl F' N' .nil (by simp; omega) (by simpa using hz) fun t' h2 k2 F2 N2 => ?_
  exact h t' h2 k2 F2 N2
theorem sub1 {code : Array Nat} {groups : Nat} {T : Str} {P f : Addr} {t : Tok} {zs : List Str} {val : List Value → Str → Prop} {Q : Value → Shared → Prop} (F : Fr h₀ L s.heap fm) (N : News h₀ L s.heap rest) (hp : PatAt h₀ P code groups) (hT : T.cps.size ≤ 1000) (hg : groups ≤ 100)
    (hf : s.TypeIs (.ref f) "function")
    (hcb : ∀ (l : Addr) (s : Shared) (r tp : Addr) (m0 : Sre.M) (sp : List Value) (v : Str) (its : List Value) (n : Nat) (Q' : Value → Shared → Prop), (∀ p ∈ rest, p.1 < l) → Fr h₀ L s.heap fm → News h₀ L s.heap ((r, matchObj (.str T t) (.ref P) 0 T.cps.size m0 tp) :: (tp, tupObj (rawInt m0.start :: rawInt m0.handed :: sp)) :: (l, listOf its.toArray n) :: rest) →
      (∀ p ∈ rest, p.1 < tp) → l < tp → tp < r → val sp v →
      (∀ t' h' tk', Fr h₀ L h' fm → News h₀ L h' ((l, listOf its.toArray n) :: rest) → Q' (.str v t') { s with heap := h', toks := tk' }) → wpAny (model prog w) A.in1 (call (.ref f) [.ref r]) Q' E s)
    (H : SubR code groups T val 0 zs) (hz : strSum zs ≤ 100000)
    (h : ∀ t' h' tk', Fr h₀ L h' fm → News h₀ L h' rest → Q (.str (Txt.join (Str.ofString "") zs) t') { s with heap := h', toks := tk' }) :
    wpAny (model prog w) A (call (.builtin "re.Pattern.sub") [.ref P, .ref f, .str T t]) Q E s := by
  have hp' := hp.keeps F.keep
  refine wpAny_call (codeAny_call_builtin slot_sub.plain entry_sub (slot_sub.check _ _ _ _ _ _ _ _ hp'.type (args_sub3 _ _ _) ?_))
  unfold Builtin.«re.Pattern.sub» reSubstitute
  dsimp only
  refine wpAny_bind (wpAny_of_eq (a := [some (.ref f), some (.str T t), none]) rfl ?_)
  dsimp only
  refine wpAny_bind (wpAny_pure ?_)
  refine wpAny_bind (wpAny_specialOf hf fn_call ?_)
  rw [if_pos (by simp)]
  refine wpAny_bind (wpAny_pure ?_)
  rw [if_pos (by simp)]
  refine wpAny_bind (wpAny_pure ?_)
  refine wpAny_bind (wpAny_holding (wholeTarget_rule hp' ?_))
  rw [if_pos (by rfl)]
  refine wpAny_bind (m := reNotHeld _ _) ?_
  unfold reNotHeld
  refine wpAny_bind (wpAny_isInstance (T := "str") (b := false) (typeIs_str s T t) (by rw [isSubtype_type]; kernel_rfl) ?_)
  rw [if_neg (by simp)]
  dsimp only
  refine wpAny_pure ?_
  refine wpAny_bind (newList_N F N (fun h' F' N' => ?_))
  refine wpAny_pure ⟨plainId_quiet plain_loop _, ?_⟩
  have hlt : ∀ p ∈ rest, p.1 < s.heap.objs.size := fun p hp9 => Heap.lt_size (N p hp9).1
  refine loop1 hp hT hg (fun p hp9 => Nat.ne_of_lt (hlt p hp9)) (fun s' r tp m0 sp v its n Q' => hcb _ s' r tp m0 sp v its n Q' hlt) H { s with heap := h' } [] [] 0 0 false rfl F' N' .nil (by simp; omega) (by simpa using hz) fun t' h2 k2 F2 N2 => ?_
  exact h t' h2 k2 F2 N2
end
end Mine
end

section
open PySem PySem.W PySem.Calls PyProof.Rows
set_option maxRecDepth 100000
namespace Mine
section
open PySem.Sre PySem.Builtin.Re
variable {prog : Program} {w : World} {A : Around} {E : Value → Shared → Prop} {s : Shared}
theorem grp_rule {r tp : Addr} {T : Str} {t ti : Tok} {pat : Value} {m : Sre.M} {lim : Nat} {items : List Value} {g : Nat} {Q : Value → Shared → Prop} {gi : Int} (hgi : gi = (g : Int)) (ho : s.heap.get? r = some (matchObj (.str T t) pat 0 lim m tp)) (ht : s.heap.get? tp = some (tupObj items)) (hg : 2 * g < items.length)
    (h : wpAny (model prog w) A.in1 (reGroupText ⟨#[.str T t, pat, rawInt 0, rawInt lim, rawInt m.lastindex, .ref tp], items.toArray.map reRawOf⟩ g .none) Q E s) :
    wpAny (model prog w) A (call (.builtin "re.Match.group") [.ref r, .int gi ti]) Q E s := by
  subst hgi
  have hT : s.TypeIs (.ref r) "re.Match" := ⟨_, ho, rfl⟩
  refine wpAny_call_entry slot_grp hT entry_grp ?_ (args_grp2 _ _)
  unfold Builtin.«re.Match.group»
  refine wpAny_bind (wpAny_of_eq (a := ()) rfl ?_)
  dsimp only
  refine wpAny_bind (m := reFound _) ?_
  unfold reFound
  refine wpAny_bind (wpAny_fieldsOf ho rfl ?_)
  refine wpAny_bind (rawItems_rule ht rfl (wpAny_pure ?_))
  refine wpAny_bind (m := reGroupNumber _ _) ?_
  unfold reGroupNumber
  refine wpAny_bind (m := asInt? _) (wpAny_of_eq (a := some (g : Int)) rfl ?_)
  rw [if_pos (by simp)]
  refine wpAny_bind (m := asIndex _) (wpAny_of_eq (a := (g : Int)) rfl ?_)
  dsimp only
  rw [if_neg ?_]
  · refine wpAny_pure ?_
    refine wpAny_bind (wpAny_mono h (fun v s' q => wpAny_pure ⟨v, rfl, q⟩) fun _ _ x => x)
  · rw [Array.size_map, List.size_toArray]
    simp
    omega
theorem grp_miss {r tp : Addr} {T : Str} {t ti : Tok} {pat : Value} {m : Sre.M} {lim : Nat} {items : List Value} {g : Nat} {Q : Value → Shared → Prop} {gi : Int} (hgi : gi = (g : Int)) (ho : s.heap.get? r = some (matchObj (.str T t) pat 0 lim m tp)) (ht : s.heap.get? tp = some (tupObj items)) (hg : 2 * g < items.length)
    (hb : (items.toArray.map reRawOf).getD (2 * g) (-1) = -1) (h : Q .none s) :
    wpAny (model prog w) A (call (.builtin "re.Match.group") [.ref r, .int gi ti]) Q E s := by
  refine grp_rule hgi ho ht hg ?_
  unfold reGroupText
  dsimp only
  rw [hb, if_pos (by simp)]
  exact wpAny_pure h
theorem raw_getD {items : List Value} {i : Nat} (hi : i < items.length) : (items.toArray.map reRawOf).getD i (-1) = reRawOf (items.getD i .none) := by
  simp [Array.getD, hi, List.getD]
theorem grp_hit {r tp : Addr} {T : Str} {t ti : Tok} {pat : Value} {m : Sre.M} {lim b e : Nat} {items : List Value} {g : Nat} {Q : Value → Shared → Prop} {gi : Int} (hgi : gi = (g : Int)) (ho : s.heap.get? r = some (matchObj (.str T t) pat 0 lim m tp)) (ht : s.heap.get? tp = some (tupObj items)) (hg : 2 * g + 1 < items.length)
    (hb : items.getD (2 * g) .none = rawInt (b : Int)) (he : items.getD (2 * g + 1) .none = rawInt (e : Int)) (hT : T.cps.size ≤ 1000) (h : ∀ t k, Q (.str (cut T b e) t) { s with toks := k }) :
    wpAny (model prog w) A (call (.builtin "re.Match.group") [.ref r, .int gi ti]) Q E s := by
  refine grp_rule hgi ho ht (by omega) ?_
  unfold reGroupText
  dsimp only
  rw [raw_getD (by omega), raw_getD hg, hb, he]
  show wpAny (model prog w) A.in1 (if (decide ((b : Int) < 0) || decide ((e : Int) < 0)) = true then _ else _) Q E s
  rw [if_neg (by simp)]
  refine wpAny_bind (m := reTextOf _) (textOf_rule ?_)
  exact slice_rule hT h
theorem getM_match {r : Addr} {o : Obj} {pl : Sem Bool} {Q : Value × List Value → Shared → Prop} (ho : s.heap.get? r = some o) (hc : o.cls = .type "re.Match") (hd : o.dict = none)
    (h : Q (.builtin "re.Match.group", [.ref r]) s) : wpAny (model prog w) A (getMethod (.ref r) "group" pl) Q E s :=
  getMethod_builtin ⟨o, ho, hc⟩ pa_match slot_grp type_grp (fun a e => by
    cases e
    exact ⟨o, ho, hd⟩) h
def valI (T : Str) (sp : List Value) (v : Str) : Prop := ∃ b1 e1 : Int, ∃ b e : Nat, (sp = [rawInt b1, rawInt e1, rawInt b, rawInt e, rawInt (-1), rawInt (-1)] ∨ sp = [rawInt b1, rawInt e1, rawInt (-1), rawInt (-1), rawInt b, rawInt e]) ∧ v = cut T b e
end
end Mine
end

section
open PySem.Sre
namespace Mine
namespace En
def easyW : Wait → Bool
  | .nextStart | .nextBranch | .giveBack | .takeMore => true
  | _ => false
structure Ok (C X : Array Nat) (G d : Nat) (m : PySem.Sre.M) : Prop where
  code : m.code = C
  text : m.text = X
  lim : m.lim = X.size
  whole : m.wholeText = false
  adv : m.mustAdvance = false
  inner : m.inner = none
  out : m.outcome = none
  ans : m.answer = none
  size : m.marks.size = G
  weight : m.weight ≤ d
  easy : (∀ f ∈ m.frames, easyW f.wait = true) ∧ m.frames.length ≤ d
structure Failed (m m' : PySem.Sre.M) : Prop where
  ans : m'.answer = some false
  out : m'.outcome = none
  frames : m'.frames = m.frames
  code : m'.code = m.code
  text : m'.text = m.text
  lim : m'.lim = m.lim
  start : m'.start = m.start
  last : m'.lastStart = m.lastStart
  whole : m'.wholeText = m.wholeText
  adv : m'.mustAdvance = m.mustAdvance
  inner : m'.inner = m.inner
  size : m'.marks.size = m.marks.size
  weight : m'.weight = m.weight
  zero : 0 ≤ m.lastmark → m'.marks.getD 0 none = m.marks.getD 0 none
structure Won (R : Nat → Nat → Int → Array (Option Nat) → Prop) (m' : PySem.Sre.M) : Prop where
  ans : m'.answer = some true
  out : m'.outcome = none
  easy : (∀ f ∈ m'.frames, easyW f.wait = true) ∧ m'.frames.length ≤ 1000
  res : R m'.start m'.handed m'.lastmark m'.marks
def Ends (k : Nat) (m : PySem.Sre.M) (P : PySem.Sre.M → Prop) : Prop := ∃ n, n ≤ k ∧ P (m.runFor n)
theorem runFor_stop {m : PySem.Sre.M} (h : m.outcome.isSome = true) : ∀ n, m.runFor n = m
  | 0 => rfl
  | n + 1 => by unfold PySem.Sre.M.runFor; rw [if_pos h]
theorem runFor_succ {m : PySem.Sre.M} (h : m.outcome = none) (n : Nat) : m.runFor (n + 1) = (m.step).runFor n := by
  conv => lhs; unfold PySem.Sre.M.runFor
  rw [if_neg (by rw [h]; exact Bool.false_ne_true)]
theorem runFor_add : ∀ (a b : Nat) (m : PySem.Sre.M), m.runFor (a + b) = (m.runFor a).runFor b
  | 0, b, m => by rw [Nat.zero_add]; rfl
  | a + 1, b, m => by
    cases h : m.outcome with
    | some o => (have hs : m.outcome.isSome = true := by rw [h]; rfl); rw [runFor_stop hs, runFor_stop hs, runFor_stop hs]
    | none => rw [Nat.add_right_comm, runFor_succ h, runFor_succ h, runFor_add a b]
theorem ends_now {m : PySem.Sre.M} {P : PySem.Sre.M → Prop} {k : Nat} (h : P m) : Ends k m P := ⟨0, Nat.zero_le _, h⟩
theorem ends_step {m : PySem.Sre.M} {P : PySem.Sre.M → Prop} {k : Nat} (ho : m.outcome = none) (h : Ends k m.step P) : Ends (k + 1) m P := by
  obtain ⟨n, hn, hp⟩ := h
  exact ⟨n + 1, Nat.succ_le_succ hn, by rw [runFor_succ ho]; exact hp⟩
theorem ends_trans {m : PySem.Sre.M} {P Q : PySem.Sre.M → Prop} {k j : Nat} (h : Ends k m Q) (hq : ∀ m', Q m' → Ends j m' P) : Ends (k + j) m P := by
  obtain ⟨n, hn, hp⟩ := h
  obtain ⟨n', hn', hp'⟩ := hq _ hp
  exact ⟨n + n', Nat.add_le_add hn hn', by rw [runFor_add]; exact hp'⟩
theorem ends_le {m : PySem.Sre.M} {P : PySem.Sre.M → Prop} {k j : Nat} (h : Ends k m P) (hk : k ≤ j) : Ends j m P := by
  obtain ⟨n, hn, hp⟩ := h
  exact ⟨n, Nat.le_trans hn hk, hp⟩
theorem ends_mono {m : PySem.Sre.M} {P Q : PySem.Sre.M → Prop} {k : Nat} (h : Ends k m P) (hq : ∀ m', P m' → Q m') : Ends k m Q := by
  obtain ⟨n, hn, hp⟩ := h
  exact ⟨n, hn, hq _ hp⟩
abbrev Fails (k : Nat) (m : PySem.Sre.M) : Prop := Ends k m (Failed m)
abbrev Wins (k : Nat) (m : PySem.Sre.M) (R : Nat → Nat → Int → Array (Option Nat) → Prop) : Prop := Ends k m (Won R)
/-- the parts that a plain step leaves -/
structure Same (m m1 : PySem.Sre.M) : Prop where
  frames : m1.frames = m.frames
  code : m1.code = m.code
  text : m1.text = m.text
  lim : m1.lim = m.lim
  start : m1.start = m.start
  last : m1.lastStart = m.lastStart
  whole : m1.wholeText = m.wholeText
  adv : m1.mustAdvance = m.mustAdvance
  inner : m1.inner = m.inner
  size : m1.marks.size = m.marks.size
  weight : m1.weight = m.weight
  zero : 0 ≤ m.lastmark → m1.marks.getD 0 none = m.marks.getD 0 none
  lmk : 0 ≤ m.lastmark → 0 ≤ m1.lastmark
theorem Same.failed {m m1 m' : PySem.Sre.M} (s : Same m m1) (f : Failed m1 m') : Failed m m' :=
  ⟨f.ans, f.out, f.frames.trans s.frames, f.code.trans s.code, f.text.trans s.text, f.lim.trans s.lim, f.start.trans s.start, f.last.trans s.last, f.whole.trans s.whole, f.adv.trans s.adv, f.inner.trans s.inner, f.size.trans s.size, f.weight.trans s.weight, fun h => (f.zero (s.lmk h)).trans (s.zero h)⟩
theorem fails_step {m m1 : PySem.Sre.M} {k : Nat} (ho : m.outcome = none) (e : m.step = m1) (s : Same m m1) (h : Fails k m1) : Fails (k + 1) m :=
  ends_step ho (by rw [e]; exact ends_mono h fun _ => s.failed)
theorem fails_now {m m1 : PySem.Sre.M} (ho : m.outcome = none) (e : m.step = m1) (s : Failed m m1) : Fails 1 m :=
  ends_step (k := 0) ho (by rw [e]; exact ends_now s)
theorem step_exec {m : PySem.Sre.M} (ho : m.outcome = none) (ha : m.answer = none) (hp : m.pc < m.code.size) : m.step = m.exec := by
  unfold PySem.Sre.M.step
  rw [if_neg (by rw [ho]; exact Bool.false_ne_true), ha]
  simp only [if_pos hp]
theorem step_pop {m : PySem.Sre.M} {f : Frame} {rest : List Frame} {y : Bool} (ho : m.outcome = none) (ha : m.answer = some y) (hf : m.frames = f :: rest) :
    m.step = M.resume { m with answer := none, frames := rest, weight := m.weight - (1 + f.kept.marks.size), pc := f.pc, pos := f.pos, outermost := f.outermost } f y := by
  unfold PySem.Sre.M.step
  rw [if_neg (by rw [ho]; exact Bool.false_ne_true), ha, hf]
theorem step_end {m : PySem.Sre.M} {y : Bool} (ho : m.outcome = none) (ha : m.answer = some y) (hf : m.frames = []) :
    m.step = { m with outcome := some (if y then .matched else .failed) } := by
  unfold PySem.Sre.M.step
  rw [if_neg (by rw [ho]; exact Bool.false_ne_true), ha, hf]
section
variable {C X : Array Nat} {G d : Nat} {m : PySem.Sre.M}
structure At (C X : Array Nat) (G d : Nat) (m : PySem.Sre.M) (pc pos st : Nat) (lm : Int) (mk : Array (Option Nat)) : Prop extends Ok C X G d m where
  pc : m.pc = pc
  pos : m.pos = pos
  start : m.start = st
  lastmark : m.lastmark = lm
  marks : m.marks = mk
abbrev Rt := Nat → Nat → Int → Array (Option Nat) → Prop
def Does (k : Nat) (m : PySem.Sre.M) : Option Rt → Prop
  | none => Fails k m
  | some R => Wins k m R
theorem does_step {m m1 : PySem.Sre.M} {k : Nat} {g : Option Rt} (ho : m.outcome = none) (e : m.step = m1) (s : Same m m1) (h : Does k m1 g) : Does (k + 1) m g := by
  cases g with
  | none => exact fails_step ho e s h
  | some R => exact ends_step ho (by rw [e]; exact h)
theorem does_le {m : PySem.Sre.M} {k j : Nat} {g : Option Rt} (h : Does k m g) (hk : k ≤ j) : Does j m g := by
  cases g with
  | none => exact ends_le h hk
  | some R => exact ends_le h hk
theorem exec_lit (h : m.word 0 = 16) : m.exec = if m.pos ≥ m.lim then { m with seen := m.seen.add 16 }.say false else
    if m.text.getD m.pos 0 == m.word 1 then { m with seen := m.seen.add 16, pc := m.pc + 2, pos := m.pos + 1 } else { m with seen := m.seen.add 16 }.say false := by
  have h' : m.code.getD m.pc 0 = 16 := h
  unfold PySem.Sre.M.exec
  rw [h]
  show (if m.pos ≥ m.lim then { m with seen := m.seen.add 16 }.say false else match accepts m.code m.pc (m.text.getD m.pos 0) (m.seen.add 16) with
    | .error why => _ | .ok (false, seen) => _ | .ok (true, seen) => _) = _
  unfold accepts itemWidth
  rw [h']
  show (if m.pos ≥ m.lim then _ else match (Except.ok (m.text.getD m.pos 0 == m.word 1, m.seen.add 16) : Except String (Bool × Seen)) with
    | .error why => _ | .ok (false, seen) => _ | .ok (true, seen) => _) = _
  cases hb : (m.text.getD m.pos 0 == m.word 1) <;> rfl
variable {pc pos st k : Nat} {lm : Int} {mk : Array (Option Nat)} {g : Option Rt}
theorem At.word (a : At C X G d m pc pos st lm mk) (i : Nat) : m.word i = C.getD (pc + i) 0 := by
  unfold PySem.Sre.M.word; rw [a.code, a.pc]
theorem At.step (a : At C X G d m pc pos st lm mk) (hp : pc < C.size) : m.step = m.exec := step_exec a.out a.ans (by rw [a.pc, a.code]; exact hp)
theorem At.failed {m1 : PySem.Sre.M} (a : At C X G d m pc pos st lm mk) (e : m1.answer = some false) (s : Same m m1) (o : m1.outcome = m.outcome) : Failed m m1 :=
  ⟨e, o.trans a.out, s.frames, s.code, s.text, s.lim, s.start, s.last, s.whole, s.adv, s.inner, s.size, s.weight, s.zero⟩
theorem lit_fail (a : At C X G d m pc pos st lm mk) {c : Nat} (hp : pc + 1 < C.size) (hop : C.getD pc 0 = 16) (hc : C.getD (pc + 1) 0 = c) (h : pos < X.size → X.getD pos 0 ≠ c) : Fails 1 m := by
  have e := (a.step (by omega)).trans (exec_lit ((a.word 0).trans hop))
  by_cases hl : pos ≥ X.size
  · rw [if_pos (by rw [a.pos, a.lim]; exact hl)] at e
    exact fails_now a.out e (a.failed rfl ⟨rfl, rfl, rfl, rfl, rfl, rfl, rfl, rfl, rfl, rfl, rfl, (fun _ => rfl), id⟩ rfl)
  · rw [if_neg (by rw [a.pos, a.lim]; exact hl), if_neg (by rw [a.word 1, hc, a.text, a.pos]; simpa using h (by omega))] at e
    exact fails_now a.out e (a.failed rfl ⟨rfl, rfl, rfl, rfl, rfl, rfl, rfl, rfl, rfl, rfl, rfl, (fun _ => rfl), id⟩ rfl)
theorem lit_go (a : At C X G d m pc pos st lm mk) {c : Nat} (hp : pc + 1 < C.size) (hop : C.getD pc 0 = 16) (hc : C.getD (pc + 1) 0 = c) (hl : pos < X.size) (h : X.getD pos 0 = c)
    (n : ∀ m1, At C X G d m1 (pc + 2) (pos + 1) st lm mk → Does k m1 g) : Does (k + 1) m g := by
  have e := (a.step (by omega)).trans (exec_lit ((a.word 0).trans hop))
  rw [if_neg (by rw [a.pos, a.lim]; omega), if_pos (by rw [a.word 1, hc, a.text, a.pos]; simpa using h)] at e
  refine does_step a.out e ⟨rfl, rfl, rfl, rfl, rfl, rfl, rfl, rfl, rfl, rfl, rfl, (fun _ => rfl), id⟩ (n _ ?_)
  exact ⟨⟨a.code, a.text, a.lim, a.whole, a.adv, a.inner, a.out, a.ans, a.size, a.weight, a.easy⟩, by show m.pc + 2 = _; rw [a.pc], by show m.pos + 1 = _; rw [a.pos], a.start, a.lastmark, a.marks⟩
theorem exec_jump (h : m.word 0 = 15) : m.exec = { m with seen := m.seen.add 15, pc := m.pc + 1 + m.word 1 } := by
  unfold PySem.Sre.M.exec; rw [h]; rfl
theorem jump_go (a : At C X G d m pc pos st lm mk) {t : Nat} (hp : pc < C.size) (hop : C.getD pc 0 = 15) (ht : pc + 1 + C.getD (pc + 1) 0 = t)
    (n : ∀ m1, At C X G d m1 t pos st lm mk → Does k m1 g) : Does (k + 1) m g := by
  have e := (a.step hp).trans (exec_jump ((a.word 0).trans hop))
  rw [a.word 1] at e
  refine does_step a.out e ⟨rfl, rfl, rfl, rfl, rfl, rfl, rfl, rfl, rfl, rfl, rfl, (fun _ => rfl), id⟩ (n _ ?_)
  exact ⟨⟨a.code, a.text, a.lim, a.whole, a.adv, a.inner, a.out, a.ans, a.size, a.weight, a.easy⟩, by show m.pc + 1 + _ = _; rw [a.pc]; exact ht, a.pos, a.start, a.lastmark, a.marks⟩
theorem exec_succ (h : m.word 0 = 1) (hw : m.wholeText = false) (ha : m.mustAdvance = false) : m.exec = { m with seen := m.seen.add 1, handed := m.pos, answer := some true } := by
  unfold PySem.Sre.M.exec; rw [h]
  show (if m.outermost && ((m.wholeText && m.pos != m.lim) || (m.mustAdvance && m.pos == m.start)) then _ else _) = _
  rw [hw, ha, Bool.false_and, Bool.false_and, Bool.or_false, Bool.and_false]
  rfl
theorem succ_win (a : At C X G d m pc pos st lm mk) {R : Rt} (hd : d ≤ 1000) (hp : pc < C.size) (hop : C.getD pc 0 = 1) (hR : R st pos lm mk) : Wins 1 m R := by
  have e := (a.step hp).trans (exec_succ ((a.word 0).trans hop) a.whole a.adv)
  have hR' : R m.start m.pos m.lastmark m.marks := by rw [a.start, a.pos, a.lastmark, a.marks]; exact hR
  exact ends_step (k := 0) a.out (by rw [e]; exact ends_now ⟨rfl, a.out, ⟨a.easy.1, Nat.le_trans a.easy.2 hd⟩, hR'⟩)
/-- MARK -/
theorem exec_mark (h : m.word 0 = 17) : m.exec = M.mark { m with seen := m.seen.add 17 } (m.word 1) := by
  unfold PySem.Sre.M.exec; rw [h]; rfl
def markF (mk : Array (Option Nat)) (lm : Int) (i pos : Nat) : Array (Option Nat) :=
  (if (i : Int) ≤ lm + 1 then mk else (List.range i).foldl (fun (a : Array (Option Nat)) (j : Nat) => if (j : Int) > lm then a.setIfInBounds j none else a) mk).setIfInBounds i (some pos)
theorem clear_size {lm : Int} : ∀ (l : List Nat) (mk : Array (Option Nat)), (l.foldl (fun (a : Array (Option Nat)) (j : Nat) => if (j : Int) > lm then a.setIfInBounds j none else a) mk).size = mk.size
  | [], _ => rfl
  | j :: l, mk => by
    rw [List.foldl_cons, clear_size l]
    split <;> simp
theorem markF_size {lm : Int} {i : Nat} : (markF mk lm i pos).size = mk.size := by
  unfold markF
  rw [Array.size_setIfInBounds]
  split
  · rfl
  · exact clear_size _ _
theorem clear_zero {lm : Int} (h : 0 ≤ lm) : ∀ (l : List Nat) (mk : Array (Option Nat)), (l.foldl (fun (a : Array (Option Nat)) (j : Nat) => if (j : Int) > lm then a.setIfInBounds j none else a) mk).getD 0 none = mk.getD 0 none
  | [], _ => rfl
  | j :: l, mk => by
    rw [List.foldl_cons, clear_zero h l]
    split
    · next hj =>
      have : j ≠ 0 := by omega
      simp [Array.getD_eq_getD_getElem?, Array.getElem?_setIfInBounds, this]
    · rfl
theorem markF_zero {lm : Int} {i : Nat} (h : 0 ≤ lm) (hi : i ≠ 0) : (markF mk lm i pos).getD 0 none = mk.getD 0 none := by
  unfold markF
  have e : ∀ b : Array (Option Nat), (b.setIfInBounds i (some pos)).getD 0 none = b.getD 0 none := fun b => by
    simp [Array.getD_eq_getD_getElem?, Array.getElem?_setIfInBounds, hi]
  rw [e]
  split
  · rfl
  · exact clear_zero h _ _
theorem mark_go (a : At C X G d m pc pos st lm mk) {i : Nat} (hi0 : i ≠ 0 ∨ lm < 0) (hp : pc < C.size) (hop : C.getD pc 0 = 17) (hi : C.getD (pc + 1) 0 = i)
    (n : ∀ m1, At C X G d m1 (pc + 2) pos st (max lm i) (markF mk lm i pos) → Does k m1 g) : Does (k + 1) m g := by
  have e := (a.step hp).trans (exec_mark ((a.word 0).trans hop))
  rw [a.word 1, hi] at e
  have em : (M.mark { m with seen := m.seen.add 17 } i).marks = markF mk lm i pos := by
    show markF m.marks m.lastmark i m.pos = _
    rw [a.marks, a.lastmark, a.pos]
  refine does_step a.out e ⟨rfl, rfl, rfl, rfl, rfl, rfl, rfl, rfl, rfl, by rw [em, markF_size, a.marks], rfl, fun h => (by rw [em, a.marks]; rw [a.lastmark] at h; exact markF_zero h (by rcases hi0 with h' | h'; exact h'; omega)), fun h => (by show 0 ≤ max m.lastmark (i : Int); omega)⟩ (n _ ?_)
  exact ⟨⟨a.code, a.text, a.lim, a.whole, a.adv, a.inner, a.out, a.ans, by rw [em, markF_size, ← a.marks]; exact a.size, a.weight, a.easy⟩, by show m.pc + 2 = _; rw [a.pc], a.pos, a.start, by show max m.lastmark i = _; rw [a.lastmark], em⟩
/-- AT 10: a word boundary -/
def bnd (X : Array Nat) (p : Nat) : Bool := X.size != 0 && (p > 0 && isWordUni (X.getD (p - 1) 0)) != (p < X.size && isWordUni (X.getD p 0))
theorem exec_at (h : m.word 0 = 6) (h1 : m.word 1 = 10) : m.exec = if (m.lim != 0 && ((m.pos > 0 && isWordUni (m.text.getD (m.pos - 1) 0)) != (m.pos < m.lim && isWordUni (m.text.getD m.pos 0))) == true) = true then { m with seen := (m.seen.add 6).add (43 + m.word 1), pc := m.pc + 2 } else { m with seen := (m.seen.add 6).add (43 + m.word 1) }.say false := by
  unfold PySem.Sre.M.exec; rw [h]
  have e : M.isAt { m with seen := m.seen.add 6 } (m.word 1) = .ok (m.lim != 0 && ((m.pos > 0 && isWordUni (m.text.getD (m.pos - 1) 0)) != (m.pos < m.lim && isWordUni (m.text.getD m.pos 0))) == true) := by rw [h1]; rfl
  show (match M.isAt { m with seen := m.seen.add 6 } (m.word 1) with | .error why => _ | .ok yes => _) = _
  rw [e]; rfl
theorem at_fail (a : At C X G d m pc pos st lm mk) (hp : pc < C.size) (hop : C.getD pc 0 = 6) (hc : C.getD (pc + 1) 0 = 10) (h : bnd X pos = false) : Fails 1 m := by
  have e := (a.step (by omega)).trans (exec_at ((a.word 0).trans hop) ((a.word 1).trans hc))
  rw [if_neg (by rw [a.pos, a.lim, a.text]; unfold bnd at h; simpa using h)] at e
  exact fails_now a.out e (a.failed rfl ⟨rfl, rfl, rfl, rfl, rfl, rfl, rfl, rfl, rfl, rfl, rfl, (fun _ => rfl), id⟩ rfl)
theorem at_go (a : At C X G d m pc pos st lm mk) (hp : pc < C.size) (hop : C.getD pc 0 = 6) (hc : C.getD (pc + 1) 0 = 10) (h : bnd X pos = true)
    (n : ∀ m1, At C X G d m1 (pc + 2) pos st lm mk → Does k m1 g) : Does (k + 1) m g := by
  have e := (a.step (by omega)).trans (exec_at ((a.word 0).trans hop) ((a.word 1).trans hc))
  rw [if_pos (by rw [a.pos, a.lim, a.text]; unfold bnd at h; simpa using h)] at e
  refine does_step a.out e ⟨rfl, rfl, rfl, rfl, rfl, rfl, rfl, rfl, rfl, rfl, rfl, (fun _ => rfl), id⟩ (n _ ?_)
  exact ⟨⟨a.code, a.text, a.lim, a.whole, a.adv, a.inner, a.out, a.ans, a.size, a.weight, a.easy⟩, by show m.pc + 2 = _; rw [a.pc], a.pos, a.start, a.lastmark, a.marks⟩
theorem acc_not {code : Array Nat} {i c : Nat} {seen : Seen} (h : code.getD i 0 = 20) : accepts code i c seen = .ok (c != code.getD (i + 1) 0, seen) := by
  unfold accepts; rw [h]; rfl
theorem acc_any {code : Array Nat} {i c : Nat} {seen : Seen} (h : code.getD i 0 = 2) : accepts code i c seen = .ok (c != 10, seen) := by
  unfold accepts; rw [h]; rfl
theorem run_not {code text : Array Nat} {i c : Nat} (h : code.getD i 0 = 20) (hc : code.getD (i + 1) 0 = c) : ∀ (N n p found : Nat) (seen : Seen), n ≤ N → (∀ j, j < n → text.getD (p + j) 0 ≠ c) → (n = N ∨ text.getD (p + n) 0 = c) →
    run code text i N p found seen = .ok (found + n, seen)
  | 0, n, p, found, seen, hn, _, _ => by
    have : n = 0 := by omega
    subst this; rfl
  | N + 1, n, p, found, seen, hn, hr, he => by
    unfold run
    rw [acc_not h, hc]
    cases n with
    | zero =>
      have h0 : text.getD p 0 = c := by
        rcases he with he | he
        · omega
        · simpa using he
      rw [h0]
      show (if (c != c) = true then _ else _) = _
      rw [if_neg (by simp)]; rfl
    | succ n =>
      have h0 := hr 0 (by omega)
      rw [Nat.add_zero] at h0
      show (if (text.getD p 0 != c) = true then _ else _) = _
      rw [if_pos (by simpa using h0), run_not h hc N n (p + 1) (found + 1) seen (by omega) (fun j hj => by have := hr (j + 1) (by omega); rwa [show p + 1 + j = p + (j + 1) from by omega]) (by
        rcases he with he | he
        · exact .inl (by omega)
        · exact .inr (by rwa [show p + 1 + n = p + (n + 1) from by omega]))]
      rw [show found + 1 + n = found + (n + 1) from by omega]
theorem exec_rep {n : Nat} {sn : Seen} (h : m.word 0 = 24) (h2 : m.word 2 = 0) (hr : run m.code m.text (m.pc + 4) (min (m.word 3) ((m.lim : Int) - m.pos).toNat) m.pos 0 ((m.seen.add 24).add (m.word 4)) = .ok (n, sn)) (hp : m.pos ≤ m.lim) :
    m.exec = M.afterRun { m with seen := sn, pos := m.pos + n } .giveBack n (M.keep { m with seen := sn, pos := m.pos + n } m.inner.isSome) := by
  unfold PySem.Sre.M.exec; rw [h]
  show (if ((m.word 2 : Nat) : Int) > (m.lim : Int) - m.pos then _ else match run m.code m.text (m.pc + 4) (min (m.word 3) ((m.lim : Int) - m.pos).toNat) m.pos 0 ((m.seen.add 24).add (m.word 4)) with | .error why => _ | .ok (n, seen) => _) = _
  rw [if_neg (by omega), hr]
  show (if n < m.word 2 then M.say { m with seen := sn } false else M.afterRun { m with seen := sn, pos := m.pos + n } .giveBack n (M.keep { m with seen := sn, pos := m.pos + n } m.inner.isSome)) = _
  rw [if_neg (by omega)]
theorem exec_min {sn : Seen} (h : m.word 0 = 26) (h2 : m.word 2 = 0) (hr : run m.code m.text (m.pc + 4) (min (m.word 2) ((m.lim : Int) - m.pos).toNat) m.pos 0 ((m.seen.add 26).add (m.word 4)) = .ok (0, sn)) (hp : m.pos ≤ m.lim) :
    m.exec = M.afterRun { m with seen := sn, pos := m.pos + 0 } .takeMore ((0 : Nat) : Int) (M.keep { m with seen := sn, pos := m.pos + 0 } m.inner.isSome) := by
  unfold PySem.Sre.M.exec; rw [h]
  show (if ((m.word 2 : Nat) : Int) > (m.lim : Int) - m.pos then _ else match run m.code m.text (m.pc + 4) (min (m.word 2) ((m.lim : Int) - m.pos).toNat) m.pos 0 ((m.seen.add 26).add (m.word 4)) with | .error why => _ | .ok (n, seen) => _) = _
  rw [if_neg (by omega), hr]
  show (if 0 < m.word 2 then M.say { m with seen := sn } false else M.afterRun { m with seen := sn, pos := m.pos + 0 } .takeMore ((0 : Nat) : Int) (M.keep { m with seen := sn, pos := m.pos + 0 } m.inner.isSome)) = _
  rw [if_neg (by omega)]
/-- the state behind attempt, seen from the state m -/
structure Tried (C X : Array Nat) (G d : Nat) (m : PySem.Sre.M) (f : Frame) (m1 : PySem.Sre.M) (pc pos st : Nat) (lm : Int) (mk : Array (Option Nat)) : Prop extends At C X G (d + 1) m1 pc pos st lm mk where
  fr : m1.frames = f :: m.frames
  last : m1.lastStart = m.lastStart
  wt : m1.weight = m.weight + 1
  kw : f.kept.whole = false
  km : f.kept.marks = #[]
  kl : f.kept.lastmark = lm
  ml : m.lastmark = lm
  mz : 0 ≤ m.lastmark → mk.getD 0 none = m.marks.getD 0 none
theorem attempt_eq {f : Frame} {t p : Nat} {om : Bool} (hw : m.weight ≤ 1000) (hk : f.kept.marks = #[]) :
    m.attempt f t p om = { m with frames := f :: m.frames, weight := m.weight + 1 + 0, pc := t, pos := p, handed := p, outermost := om } := by
  unfold PySem.Sre.M.attempt
  rw [hk]
  show (if m.weight + 1 + 0 > 16777216 then _ else _) = _
  rw [if_neg (by omega)]
  rfl
/-- what is left of m, where a frame of m's is asked anew -/
structure Rest (C X : Array Nat) (G d : Nat) (m m1 : PySem.Sre.M) (pc pos st : Nat) (lm : Int) : Prop where
  ok : At C X G d m1 pc pos st lm m1.marks
  s : Same m m1
  ml : m.lastmark = lm
theorem Same.trans {m m1 m2 : PySem.Sre.M} (a : Same m m1) (b : Same m1 m2) : Same m m2 :=
  ⟨b.frames.trans a.frames, b.code.trans a.code, b.text.trans a.text, b.lim.trans a.lim, b.start.trans a.start, b.last.trans a.last, b.whole.trans a.whole, b.adv.trans a.adv, b.inner.trans a.inner, b.size.trans a.size, b.weight.trans a.weight, fun h => (b.zero (a.lmk h)).trans (a.zero h), fun h => b.lmk (a.lmk h)⟩
/-- a failed attempt, and the frame popped -/
theorem popped {m m1 m' : PySem.Sre.M} {f : Frame} {p pos : Nat} (a : Ok C X G d m) (hs : m.start = st) (x : Tried C X G d m f m1 p pos st lm mk) (hf : Failed m1 m') :
    m'.outcome = none ∧ m'.step = M.resume { m' with answer := none, frames := m.frames, weight := m'.weight - (1 + f.kept.marks.size), pc := f.pc, pos := f.pos, outermost := f.outermost } f false ∧
    Rest C X G d m (M.putBack { m' with answer := none, frames := m.frames, weight := m'.weight - (1 + f.kept.marks.size), pc := f.pc, pos := f.pos, outermost := f.outermost } f.kept) f.pc f.pos st lm := by
  refine ⟨hf.out, step_pop hf.out hf.ans (hf.frames.trans x.fr), ?_⟩
  have hw : m'.weight - (1 + f.kept.marks.size) = m.weight := by
    rw [x.km, hf.weight, x.wt]; simp
  have hm : (M.putBack { m' with answer := none, frames := m.frames, weight := m'.weight - (1 + f.kept.marks.size), pc := f.pc, pos := f.pos, outermost := f.outermost } f.kept).marks = m'.marks := by
    unfold PySem.Sre.M.putBack; rw [x.kw]; rfl
  have hz : m'.marks.size = G := hf.size.trans x.size
  exact ⟨⟨⟨hf.code.trans x.code, hf.text.trans x.text, hf.lim.trans x.lim, hf.whole.trans x.whole, hf.adv.trans x.adv, hf.inner.trans x.inner, hf.out, rfl, by rw [hm]; exact hz, by show m'.weight - _ ≤ _; rw [hw]; exact a.weight, a.easy⟩, rfl, rfl, hf.start.trans x.start, x.kl, rfl⟩,
    ⟨rfl, (hf.code.trans x.code).trans a.code.symm, (hf.text.trans x.text).trans a.text.symm, (hf.lim.trans x.lim).trans a.lim.symm, (hf.start.trans x.start).trans hs.symm, hf.last.trans x.last, (hf.whole.trans x.whole).trans a.whole.symm, (hf.adv.trans x.adv).trans a.adv.symm, (hf.inner.trans x.inner).trans a.inner.symm, by rw [hm, hz, a.size], hw, fun h => (by rw [hm]; exact (hf.zero (by rw [x.lastmark, ← x.ml]; exact h)).trans (by rw [x.marks]; exact x.mz h)), fun h => (by rw [x.ml] at h; show 0 ≤ f.kept.lastmark; rw [x.kl]; exact h)⟩, x.ml⟩
/-- afterRun, from a state that has what m has -/
theorem after_tried {m0 : PySem.Sre.M} {w : Wait} {n : Int} {kp : Kept} {p t : Nat} (r : Rest C X G d m m0 pc p st lm) (hw : easyW w = true) (hd : d ≤ 1000) (ht : pc + 1 + C.getD (pc + 1) 0 = t) (k1 : kp.whole = false) (k2 : kp.marks = #[]) (k3 : kp.lastmark = lm) :
    Tried C X G d m { wait := w, pc := pc, pos := p, outermost := m0.outermost, count := n, kept := kp } (m0.afterRun w n kp) t p st lm m0.marks := by
  have a := r.ok
  have hf : ({ m0.frame w with count := n, kept := kp } : Frame) = { wait := w, pc := pc, pos := p, outermost := m0.outermost, count := n, kept := kp } := by
    unfold PySem.Sre.M.frame; rw [a.pc, a.pos]
  unfold PySem.Sre.M.afterRun
  rw [hf, attempt_eq (Nat.le_trans a.weight hd) k2]
  exact ⟨⟨⟨a.code, a.text, a.lim, a.whole, a.adv, a.inner, a.out, a.ans, a.size, Nat.succ_le_succ a.weight, ⟨fun f hf => by
      rcases List.mem_cons.mp hf with rfl | h
      · exact hw
      · exact a.easy.1 f h, Nat.succ_le_succ a.easy.2⟩⟩, by show m0.pc + 1 + m0.word 1 = t; rw [a.pc, a.word 1]; exact ht, a.pos, a.start, a.lastmark, rfl⟩,
    by show _ :: m0.frames = _; rw [r.s.frames], r.s.last, by show m0.weight + 1 + 0 = _; rw [r.s.weight], k1, k2, k3, r.ml, r.s.zero⟩
theorem Rest.same {m0 m1 : PySem.Sre.M} (r : Rest C X G d m m0 pc pos st lm) (s : Same m0 m1) (o : m1.outcome = none) (a : m1.answer = some false) : Failed m m1 :=
  let t := r.s.trans s
  ⟨a, o, t.frames, t.code, t.text, t.lim, t.start, t.last, t.whole, t.adv, t.inner, t.size, t.weight, t.zero⟩
theorem give_fail {kp : Kept} {om : Bool} {t k : Nat} (a : Ok C X G d m) (hs : m.start = st) (hd : d ≤ 1000) (hz : C.getD (pc + 2) 0 = 0) (ht : pc + 1 + C.getD (pc + 1) 0 = t) : ∀ (j : Nat) (m1 : PySem.Sre.M) (mk : Array (Option Nat)),
    (∀ i, i ≤ j → ∀ m1 mk, At C X G (d + 1) m1 t (pos + i) st lm mk → Fails k m1) →
    Tried C X G d m { wait := .giveBack, pc := pc, pos := pos + j, outermost := om, count := (j : Int), kept := kp } m1 t (pos + j) st lm mk → Ends ((k + 1) * (j + 1)) m1 (Failed m)
  | j, m1, mk, H, x => by
    have hk := H j (Nat.le_refl _) m1 mk x.toAt
    have main : Ends (k + (1 + (k + 1) * j)) m1 (Failed m) := by
      refine ends_trans hk fun m' hf => ?_
      obtain ⟨o, e, r⟩ := popped a hs x hf
      rw [Nat.add_comm]
      refine ends_step o ?_
      rw [e]
      unfold PySem.Sre.M.resume
      dsimp only
      rw [if_neg (by decide)]
      have hw : M.word { m' with answer := none, frames := m.frames, weight := m'.weight - (1 + kp.marks.size), pc := pc, pos := pos + j, outermost := om } 2 = 0 := by
        show m'.code.getD (pc + 2) 0 = 0
        rw [hf.code, x.code]; exact hz
      rw [hw]
      cases j with
      | zero =>
        rw [if_pos (by omega)]
        exact ends_le (ends_now (r.same ⟨rfl, rfl, rfl, rfl, rfl, rfl, rfl, rfl, rfl, rfl, rfl, (fun _ => rfl), id⟩ hf.out rfl)) (Nat.zero_le _)
      | succ j =>
        rw [if_neg (by omega)]
        have ec : ((j + 1 : Nat) : Int) - 1 = (j : Int) := by omega
        have ep : pos + (j + 1) - 1 = pos + j := by omega
        rw [ec, ep]
        have r' : Rest C X G d m { (M.putBack { m' with answer := none, frames := m.frames, weight := m'.weight - (1 + kp.marks.size), pc := pc, pos := pos + (j + 1), outermost := om } kp) with pos := pos + j } pc (pos + j) st lm :=
          ⟨⟨⟨r.ok.code, r.ok.text, r.ok.lim, r.ok.whole, r.ok.adv, r.ok.inner, r.ok.out, r.ok.ans, r.ok.size, r.ok.weight, r.ok.easy⟩, r.ok.pc, rfl, r.ok.start, r.ok.lastmark, rfl⟩, ⟨r.s.frames, r.s.code, r.s.text, r.s.lim, r.s.start, r.s.last, r.s.whole, r.s.adv, r.s.inner, r.s.size, r.s.weight, r.s.zero, r.s.lmk⟩, r.ml⟩
        exact give_fail a hs hd hz ht j _ _ (fun i hi => H i (by omega)) (after_tried (n := (j : Int)) r' rfl hd ht x.kw x.km x.kl)
    refine ends_le main ?_
    rw [Nat.mul_succ]; omega
theorem give_win {kp : Kept} {om : Bool} {t k w : Nat} {R : Rt} (a : Ok C X G d m) (hs : m.start = st) (hd : d ≤ 1000) (hz : C.getD (pc + 2) 0 = 0) (ht : pc + 1 + C.getD (pc + 1) 0 = t)
    (hw : ∀ m1 mk, At C X G (d + 1) m1 t (pos + w) st lm mk → Wins k m1 R) : ∀ (j : Nat) (m1 : PySem.Sre.M) (mk : Array (Option Nat)), w ≤ j →
    (∀ i, w < i → i ≤ j → ∀ m1 mk, At C X G (d + 1) m1 t (pos + i) st lm mk → Fails k m1) →
    Tried C X G d m { wait := .giveBack, pc := pc, pos := pos + j, outermost := om, count := (j : Int), kept := kp } m1 t (pos + j) st lm mk → Wins ((k + 1) * (j + 1)) m1 R
  | j, m1, mk, hj, H, x => by
    by_cases hwj : w = j
    · subst hwj
      refine ends_le (hw m1 mk x.toAt) ?_
      rw [Nat.mul_succ]; omega
    · have hk := H j (by omega) (Nat.le_refl _) m1 mk x.toAt
      have main : Ends (k + (1 + (k + 1) * j)) m1 (Won R) := by
        refine ends_trans hk fun m' hf => ?_
        obtain ⟨o, e, r⟩ := popped a hs x hf
        rw [Nat.add_comm]
        refine ends_step o ?_
        rw [e]
        unfold PySem.Sre.M.resume
        dsimp only
        rw [if_neg (by decide)]
        have hw0 : M.word { m' with answer := none, frames := m.frames, weight := m'.weight - (1 + kp.marks.size), pc := pc, pos := pos + j, outermost := om } 2 = 0 := by
          show m'.code.getD (pc + 2) 0 = 0
          rw [hf.code, x.code]; exact hz
        rw [hw0]
        cases j with
        | zero => omega
        | succ j =>
          rw [if_neg (by omega)]
          have ec : ((j + 1 : Nat) : Int) - 1 = (j : Int) := by omega
          have ep : pos + (j + 1) - 1 = pos + j := by omega
          rw [ec, ep]
          have r' : Rest C X G d m { (M.putBack { m' with answer := none, frames := m.frames, weight := m'.weight - (1 + kp.marks.size), pc := pc, pos := pos + (j + 1), outermost := om } kp) with pos := pos + j } pc (pos + j) st lm :=
            ⟨⟨⟨r.ok.code, r.ok.text, r.ok.lim, r.ok.whole, r.ok.adv, r.ok.inner, r.ok.out, r.ok.ans, r.ok.size, r.ok.weight, r.ok.easy⟩, r.ok.pc, rfl, r.ok.start, r.ok.lastmark, rfl⟩, ⟨r.s.frames, r.s.code, r.s.text, r.s.lim, r.s.start, r.s.last, r.s.whole, r.s.adv, r.s.inner, r.s.size, r.s.weight, r.s.zero, r.s.lmk⟩, r.ml⟩
          exact give_win a hs hd hz ht hw j _ _ (by omega) (fun i h1 hi => H i h1 (by omega)) (after_tried (n := (j : Int)) r' rfl hd ht x.kw x.km x.kl)
      refine ends_le main ?_
      rw [Nat.mul_succ]; omega
theorem rep_start (a : At C X G d m pc pos st lm mk) {n c t : Nat} (hd : d ≤ 1000) (hp : pc < C.size) (hop : C.getD pc 0 = 24) (ht : pc + 1 + C.getD (pc + 1) 0 = t) (h2 : C.getD (pc + 2) 0 = 0) (h3 : C.getD (pc + 3) 0 = 4294967295)
    (h4 : C.getD (pc + 4) 0 = 20) (h5 : C.getD (pc + 5) 0 = c) (hX : X.size ≤ 4294967295) (hn : pos + n ≤ X.size) (hr : ∀ j, j < n → X.getD (pos + j) 0 ≠ c) (he : pos + n = X.size ∨ X.getD (pos + n) 0 = c) :
    ∃ kp om, Tried C X G d m { wait := .giveBack, pc := pc, pos := pos + n, outermost := om, count := (n : Int), kept := kp } m.step t (pos + n) st lm mk := by
  have hrun : ∀ sn, run m.code m.text (m.pc + 4) (min (m.word 3) ((m.lim : Int) - m.pos).toNat) m.pos 0 sn = .ok (n, sn) := by
    intro sn
    rw [a.code, a.text, a.pc, a.word 3, h3, a.lim, a.pos]
    have := run_not (code := C) (text := X) h4 h5 (min 4294967295 ((X.size : Int) - pos).toNat) n pos 0 sn (by omega) hr (by rcases he with he | he; exact .inl (by omega); exact .inr he)
    rwa [Nat.zero_add] at this
  have e := (a.step hp).trans (exec_rep ((a.word 0).trans hop) ((a.word 2).trans h2) (hrun _) (by rw [a.pos, a.lim]; omega))
  rw [e]
  have hin : m.inner.isSome = false := by rw [a.inner]; rfl
  rw [hin]
  have r : ∀ sn, Rest C X G d m { m with seen := sn, pos := m.pos + n } pc (pos + n) st lm := fun sn => ⟨⟨⟨a.code, a.text, a.lim, a.whole, a.adv, a.inner, a.out, a.ans, a.size, a.weight, a.easy⟩, a.pc, by show m.pos + n = _; rw [a.pos], a.start, a.lastmark, rfl⟩, ⟨rfl, rfl, rfl, rfl, rfl, rfl, rfl, rfl, rfl, rfl, rfl, (fun _ => rfl), id⟩, a.lastmark⟩
  have := after_tried (w := .giveBack) (n := (n : Int)) (kp := M.keep { m with seen := (m.seen.add 24).add (m.word 4), pos := m.pos + n } false) (r ((m.seen.add 24).add (m.word 4))) rfl hd ht rfl rfl a.lastmark
  rw [← a.marks]
  exact ⟨_, _, this⟩
theorem rep_fail (a : At C X G d m pc pos st lm mk) {n c t k : Nat} (hd : d ≤ 1000) (hp : pc < C.size) (hop : C.getD pc 0 = 24) (ht : pc + 1 + C.getD (pc + 1) 0 = t) (h2 : C.getD (pc + 2) 0 = 0) (h3 : C.getD (pc + 3) 0 = 4294967295)
    (h4 : C.getD (pc + 4) 0 = 20) (h5 : C.getD (pc + 5) 0 = c) (hX : X.size ≤ 4294967295) (hn : pos + n ≤ X.size) (hr : ∀ j, j < n → X.getD (pos + j) 0 ≠ c) (he : pos + n = X.size ∨ X.getD (pos + n) 0 = c)
    (H : ∀ i, i ≤ n → ∀ m1 mk, At C X G (d + 1) m1 t (pos + i) st lm mk → Fails k m1) : Fails ((k + 1) * (n + 1) + 1) m := by
  obtain ⟨kp, om, x⟩ := rep_start a hd hp hop ht h2 h3 h4 h5 hX hn hr he
  exact ends_step a.out (give_fail a.toOk a.start hd h2 ht n _ _ H x)
theorem rep_win (a : At C X G d m pc pos st lm mk) {n c t k w : Nat} {R : Rt} (hd : d ≤ 1000) (hp : pc < C.size) (hop : C.getD pc 0 = 24) (ht : pc + 1 + C.getD (pc + 1) 0 = t) (h2 : C.getD (pc + 2) 0 = 0) (h3 : C.getD (pc + 3) 0 = 4294967295)
    (h4 : C.getD (pc + 4) 0 = 20) (h5 : C.getD (pc + 5) 0 = c) (hX : X.size ≤ 4294967295) (hn : pos + n ≤ X.size) (hr : ∀ j, j < n → X.getD (pos + j) 0 ≠ c) (he : pos + n = X.size ∨ X.getD (pos + n) 0 = c)
    (hw : w ≤ n) (H : ∀ i, w < i → i ≤ n → ∀ m1 mk, At C X G (d + 1) m1 t (pos + i) st lm mk → Fails k m1) (W : ∀ m1 mk, At C X G (d + 1) m1 t (pos + w) st lm mk → Wins k m1 R) : Wins ((k + 1) * (n + 1) + 1) m R := by
  obtain ⟨kp, om, x⟩ := rep_start a hd hp hop ht h2 h3 h4 h5 hX hn hr he
  exact ends_step a.out (give_win a.toOk a.start hd h2 ht W n _ _ hw H x)
/-- the lazy repeat of ANY -/
theorem more_step {kp : Kept} {om : Bool} {t k j : Nat} {m1 : PySem.Sre.M} {P : PySem.Sre.M → Prop} {K : Nat} (a : Ok C X G d m) (hs : m.start = st) (hd : d ≤ 1000) (hm : C.getD (pc + 3) 0 = 4294967295) (h4 : C.getD (pc + 4) 0 = 2) (ht : pc + 1 + C.getD (pc + 1) 0 = t)
    (x : Tried C X G d m { wait := .takeMore, pc := pc, pos := pos + j, outermost := om, count := (j : Int), kept := kp } m1 t (pos + j) st lm mk)
    (hk : Fails k m1) (hend : (pos + j < X.size → X.getD (pos + j) 0 = 10) → ∀ m2, Failed m m2 → P m2)
    (hgo : pos + j < X.size → X.getD (pos + j) 0 ≠ 10 → ∀ m2 mk2 om2, Tried C X G d m { wait := .takeMore, pc := pc, pos := pos + (j + 1), outermost := om2, count := ((j + 1 : Nat) : Int), kept := kp } m2 t (pos + (j + 1)) st lm mk2 → Ends K m2 P) :
    Ends (k + (K + 1)) m1 P := by
  refine ends_trans hk fun m' hf => ?_
  obtain ⟨o, e, r⟩ := popped a hs x hf
  refine ends_step o ?_
  rw [e]
  unfold PySem.Sre.M.resume
  dsimp only
  rw [if_neg (by decide)]
  have hw : M.word { m' with answer := none, frames := m.frames, weight := m'.weight - (1 + kp.marks.size), pc := pc, pos := pos + j, outermost := om } 3 = 4294967295 := by
    show m'.code.getD (pc + 3) 0 = _
    rw [hf.code, x.code]; exact hm
  rw [hw, if_neg (by rw [show (4294967295 != maxRepeat) = false from by decide]; simp)]
  have hl : m'.lim = X.size := hf.lim.trans x.lim
  have ht' : m'.text = X := hf.text.trans x.text
  have hc : m'.code = C := hf.code.trans x.code
  by_cases hx : pos + j ≥ X.size
  · rw [if_pos (by rw [hl]; exact hx)]
    refine ends_le (ends_now (hend (fun h => by omega) _ (r.same ⟨rfl, rfl, rfl, rfl, rfl, rfl, rfl, rfl, rfl, rfl, rfl, (fun _ => rfl), id⟩ hf.out rfl))) (Nat.zero_le _)
  · have eacc : accepts m'.code (pc + 4) (m'.text.getD (pos + j) 0) m'.seen = .ok (X.getD (pos + j) 0 != 10, m'.seen) := by rw [hc, ht']; exact acc_any h4
    rw [if_neg (by rw [hl]; exact hx), eacc]
    by_cases hy : X.getD (pos + j) 0 = 10
    · rw [hy]
      exact ends_le (ends_now (hend (fun _ => hy) _ (r.same ⟨rfl, rfl, rfl, rfl, rfl, rfl, rfl, rfl, rfl, rfl, rfl, (fun _ => rfl), id⟩ hf.out rfl))) (Nat.zero_le _)
    · rw [show (X.getD (pos + j) 0 != 10) = true from by simpa using hy]
      have ec : ((j : Nat) : Int) + 1 = ((j + 1 : Nat) : Int) := by omega
      dsimp only
      rw [ec, Nat.add_assoc pos j 1]
      have r' : Rest C X G d m { (M.putBack { m' with answer := none, frames := m.frames, weight := m'.weight - (1 + kp.marks.size), pc := pc, pos := pos + j, outermost := om } kp) with seen := m'.seen, pos := pos + (j + 1) } pc (pos + (j + 1)) st lm :=
        ⟨⟨⟨r.ok.code, r.ok.text, r.ok.lim, r.ok.whole, r.ok.adv, r.ok.inner, r.ok.out, r.ok.ans, r.ok.size, r.ok.weight, r.ok.easy⟩, r.ok.pc, rfl, r.ok.start, r.ok.lastmark, rfl⟩, ⟨r.s.frames, r.s.code, r.s.text, r.s.lim, r.s.start, r.s.last, r.s.whole, r.s.adv, r.s.inner, r.s.size, r.s.weight, r.s.zero, r.s.lmk⟩, r.ml⟩
      exact hgo (by omega) hy _ _ _ (after_tried (w := .takeMore) (n := ((j + 1 : Nat) : Int)) r' rfl hd ht x.kw x.km x.kl)
theorem lazy_fail {kp : Kept} {t k : Nat} (a : Ok C X G d m) (hs : m.start = st) (hd : d ≤ 1000) (hm : C.getD (pc + 3) 0 = 4294967295) (h4 : C.getD (pc + 4) 0 = 2) (ht : pc + 1 + C.getD (pc + 1) 0 = t)
    (H : ∀ i, (∀ l, l < i → pos + l < X.size ∧ X.getD (pos + l) 0 ≠ 10) → ∀ m1 mk, At C X G (d + 1) m1 t (pos + i) st lm mk → Fails k m1) :
    ∀ (u j : Nat) (m1 : PySem.Sre.M) (mk : Array (Option Nat)) (om : Bool), X.size - (pos + j) ≤ u → (∀ l, l < j → pos + l < X.size ∧ X.getD (pos + l) 0 ≠ 10) →
    Tried C X G d m { wait := .takeMore, pc := pc, pos := pos + j, outermost := om, count := (j : Int), kept := kp } m1 t (pos + j) st lm mk → Ends ((k + 1) * (u + 1)) m1 (Failed m)
  | u, j, m1, mk, om, hu, hj, x => by
    have hk := H j hj m1 mk x.toAt
    have main : Ends (k + ((k + 1) * u + 1)) m1 (Failed m) := by
      refine more_step a hs hd hm h4 ht x hk (fun _ _ h => h) (fun h1 h2 m2 mk2 om2 x2 => ?_)
      cases u with
      | zero => omega
      | succ u =>
        refine lazy_fail a hs hd hm h4 ht H u (j + 1) m2 mk2 om2 (by omega) (fun l hl => ?_) x2
        rcases Nat.lt_succ_iff_lt_or_eq.mp hl with h | h
        · exact hj l h
        · subst h; exact ⟨h1, h2⟩
    refine ends_le main ?_
    rw [Nat.mul_succ]; omega
theorem lazy_win {kp : Kept} {t k w : Nat} {R : Rt} (a : Ok C X G d m) (hs : m.start = st) (hd : d ≤ 1000) (hm : C.getD (pc + 3) 0 = 4294967295) (h4 : C.getD (pc + 4) 0 = 2) (ht : pc + 1 + C.getD (pc + 1) 0 = t)
    (H : ∀ i, i < w → ∀ m1 mk, At C X G (d + 1) m1 t (pos + i) st lm mk → Fails k m1) (hrun : ∀ l, l < w → pos + l < X.size ∧ X.getD (pos + l) 0 ≠ 10)
    (W : ∀ m1 mk, (0 ≤ m.lastmark → mk.getD 0 none = m.marks.getD 0 none) → At C X G (d + 1) m1 t (pos + w) st lm mk → Wins k m1 R) :
    ∀ (u j : Nat) (m1 : PySem.Sre.M) (mk : Array (Option Nat)) (om : Bool), w - j = u → j ≤ w →
    Tried C X G d m { wait := .takeMore, pc := pc, pos := pos + j, outermost := om, count := (j : Int), kept := kp } m1 t (pos + j) st lm mk → Wins ((k + 1) * (u + 1)) m1 R
  | 0, j, m1, mk, om, hu, hj, x => by
    have : j = w := by omega
    subst this
    exact ends_le (W m1 mk x.mz x.toAt) (by rw [Nat.mul_succ]; omega)
  | u + 1, j, m1, mk, om, hu, hj, x => by
    have hk := H j (by omega) m1 mk x.toAt
    have main : Ends (k + ((k + 1) * (u + 1) + 1)) m1 (Won R) := by
      refine more_step a hs hd hm h4 ht x hk (fun h => ?_) (fun h1 h2 m2 mk2 om2 x2 => ?_)
      · have := hrun j (by omega)
        exact absurd (h this.1) this.2
      · exact lazy_win a hs hd hm h4 ht H hrun W u (j + 1) m2 mk2 om2 (by omega) (by omega) x2
    refine ends_le main ?_
    rw [Nat.mul_succ (k + 1) (u + 1)]; omega
theorem min_start (a : At C X G d m pc pos st lm mk) {t : Nat} (hd : d ≤ 1000) (hp : pc < C.size) (hop : C.getD pc 0 = 26) (ht : pc + 1 + C.getD (pc + 1) 0 = t) (h2 : C.getD (pc + 2) 0 = 0) (hl : pos ≤ X.size) :
    ∃ kp om, Tried C X G d m { wait := .takeMore, pc := pc, pos := pos + 0, outermost := om, count := ((0 : Nat) : Int), kept := kp } m.step t (pos + 0) st lm mk := by
  have hrun : ∀ sn, run m.code m.text (m.pc + 4) (min (m.word 2) ((m.lim : Int) - m.pos).toNat) m.pos 0 sn = .ok (0, sn) := by
    intro sn
    rw [a.word 2, h2, Nat.zero_min]; rfl
  have e := (a.step hp).trans (exec_min ((a.word 0).trans hop) ((a.word 2).trans h2) (hrun _) (by rw [a.pos, a.lim]; omega))
  rw [e]
  have hin : m.inner.isSome = false := by rw [a.inner]; rfl
  rw [hin]
  have r : ∀ sn, Rest C X G d m { m with seen := sn, pos := m.pos + 0 } pc (pos + 0) st lm := fun sn => ⟨⟨⟨a.code, a.text, a.lim, a.whole, a.adv, a.inner, a.out, a.ans, a.size, a.weight, a.easy⟩, a.pc, by show m.pos + 0 = _; rw [a.pos], a.start, a.lastmark, rfl⟩, ⟨rfl, rfl, rfl, rfl, rfl, rfl, rfl, rfl, rfl, rfl, rfl, (fun _ => rfl), id⟩, a.lastmark⟩
  have := after_tried (w := .takeMore) (n := ((0 : Nat) : Int)) (kp := M.keep { m with seen := (m.seen.add 26).add (m.word 4), pos := m.pos + 0 } false) (r ((m.seen.add 26).add (m.word 4))) rfl hd ht rfl rfl a.lastmark
  rw [← a.marks]
  exact ⟨_, _, this⟩
theorem min_fail (a : At C X G d m pc pos st lm mk) {t k : Nat} (hd : d ≤ 1000) (hp : pc < C.size) (hop : C.getD pc 0 = 26) (ht : pc + 1 + C.getD (pc + 1) 0 = t) (h2 : C.getD (pc + 2) 0 = 0) (hm : C.getD (pc + 3) 0 = 4294967295) (h4 : C.getD (pc + 4) 0 = 2) (hl : pos ≤ X.size)
    (H : ∀ i, (∀ l, l < i → pos + l < X.size ∧ X.getD (pos + l) 0 ≠ 10) → ∀ m1 mk, At C X G (d + 1) m1 t (pos + i) st lm mk → Fails k m1) : Fails ((k + 1) * (X.size - pos + 1) + 1) m := by
  obtain ⟨kp, om, x⟩ := min_start a hd hp hop ht h2 hl
  exact ends_step a.out (lazy_fail a.toOk a.start hd hm h4 ht H (X.size - pos) 0 _ _ _ (by omega) (fun l hl => absurd hl (Nat.not_lt_zero _)) x)
theorem min_win (a : At C X G d m pc pos st lm mk) {t k w : Nat} {R : Rt} (hd : d ≤ 1000) (hp : pc < C.size) (hop : C.getD pc 0 = 26) (ht : pc + 1 + C.getD (pc + 1) 0 = t) (h2 : C.getD (pc + 2) 0 = 0) (hm : C.getD (pc + 3) 0 = 4294967295) (h4 : C.getD (pc + 4) 0 = 2) (hl : pos ≤ X.size)
    (H : ∀ i, i < w → ∀ m1 mk, At C X G (d + 1) m1 t (pos + i) st lm mk → Fails k m1) (hrun : ∀ l, l < w → pos + l < X.size ∧ X.getD (pos + l) 0 ≠ 10)
    (W : ∀ m1 mk', (0 ≤ lm → mk'.getD 0 none = mk.getD 0 none) → At C X G (d + 1) m1 t (pos + w) st lm mk' → Wins k m1 R) : Wins ((k + 1) * (w + 1) + 1) m R := by
  obtain ⟨kp, om, x⟩ := min_start a hd hp hop ht h2 hl
  exact ends_step a.out (lazy_win a.toOk a.start hd hm h4 ht H hrun (fun m1 mk' hz => W m1 mk' (by rw [a.lastmark, a.marks] at hz; exact hz)) w 0 _ _ _ (by omega) (Nat.zero_le _) x)
/-- BRANCH -/
theorem exec_branch (h : m.word 0 = 7) (hi : m.inner = none) : m.exec = M.alternative { m with seen := m.seen.add 7 } (m.pc + 1) (M.keep { m with seen := m.seen.add 7 } false) := by
  unfold PySem.Sre.M.exec; rw [h]
  show M.alternative { m with seen := m.seen.add 7 } (m.pc + 1) (M.keep { m with seen := m.seen.add 7 } m.inner.isSome) = _
  rw [hi]; rfl
theorem alt_tried {m0 : PySem.Sre.M} {kp : Kept} {p alt : Nat} (r : Rest C X G d m m0 pc p st lm) (hd : d ≤ 1000) (hn : C.getD alt 0 ≠ 0) (k1 : kp.whole = false) (k2 : kp.marks = #[]) (k3 : kp.lastmark = lm) :
    Tried C X G d m { wait := .nextBranch, pc := alt, pos := p, outermost := m0.outermost, kept := kp } (m0.alternative alt kp) (alt + 1) p st lm m0.marks := by
  have a := r.ok
  unfold PySem.Sre.M.alternative
  rw [if_neg (by rw [a.code]; simpa using hn)]
  have hf : ({ m0.frame .nextBranch with pc := alt, kept := kp } : Frame) = { wait := .nextBranch, pc := alt, pos := p, outermost := m0.outermost, kept := kp } := by
    unfold PySem.Sre.M.frame; rw [a.pos]
  rw [hf, attempt_eq (Nat.le_trans a.weight hd) k2]
  exact ⟨⟨⟨a.code, a.text, a.lim, a.whole, a.adv, a.inner, a.out, a.ans, a.size, Nat.succ_le_succ a.weight, ⟨fun f hf => by
      rcases List.mem_cons.mp hf with rfl | h
      · rfl
      · exact a.easy.1 f h, Nat.succ_le_succ a.easy.2⟩⟩, rfl, a.pos, a.start, a.lastmark, rfl⟩,
    by show _ :: m0.frames = _; rw [r.s.frames], r.s.last, by show m0.weight + 1 + 0 = _; rw [r.s.weight], k1, k2, k3, r.ml, r.s.zero⟩
theorem alt_next {kp : Kept} {om : Bool} {alt s1 k K : Nat} {m1 : PySem.Sre.M} {P : PySem.Sre.M → Prop} (a : Ok C X G d m) (hs : m.start = st) (h1 : C.getD alt 0 = s1)
    (x : Tried C X G d m { wait := .nextBranch, pc := alt, pos := pos, outermost := om, kept := kp } m1 (alt + 1) pos st lm mk) (hk : Fails k m1)
    (hgo : ∀ m0, Rest C X G d m m0 alt pos st lm → Ends K (m0.alternative (alt + s1) kp) P) : Ends (k + (K + 1)) m1 P := by
  refine ends_trans hk fun m' hf => ?_
  obtain ⟨o, e, r⟩ := popped a hs x hf
  refine ends_step o ?_
  rw [e]
  unfold PySem.Sre.M.resume
  dsimp only
  rw [if_neg (by decide)]
  have hc : m'.code.getD alt 0 = s1 := by rw [hf.code, x.code]; exact h1
  rw [hc]
  exact hgo _ r
theorem lit_fail' (a : At C X G d m pc pos st lm mk) {c : Nat} (hp : pc + 1 < C.size) (hop : C.getD pc 0 = 16) (hc : C.getD (pc + 1) 0 = c) (h : pos < X.size → X.getD pos 0 ≠ c) : Failed m m.step ∧ m.step.marks = mk := by
  have e := (a.step (by omega)).trans (exec_lit ((a.word 0).trans hop))
  by_cases hl : pos ≥ X.size
  · rw [if_pos (by rw [a.pos, a.lim]; exact hl)] at e
    rw [e]
    exact ⟨a.failed rfl ⟨rfl, rfl, rfl, rfl, rfl, rfl, rfl, rfl, rfl, rfl, rfl, (fun _ => rfl), id⟩ rfl, a.marks⟩
  · rw [if_neg (by rw [a.pos, a.lim]; exact hl), if_neg (by rw [a.word 1, hc, a.text, a.pos]; simpa using h (by omega))] at e
    rw [e]
    exact ⟨a.failed rfl ⟨rfl, rfl, rfl, rfl, rfl, rfl, rfl, rfl, rfl, rfl, rfl, (fun _ => rfl), id⟩ rfl, a.marks⟩
theorem alt_lit {kp : Kept} {om : Bool} {alt s1 c K : Nat} {m1 : PySem.Sre.M} {P : PySem.Sre.M → Prop} (a : Ok C X G d m) (hs : m.start = st) (h1 : C.getD alt 0 = s1)
    (x : Tried C X G d m { wait := .nextBranch, pc := alt, pos := pos, outermost := om, kept := kp } m1 (alt + 1) pos st lm mk)
    (hp : alt + 1 + 1 < C.size) (hop : C.getD (alt + 1) 0 = 16) (hc : C.getD (alt + 1 + 1) 0 = c) (h : pos < X.size → X.getD pos 0 ≠ c)
    (hgo : ∀ m0, Rest C X G d m m0 alt pos st lm → m0.marks = mk → Ends K (m0.alternative (alt + s1) kp) P) : Ends (K + 1 + 1) m1 P := by
  obtain ⟨hf, hm⟩ := lit_fail' x.toAt hp hop hc h
  refine ends_step x.out ?_
  obtain ⟨o, e, r⟩ := popped a hs x hf
  refine ends_step o ?_
  rw [e]
  unfold PySem.Sre.M.resume
  dsimp only
  rw [if_neg (by decide)]
  have hc : m1.step.code.getD alt 0 = s1 := by rw [hf.code, x.code]; exact h1
  rw [hc]
  refine hgo _ r ?_
  unfold PySem.Sre.M.putBack
  rw [x.kw]
  exact hm
theorem alt_end {kp : Kept} {m0 : PySem.Sre.M} {alt : Nat} (r : Rest C X G d m m0 pc pos st lm) (hn : C.getD alt 0 = 0) : Ends 0 (m0.alternative alt kp) (Failed m) := by
  unfold PySem.Sre.M.alternative
  rw [if_pos (by rw [r.ok.code]; simpa using hn)]
  exact ends_now (r.same ⟨rfl, rfl, rfl, rfl, rfl, rfl, rfl, rfl, rfl, rfl, rfl, (fun _ => rfl), id⟩ r.ok.out rfl)
theorem branch_start (a : At C X G d m pc pos st lm mk) (hd : d ≤ 1000) (hp : pc < C.size) (hop : C.getD pc 0 = 7) (h1 : C.getD (pc + 1) 0 ≠ 0) :
    ∃ kp om, Tried C X G d m { wait := .nextBranch, pc := pc + 1, pos := pos, outermost := om, kept := kp } m.step (pc + 2) pos st lm mk := by
  have hpc := a.pc
  subst hpc
  have e := (a.step hp).trans (exec_branch ((a.word 0).trans hop) a.inner)
  rw [e]
  have r : ∀ sn, Rest C X G d m { m with seen := sn } m.pc pos st lm := fun sn => ⟨⟨⟨a.code, a.text, a.lim, a.whole, a.adv, a.inner, a.out, a.ans, a.size, a.weight, a.easy⟩, a.pc, a.pos, a.start, a.lastmark, rfl⟩, ⟨rfl, rfl, rfl, rfl, rfl, rfl, rfl, rfl, rfl, rfl, rfl, (fun _ => rfl), id⟩, a.lastmark⟩
  have := alt_tried (alt := m.pc + 1) (kp := M.keep { m with seen := m.seen.add 7 } false) (r (m.seen.add 7)) hd h1 rfl rfl a.lastmark
  rw [← a.marks]
  exact ⟨_, _, this⟩
theorem branch_fail (a : At C X G d m pc pos st lm mk) {s1 s2 k : Nat} (hd : d ≤ 1000) (hp : pc < C.size) (hop : C.getD pc 0 = 7) (h1 : C.getD (pc + 1) 0 = s1) (hs1 : s1 ≠ 0) (h2 : C.getD (pc + 1 + s1) 0 = s2) (hs2 : s2 ≠ 0) (h3 : C.getD (pc + 1 + s1 + s2) 0 = 0)
    (H1 : ∀ m1 mk, At C X G (d + 1) m1 (pc + 2) pos st lm mk → Fails k m1) (H2 : ∀ m1 mk, At C X G (d + 1) m1 (pc + 1 + s1 + 1) pos st lm mk → Fails k m1) : Fails (2 * k + 3) m := by
  obtain ⟨kp, om, x⟩ := branch_start a hd hp hop (by rw [h1]; exact hs1)
  refine ends_le (ends_step a.out (alt_next (K := k + (0 + 1)) a.toOk a.start h1 x (H1 _ _ x.toAt) fun m0 r => ?_)) (by omega)
  have x2 := alt_tried (alt := pc + 1 + s1) r hd (by rw [h2]; exact hs2) x.kw x.km x.kl
  refine alt_next a.toOk a.start h2 x2 (H2 _ _ x2.toAt) fun m0 r => ?_
  exact alt_end r h3
theorem branch_win1 (a : At C X G d m pc pos st lm mk) {s1 k : Nat} {R : Rt} (hd : d ≤ 1000) (hp : pc < C.size) (hop : C.getD pc 0 = 7) (h1 : C.getD (pc + 1) 0 = s1) (hs1 : s1 ≠ 0)
    (H1 : ∀ m1, At C X G (d + 1) m1 (pc + 2) pos st lm mk → Wins k m1 R) : Wins (k + 1) m R := by
  obtain ⟨kp, om, x⟩ := branch_start a hd hp hop (by rw [h1]; exact hs1)
  exact ends_step a.out (H1 _ x.toAt)
theorem branch_win2 (a : At C X G d m pc pos st lm mk) {s1 s2 k c : Nat} {R : Rt} (hd : d ≤ 1000) (hp : pc < C.size) (hop : C.getD pc 0 = 7) (h1 : C.getD (pc + 1) 0 = s1) (hs1 : s1 ≠ 0) (h2 : C.getD (pc + 1 + s1) 0 = s2) (hs2 : s2 ≠ 0)
    (hp2 : pc + 1 + 1 + 1 < C.size) (hop2 : C.getD (pc + 1 + 1) 0 = 16) (hc2 : C.getD (pc + 1 + 1 + 1) 0 = c) (hx : pos < X.size → X.getD pos 0 ≠ c) (H2 : ∀ m1, At C X G (d + 1) m1 (pc + 1 + s1 + 1) pos st lm mk → Wins k m1 R) : Wins (k + 3) m R := by
  obtain ⟨kp, om, x⟩ := branch_start a hd hp hop (by rw [h1]; exact hs1)
  refine ends_le (ends_step a.out (alt_lit (K := k) a.toOk a.start h1 x hp2 hop2 hc2 hx fun m0 r hm => ?_)) (by omega)
  have x2 := alt_tried (alt := pc + 1 + s1) r hd (by rw [h2]; exact hs2) x.kw x.km x.kl
  rw [hm] at x2
  exact H2 _ x2.toAt
theorem branch_win0 (a : At C X G d m pc pos st lm mk) {s1 s2 k : Nat} {R : Rt} (hl0 : 0 ≤ lm) (hd : d ≤ 1000) (hp : pc < C.size) (hop : C.getD pc 0 = 7) (h1 : C.getD (pc + 1) 0 = s1) (hs1 : s1 ≠ 0) (h2 : C.getD (pc + 1 + s1) 0 = s2) (hs2 : s2 ≠ 0)
    (H1 : ∀ m1 mk, At C X G (d + 1) m1 (pc + 2) pos st lm mk → Fails k m1) (H2 : ∀ m1 mk', mk'.getD 0 none = mk.getD 0 none → At C X G (d + 1) m1 (pc + 1 + s1 + 1) pos st lm mk' → Wins k m1 R) : Wins (2 * k + 3) m R := by
  obtain ⟨kp, om, x⟩ := branch_start a hd hp hop (by rw [h1]; exact hs1)
  refine ends_le (ends_step a.out (alt_next (K := k) a.toOk a.start h1 x (H1 _ _ x.toAt) fun m0 r => ?_)) (by omega)
  have x2 := alt_tried (alt := pc + 1 + s1) r hd (by rw [h2]; exact hs2) x.kw x.km x.kl
  exact H2 _ _ (by rw [← a.marks]; exact r.s.zero (by rw [a.lastmark]; exact hl0)) x2.toAt
/-- a won state pops its frames and ends -/
theorem won_ends {R : Rt} : ∀ (fs : List Frame) (m : PySem.Sre.M), m.frames = fs → Won R m → Ends (fs.length + 1) m (fun m' => m'.outcome = some .matched ∧ R m'.start m'.handed m'.lastmark m'.marks)
  | [], m, hf, h => by
    refine ends_step h.out ?_
    rw [step_end h.out h.ans hf]
    exact ends_now ⟨rfl, h.res⟩
  | f :: fs, m, hf, h => by
    refine ends_step h.out ?_
    rw [step_pop h.out h.ans hf]
    have hw := h.easy.1 f (by rw [hf]; exact .head _)
    have he : (∀ g ∈ fs, easyW g.wait = true) ∧ fs.length ≤ 1000 := ⟨fun g hg => h.easy.1 g (by rw [hf]; exact .tail _ hg), by have := h.easy.2; rw [hf, List.length_cons] at this; omega⟩
    unfold PySem.Sre.M.resume
    cases hq : f.wait <;> rw [hq] at hw <;> first | exact won_ends fs _ rfl ⟨rfl, h.out, he, h.res⟩ | cases hw
/-- what the search needs of its base state -/
structure Base (C X : Array Nat) (G : Nat) (m : PySem.Sre.M) (body : Nat) : Prop extends Ok C X G 0 m where
  pc : m.pc = body
  fr : m.frames = []
  wt : m.weight = 0
  last : m.lastStart = X.size
  nofirst : m.hasFirstSet = false
theorem base_at {s b : Nat} {first : Bool} (h : Base C X G m b) : ∃ kp om, (∃ f, f = ({ wait := .nextStart, pc := b, pos := s, outermost := om, kept := kp } : Frame)) ∧ kp.marks = #[] ∧
    At C X G 1 (m.attemptFrom s first) b s s (-1) m.marks ∧ (m.attemptFrom s first).frames = [{ wait := .nextStart, pc := b, pos := s, outermost := om, kept := kp }] ∧ (m.attemptFrom s first).lastStart = X.size ∧ (m.attemptFrom s first).weight = 1 := by
  unfold PySem.Sre.M.attemptFrom
  rw [h.nofirst]
  show ∃ kp om, _ ∧ _ ∧ At C X G 1 (m.attemptAt s first) b s s (-1) m.marks ∧ (m.attemptAt s first).frames = _ ∧ (m.attemptAt s first).lastStart = _ ∧ (m.attemptAt s first).weight = 1
  unfold PySem.Sre.M.attemptAt
  rw [attempt_eq (m := { m with start := s, pos := s, lastmark := -1, lastindex := -1 }) (by show m.weight ≤ _; rw [h.wt]; omega) rfl]
  refine ⟨{}, first, ⟨_, rfl⟩, rfl, ⟨⟨h.code, h.text, h.lim, h.whole, h.adv, h.inner, h.out, h.ans, h.size, by show m.weight + 1 + 0 ≤ 1; rw [h.wt]; exact Nat.le_refl _, ⟨fun f hf => by
      rcases List.mem_cons.mp hf with rfl | h'
      · rfl
      · exact h.easy.1 f h', Nat.succ_le_succ h.easy.2⟩⟩, h.pc, rfl, rfl, rfl, rfl⟩, ?_, h.last, by show m.weight + 1 + 0 = 1; rw [h.wt]⟩
  show _ :: m.frames = _
  rw [h.fr, h.pc]
theorem next_base {b s : Nat} {f : Frame} {m1 m' : PySem.Sre.M} (hf : Failed m1 m') (a : At C X G 1 m1 b st s (-1) mk) (hC : m.hasFirstSet = false) (hm : m.code = C) (e1 : m1.lastStart = X.size) (e2 : m1.weight = 1) (e3 : f.kept.marks = #[]) (e4 : f.pc = b) :
    Base C X G { m' with answer := none, frames := [], weight := m'.weight - (1 + f.kept.marks.size), pc := f.pc, pos := f.pos, outermost := f.outermost, mustAdvance := false } b := by
  have hw : m'.weight - (1 + f.kept.marks.size) = 0 := by rw [e3, hf.weight, e2]; rfl
  exact ⟨⟨hf.code.trans a.code, hf.text.trans a.text, hf.lim.trans a.lim, hf.whole.trans a.whole, rfl, hf.inner.trans a.inner, hf.out, rfl, hf.size.trans a.size, by show m'.weight - _ ≤ 0; rw [hw]; exact Nat.le_refl _, ⟨(fun g hg => by cases hg), Nat.le_refl _⟩⟩, e4, rfl, hw, hf.last.trans e1, by
    unfold PySem.Sre.M.hasFirstSet at hC ⊢
    show _ = _
    rw [hm] at hC
    rw [hf.code, a.code]; exact hC⟩
/-- the search: fails at s ≤ i < lim, wins at i or never -/
theorem search_fail {b k : Nat} : ∀ (u s : Nat) (m : PySem.Sre.M) (first : Bool), (∀ i, s ≤ i → ∀ m1 mk, At C X G 1 m1 b i i (-1) mk → Fails k m1) → Base C X G m b → X.size - s ≤ u → s ≤ X.size → Ends ((k + 1) * (u + 1)) (m.attemptFrom s first) (fun m' => m'.outcome = none ∧ m'.answer = some false ∧ m'.frames = [])
  | u, s, m, first, H, h, hu, hs => by
    obtain ⟨kp, om, _, hk0, a, hfr, hl, hw⟩ := base_at (s := s) (first := first) h
    have main : Ends (k + ((k + 1) * u + 1)) (m.attemptFrom s first) (fun m' => m'.outcome = none ∧ m'.answer = some false ∧ m'.frames = []) := by
      refine ends_trans (H s (Nat.le_refl _) _ _ a) fun m' hf => ?_
      refine ends_step hf.out ?_
      rw [step_pop hf.out hf.ans (hf.frames.trans hfr)]
      unfold PySem.Sre.M.resume
      dsimp only
      rw [if_neg (by decide)]
      by_cases hc : s < X.size
      · rw [if_pos (by rw [hf.last, hl]; exact hc)]
        cases u with
        | zero => omega
        | succ u => exact search_fail u (s + 1) _ false (fun i hi => H i (by omega)) (next_base (f := { wait := .nextStart, pc := b, pos := s, outermost := om, kept := kp }) hf a h.nofirst h.code hl hw hk0 rfl) (by omega) (by omega)
      · rw [if_neg (by rw [hf.last, hl]; exact hc)]
        exact ends_le (ends_now ⟨hf.out, rfl, rfl⟩) (Nat.zero_le _)
    refine ends_le main ?_
    rw [Nat.mul_succ]; omega
theorem search_win {b k t : Nat} {R : Rt} (ht : t ≤ X.size) (W : ∀ m1 mk, At C X G 1 m1 b t t (-1) mk → Wins k m1 R) : ∀ (u s : Nat) (m : PySem.Sre.M) (first : Bool), (∀ i, s ≤ i → i < t → ∀ m1 mk, At C X G 1 m1 b i i (-1) mk → Fails k m1) → Base C X G m b → t - s = u → s ≤ t → Wins ((k + 1) * (u + 1)) (m.attemptFrom s first) R
  | 0, s, m, first, H, h, hu, hs => by
    obtain ⟨kp, om, _, hk0, a, hfr, hl, hw⟩ := base_at (s := s) (first := first) h
    have : s = t := by omega
    subst this
    exact ends_le (W _ _ a) (by rw [Nat.mul_succ]; omega)
  | u + 1, s, m, first, H, h, hu, hs => by
    obtain ⟨kp, om, _, hk0, a, hfr, hl, hw⟩ := base_at (s := s) (first := first) h
    have main : Ends (k + ((k + 1) * (u + 1) + 1)) (m.attemptFrom s first) (Won R) := by
      refine ends_trans (H s (Nat.le_refl _) (by omega) _ _ a) fun m' hf => ?_
      refine ends_step hf.out ?_
      rw [step_pop hf.out hf.ans (hf.frames.trans hfr)]
      unfold PySem.Sre.M.resume
      dsimp only
      rw [if_neg (by decide), if_pos (by rw [hf.last, hl]; omega)]
      exact search_win ht W u (s + 1) _ false (fun i h1 h2 => H i (by omega) h2) (next_base (f := { wait := .nextStart, pc := b, pos := s, outermost := om, kept := kp }) hf a h.nofirst h.code hl hw hk0 rfl) (by omega) (by omega)
    refine ends_le main ?_
    rw [Nat.mul_succ (k + 1) (u + 1)]; omega
theorem rep_first (a : At C X G d m pc pos st lm mk) {n c t k : Nat} {R : Rt} (hd : d ≤ 1000) (hp : pc < C.size) (hop : C.getD pc 0 = 24) (ht : pc + 1 + C.getD (pc + 1) 0 = t) (h2 : C.getD (pc + 2) 0 = 0) (h3 : C.getD (pc + 3) 0 = 4294967295)
    (h4 : C.getD (pc + 4) 0 = 20) (h5 : C.getD (pc + 5) 0 = c) (hX : X.size ≤ 4294967295) (hn : pos + n ≤ X.size) (hr : ∀ j, j < n → X.getD (pos + j) 0 ≠ c) (he : pos + n = X.size ∨ X.getD (pos + n) 0 = c)
    (W : ∀ m1, At C X G (d + 1) m1 t (pos + n) st lm mk → Wins k m1 R) : Wins (k + 1) m R := by
  obtain ⟨kp, om, x⟩ := rep_start a hd hp hop ht h2 h3 h4 h5 hX hn hr he
  exact ends_step a.out (W _ x.toAt)
theorem run_len (X : Array Nat) (c : Nat) : ∀ (u p : Nat), X.size - p = u → p ≤ X.size → ∃ n, p + n ≤ X.size ∧ (∀ j, j < n → X.getD (p + j) 0 ≠ c) ∧ (p + n = X.size ∨ X.getD (p + n) 0 = c)
  | 0, p, hu, hp => ⟨0, by omega, fun j hj => absurd hj (Nat.not_lt_zero _), .inl (by omega)⟩
  | u + 1, p, hu, hp => by
    by_cases h : X.getD p 0 = c
    · exact ⟨0, by omega, fun j hj => absurd hj (Nat.not_lt_zero _), .inr h⟩
    · obtain ⟨n, h1, h2, h3⟩ := run_len X c u (p + 1) (by omega) (by omega)
      refine ⟨n + 1, by omega, fun j hj => ?_, ?_⟩
      · cases j with
        | zero => exact h
        | succ j => have := h2 j (by omega); rwa [show p + 1 + j = p + (j + 1) from by omega] at this
      · rwa [show p + 1 + n = p + (n + 1) from by omega] at h3
/-- the whole run -/
theorem run_win {R : Rt} {k : Nat} (h : Wins k m R) : ∃ N, N ≤ k + 1001 ∧ (m.runFor N).outcome = some .matched ∧ R (m.runFor N).start (m.runFor N).handed (m.runFor N).lastmark (m.runFor N).marks := by
  have := ends_trans (j := 1001) h (fun m' h' => ends_le (won_ends _ m' rfl h') (by have := h'.easy.2; omega))
  obtain ⟨N, h1, h2⟩ := this
  exact ⟨N, h1, h2⟩
theorem run_lost {k : Nat} (h : Ends k m (fun m' => m'.outcome = none ∧ m'.answer = some false ∧ m'.frames = [])) : ∃ N, N ≤ k + 1 ∧ (m.runFor N).outcome = some .failed := by
  have := ends_trans (j := 1) (P := fun m' => m'.outcome = some .failed) h (fun m' h' => ends_step h'.1 (by rw [step_end h'.1 h'.2.1 h'.2.2]; exact ends_now rfl))
  obtain ⟨N, h1, h2⟩ := this
  exact ⟨N, h1, h2⟩
end
end En
end Mine
end

section
open PySem PySem.W PySem.Calls PyProof.Rows
namespace Mine
namespace En
section
open PySem.Sre
variable {X : Array Nat} {m : Sre.M} {s pos : Nat} {lm : Int} {mk : Array (Option Nat)}
def hasGt (X : Array Nat) (p r : Nat) : Prop := p ≤ r ∧ r < X.size ∧ X.getD r 0 = 62 ∧ ∀ j, p ≤ j → j < r → X.getD j 0 ≠ 62
theorem tail_fail (hX : X.size ≤ 1000) {d : Nat} (hd : d ≤ 100) (a : At codeI X 6 d m 84 pos s lm mk) (hp : pos ≤ X.size) (h : ∀ r, ¬ hasGt X pos r) : Fails 2003 m := by
  obtain ⟨n, h1, h2, h3⟩ := run_len X 62 _ pos rfl hp
  refine ends_le (rep_fail (n := n) (t := 91) (k := 1) a (by omega) (by decide) rfl rfl rfl rfl rfl rfl (by omega) h1 h2 h3 fun i hi m1 mk1 a1 => ?_) (by omega)
  refine lit_fail (c := 62) a1 (by decide) rfl rfl fun hl e => ?_
  by_cases hin : i < n
  · exact h2 i hin e
  · have : i = n := by omega
    subst this
    refine h (pos + i) ⟨by omega, hl, e, fun j hj1 hj2 => ?_⟩
    have := h2 (j - pos) (by omega)
    rwa [show pos + (j - pos) = j from by omega] at this
theorem tail_win {R : Rt} (hX : X.size ≤ 1000) {d r : Nat} (hd : d ≤ 100) (a : At codeI X 6 d m 84 pos s lm mk) (h : hasGt X pos r) (hR : R s (r + 1) lm mk) : Wins 2003 m R := by
  obtain ⟨h1, h2, h3, h4⟩ := h
  refine ends_le (rep_first (n := r - pos) (t := 91) (k := 2) (c := 62) a (by omega) (by decide) rfl rfl rfl rfl rfl rfl (by omega) (by omega) (fun j hj => h4 (pos + j) (by omega) (by omega)) (.inr (by rwa [show pos + (r - pos) = r from by omega])) fun m1 a1 => ?_) (by omega)
  rw [show pos + (r - pos) = r from by omega] at a1
  exact lit_go (c := 62) (g := some R) (k := 1) a1 (by decide) rfl rfl h2 h3 fun m2 a2 => succ_win a2 (by omega) (by decide) rfl hR
structure Hit (X : Array Nat) (p q r : Nat) (c : Nat) : Prop where
  bd : bnd X p = true
  c0 : X.getD p 0 = 97
  c1 : X.getD (p + 1) 0 = 108
  c2 : X.getD (p + 2) 0 = 116
  c3 : X.getD (p + 3) 0 = 61
  c4 : X.getD (p + 4) 0 = c
  isq : c = 34 ∨ c = 39
  low : p + 5 ≤ q
  cq : X.getD q 0 = c
  free : ∀ j, p + 5 ≤ j → j < q → X.getD j 0 ≠ c
  gt : hasGt X (q + 1) r
theorem getD_ge {i : Nat} (h : X.size ≤ i) : X.getD i 0 = 0 := by simp [Array.getD, Nat.not_lt.mpr h]
theorem lt_of_getD {i c : Nat} (h : X.getD i 0 = c) (hc : c ≠ 0) : i < X.size := by
  by_cases hl : i < X.size
  · exact hl
  · rw [getD_ge (by omega)] at h; exact absurd h.symm hc
/-- one arm: the quote c at pc, its group i, its rest -/
theorem arm_fail (hX : X.size ≤ 1000) {d pc c i j1 : Nat} (hd : d ≤ 50) (a : At codeI X 6 d m pc pos s lm mk) (hc0 : c ≠ 0) (hi : i ≠ 0) (hj1 : j1 ≠ 0) (b0 : pc + 13 < codeI.size) (e0 : codeI.getD pc 0 = 16) (e1 : codeI.getD (pc + 1) 0 = c) (e2 : codeI.getD (pc + 2) 0 = 17) (e3 : codeI.getD (pc + 3) 0 = i) (e4 : codeI.getD (pc + 4) 0 = 24) (e5 : codeI.getD (pc + 5) 0 = 6)
    (e6 : codeI.getD (pc + 6) 0 = 0) (e7 : codeI.getD (pc + 7) 0 = 4294967295) (e8 : codeI.getD (pc + 8) 0 = 20) (e9 : codeI.getD (pc + 9) 0 = c) (f1 : codeI.getD (pc + 11) 0 = 17) (f2 : codeI.getD (pc + 12) 0 = j1) (f3 : codeI.getD (pc + 13) 0 = 16) (f4 : codeI.getD (pc + 14) 0 = c) (b1 : pc + 15 < codeI.size)
    (f5 : codeI.getD (pc + 15) 0 = 15) (f6 : pc + 15 + 1 + codeI.getD (pc + 16) 0 = 82)
    (h : X.getD pos 0 = c → ∀ q r, pos + 1 ≤ q → X.getD q 0 = c → (∀ j, pos + 1 ≤ j → j < q → X.getD j 0 ≠ c) → ¬ hasGt X (q + 1) r) : Fails 2010011 m := by
  by_cases hq : X.getD pos 0 = c
  · have hl := lt_of_getD hq hc0
    refine lit_go (c := c) (g := none) (k := 2010010) a (by omega) e0 e1 hl hq fun m1 a1 => ?_
    refine mark_go (g := none) (k := 2010009) (i := i) a1 (.inl hi) (by omega) e2 e3 fun m2 a2 => ?_
    obtain ⟨n, h1, h2, h3⟩ := run_len X c _ (pos + 1) rfl (by omega)
    refine ends_le (rep_fail (n := n) (t := pc + 11) (k := 2007) (c := c) a2 (by omega) (by omega) e4 (by rw [show pc + 2 + 2 + 1 = pc + 5 from rfl, e5]) e6 e7 e8 e9 (by omega) h1 h2 h3 fun l hl' m3 mk3 a3 => ?_) (by omega)
    refine mark_go (g := none) (k := 2006) (i := j1) a3 (.inl hj1) (by omega) f1 f2 fun m4 a4 => ?_
    by_cases hz : X.getD (pos + 1 + l) 0 = c
    · have hln : l = n := by
        by_cases hin : l < n
        · exact absurd hz (h2 l hin)
        · omega
      subst hln
      have hl2 := lt_of_getD hz hc0
      refine lit_go (c := c) (g := none) (k := 2005) a4 (by omega) f3 f4 hl2 hz fun m5 a5 => ?_
      refine jump_go (g := none) (k := 2004) (t := 82) a5 (by omega) f5 f6 fun m6 a6 => ?_
      refine mark_go (g := none) (k := 2003) (i := 1) a6 (.inl (by decide)) (by decide) rfl rfl fun m7 a7 => ?_
      refine tail_fail hX (by omega) a7 (by omega) fun r => h hq (pos + 1 + l) r (by omega) hz (fun j hj1 hj2 => ?_)
      have := h2 (j - (pos + 1)) (by omega)
      rwa [show pos + 1 + (j - (pos + 1)) = j from by omega] at this
    · exact ends_le (lit_fail (c := c) a4 (by omega) f3 f4 (fun _ => hz)) (by omega)
  · exact ends_le (lit_fail (c := c) a (by omega) e0 e1 fun _ => hq) (by omega)
theorem arm_win {R : Rt} (hX : X.size ≤ 1000) {d pc c i j1 q r : Nat} (hd : d ≤ 50) (a : At codeI X 6 d m pc pos s lm mk) (hc0 : c ≠ 0) (hi : i ≠ 0) (hj1 : j1 ≠ 0) (b0 : pc + 13 < codeI.size) (e0 : codeI.getD pc 0 = 16) (e1 : codeI.getD (pc + 1) 0 = c) (e2 : codeI.getD (pc + 2) 0 = 17) (e3 : codeI.getD (pc + 3) 0 = i) (e4 : codeI.getD (pc + 4) 0 = 24) (e5 : codeI.getD (pc + 5) 0 = 6)
    (e6 : codeI.getD (pc + 6) 0 = 0) (e7 : codeI.getD (pc + 7) 0 = 4294967295) (e8 : codeI.getD (pc + 8) 0 = 20) (e9 : codeI.getD (pc + 9) 0 = c) (f1 : codeI.getD (pc + 11) 0 = 17) (f2 : codeI.getD (pc + 12) 0 = j1) (f3 : codeI.getD (pc + 13) 0 = 16) (f4 : codeI.getD (pc + 14) 0 = c) (b1 : pc + 15 < codeI.size)
    (f5 : codeI.getD (pc + 15) 0 = 15) (f6 : pc + 15 + 1 + codeI.getD (pc + 16) 0 = 82)
    (hq : X.getD pos 0 = c) (g1 : pos + 1 ≤ q) (g2 : X.getD q 0 = c) (g3 : ∀ j, pos + 1 ≤ j → j < q → X.getD j 0 ≠ c) (g4 : hasGt X (q + 1) r)
    (hR : R s (r + 1) (max (max (max lm i) j1) (1 : Nat)) (markF (markF (markF mk lm i (pos + 1)) (max lm i) j1 q) (max (max lm i) j1) 1 (q + 1))) : Wins 2010011 m R := by
  have hl := lt_of_getD hq hc0
  have hlq := lt_of_getD g2 hc0
  refine lit_go (c := c) (g := some R) (k := 2010010) a (by omega) e0 e1 hl hq fun m1 a1 => ?_
  refine mark_go (g := some R) (k := 2010009) (i := i) a1 (.inl hi) (by omega) e2 e3 fun m2 a2 => ?_
  refine ends_le (rep_first (n := q - (pos + 1)) (t := pc + 11) (k := 2007) (c := c) a2 (by omega) (by omega) e4 (by rw [show pc + 2 + 2 + 1 = pc + 5 from rfl, e5]) e6 e7 e8 e9 (by omega) (by omega) (fun j hj => g3 (pos + 1 + j) (by omega) (by omega)) (.inr (by rwa [show pos + 1 + (q - (pos + 1)) = q from by omega])) fun m3 a3 => ?_) (by omega)
  rw [show pos + 1 + (q - (pos + 1)) = q from by omega] at a3
  refine mark_go (g := some R) (k := 2006) (i := j1) a3 (.inl hj1) (by omega) f1 f2 fun m4 a4 => ?_
  refine lit_go (c := c) (g := some R) (k := 2005) a4 (by omega) f3 f4 hlq g2 fun m5 a5 => ?_
  refine jump_go (g := some R) (k := 2004) (t := 82) a5 (by omega) f5 f6 fun m6 a6 => ?_
  refine mark_go (g := some R) (k := 2003) (i := 1) a6 (.inl (by decide)) (by decide) rfl rfl fun m7 a7 => ?_
  exact tail_win hX (by omega) a7 g4 hR
theorem marks34 {x0 x1 x2 x3 x4 x5 : Option Nat} {a b c d : Nat} : markF (markF (markF (markF #[x0, x1, x2, x3, x4, x5] (-1) 0 a) 0 2 b) 2 3 c) 3 1 d = #[some a, some d, some b, some c, x4, x5] := by kernel_rfl
theorem marks39 {x0 x1 x2 x3 x4 x5 : Option Nat} {a b c d : Nat} : markF (markF (markF (markF #[x0, x1, x2, x3, x4, x5] (-1) 0 a) 0 4 b) 4 5 c) 5 1 d = #[some a, some d, none, none, some b, some c] := by kernel_rfl
theorem six {mk : Array (Option Nat)} (h : mk.size = 6) : ∃ x0 x1 x2 x3 x4 x5, mk = #[x0, x1, x2, x3, x4, x5] := by
  obtain ⟨l⟩ := mk
  match l, h with
  | [x0, x1, x2, x3, x4, x5], _ => exact ⟨x0, x1, x2, x3, x4, x5, rfl⟩
def RI (s p q r c : Nat) : Rt := fun st e lm mk => st = s ∧ e = r + 1 ∧ ((c = 34 ∧ lm = 3 ∧ ∃ x4 x5, mk = #[some (p + 4), some (q + 1), some (p + 5), some q, x4, x5]) ∨ (c = 39 ∧ lm = 5 ∧ mk = #[some (p + 4), some (q + 1), none, none, some (p + 5), some q]))
theorem try_fail (hX : X.size ≤ 1000) {d p : Nat} (hd : d ≤ 40) (a : At codeI X 6 d m 32 p s (-1) mk) (h : ∀ q r c, ¬ Hit X p q r c) : Fails 4020031 m := by
  by_cases hb : bnd X p = true
  · refine at_go (g := none) (k := 4020030) a (by decide) rfl rfl hb fun m1 a1 => ?_
    by_cases h0 : X.getD p 0 = 97
    · refine lit_go (c := 97) (g := none) (k := 4020029) a1 (by decide) rfl rfl (lt_of_getD h0 (by decide)) h0 fun m2 a2 => ?_
      by_cases h1 : X.getD (p + 1) 0 = 108
      · refine lit_go (c := 108) (g := none) (k := 4020028) a2 (by decide) rfl rfl (lt_of_getD h1 (by decide)) h1 fun m3 a3 => ?_
        by_cases h2 : X.getD (p + 2) 0 = 116
        · refine lit_go (c := 116) (g := none) (k := 4020027) a3 (by decide) rfl rfl (lt_of_getD h2 (by decide)) h2 fun m4 a4 => ?_
          by_cases h3 : X.getD (p + 3) 0 = 61
          · refine lit_go (c := 61) (g := none) (k := 4020026) a4 (by decide) rfl rfl (lt_of_getD h3 (by decide)) h3 fun m5 a5 => ?_
            refine mark_go (g := none) (k := 4020025) (i := 0) a5 (.inr (by decide)) (by decide) rfl rfl fun m6 a6 => ?_
            refine ends_le (branch_fail (k := 2010011) (s1 := 18) (s2 := 18) a6 (by omega) (by decide) rfl rfl (by decide) rfl (by decide) rfl (fun m7 mk7 a7 => ?_) (fun m7 mk7 a7 => ?_)) (by omega)
            · exact arm_fail (c := 34) (i := 2) (j1 := 3) hX (by omega) a7 (by decide) (by decide) (by decide) (by decide) rfl rfl rfl rfl rfl rfl rfl rfl rfl rfl rfl rfl rfl rfl (by decide) rfl rfl (fun hq q r g1 g2 g3 g4 => h q r 34 ⟨hb, h0, h1, h2, h3, hq, .inl rfl, g1, g2, g3, g4⟩)
            · exact arm_fail (c := 39) (i := 4) (j1 := 5) hX (by omega) a7 (by decide) (by decide) (by decide) (by decide) rfl rfl rfl rfl rfl rfl rfl rfl rfl rfl rfl rfl rfl rfl (by decide) rfl rfl (fun hq q r g1 g2 g3 g4 => h q r 39 ⟨hb, h0, h1, h2, h3, hq, .inr rfl, g1, g2, g3, g4⟩)
          · exact ends_le (lit_fail (c := 61) a4 (by decide) rfl rfl fun _ => h3) (by omega)
        · exact ends_le (lit_fail (c := 116) a3 (by decide) rfl rfl fun _ => h2) (by omega)
      · exact ends_le (lit_fail (c := 108) a2 (by decide) rfl rfl fun _ => h1) (by omega)
    · exact ends_le (lit_fail (c := 97) a1 (by decide) rfl rfl fun _ => h0) (by omega)
  · exact ends_le (at_fail a (by decide) rfl rfl (by simpa using hb)) (by omega)
theorem try_win (hX : X.size ≤ 1000) {d p q r c : Nat} (hd : d ≤ 40) (a : At codeI X 6 d m 32 p s (-1) mk) (h : Hit X p q r c) : Wins 4020031 m (RI s p q r c) := by
  obtain ⟨x0, x1, x2, x3, x4, x5, rfl⟩ := six (mk := mk) (by rw [← a.marks]; exact a.size)
  refine at_go (g := some _) (k := 4020030) a (by decide) rfl rfl h.bd fun m1 a1 => ?_
  refine lit_go (c := 97) (g := some _) (k := 4020029) a1 (by decide) rfl rfl (lt_of_getD h.c0 (by decide)) h.c0 fun m2 a2 => ?_
  refine lit_go (c := 108) (g := some _) (k := 4020028) a2 (by decide) rfl rfl (lt_of_getD h.c1 (by decide)) h.c1 fun m3 a3 => ?_
  refine lit_go (c := 116) (g := some _) (k := 4020027) a3 (by decide) rfl rfl (lt_of_getD h.c2 (by decide)) h.c2 fun m4 a4 => ?_
  refine lit_go (c := 61) (g := some _) (k := 4020026) a4 (by decide) rfl rfl (lt_of_getD h.c3 (by decide)) h.c3 fun m5 a5 => ?_
  refine mark_go (g := some _) (k := 4020025) (i := 0) a5 (.inr (by decide)) (by decide) rfl rfl fun m6 a6 => ?_
  rcases h.isq with hc | hc
  · subst hc
    refine ends_le (branch_win1 (k := 2010011) (s1 := 18) a6 (by omega) (by decide) rfl rfl (by decide) (fun m7 a7 => ?_)) (by omega)
    refine arm_win (c := 34) (i := 2) (j1 := 3) hX (by omega) a7 (by decide) (by decide) (by decide) (by decide) rfl rfl rfl rfl rfl rfl rfl rfl rfl rfl rfl rfl rfl rfl (by decide) rfl rfl h.c4 h.low h.cq h.free h.gt ?_
    exact ⟨rfl, rfl, .inl ⟨rfl, rfl, x4, x5, marks34⟩⟩
  · subst hc
    refine ends_le (branch_win2 (k := 2010011) (s1 := 18) (s2 := 18) (c := 34) a6 (by omega) (by decide) rfl rfl (by decide) rfl (by decide) (by decide) rfl rfl (fun _ e => by have := h.c4; rw [show p + 1 + 1 + 1 + 1 = p + 4 from rfl] at e; omega) (fun m7 a7 => ?_)) (by omega)
    refine arm_win (c := 39) (i := 4) (j1 := 5) hX (by omega) a7 (by decide) (by decide) (by decide) (by decide) rfl rfl rfl rfl rfl rfl rfl rfl rfl rfl rfl rfl rfl rfl (by decide) rfl rfl h.c4 h.low h.cq h.free h.gt ?_
    exact ⟨rfl, rfl, .inr ⟨rfl, rfl, marks39⟩⟩
structure Pre (X : Array Nat) (s : Nat) : Prop where
  c0 : X.getD s 0 = 60
  c1 : X.getD (s + 1) 0 = 105
  c2 : X.getD (s + 2) 0 = 109
  c3 : X.getD (s + 3) 0 = 103
  bd : bnd X (s + 4) = true
/-- no > from a up to p -/
def noGt (X : Array Nat) (a p : Nat) : Prop := a ≤ p ∧ ∀ j, a ≤ j → j < p → X.getD j 0 ≠ 62
def NoImg (X : Array Nat) (s : Nat) : Prop := Pre X s → ∀ p q r c, noGt X (s + 4) p → ¬ Hit X p q r c
structure Img (X : Array Nat) (s p q r c : Nat) : Prop where
  pre : Pre X s
  no : noGt X (s + 4) p
  hit : Hit X p q r c
  last : ∀ p' q' r' c', p < p' → noGt X (s + 4) p' → ¬ Hit X p' q' r' c'
theorem start_fail (hX : X.size ≤ 1000) (a : At codeI X 6 1 m 15 s s (-1) mk) (h : NoImg X s) : Fails 4024052038 m := by
  by_cases h0 : X.getD s 0 = 60
  · refine lit_go (c := 60) (g := none) (k := 4024052037) a (by decide) rfl rfl (lt_of_getD h0 (by decide)) h0 fun m1 a1 => ?_
    by_cases h1 : X.getD (s + 1) 0 = 105
    · refine lit_go (c := 105) (g := none) (k := 4024052036) a1 (by decide) rfl rfl (lt_of_getD h1 (by decide)) h1 fun m2 a2 => ?_
      by_cases h2 : X.getD (s + 2) 0 = 109
      · refine lit_go (c := 109) (g := none) (k := 4024052035) a2 (by decide) rfl rfl (lt_of_getD h2 (by decide)) h2 fun m3 a3 => ?_
        by_cases h3 : X.getD (s + 3) 0 = 103
        · have hl := lt_of_getD h3 (by decide)
          refine lit_go (c := 103) (g := none) (k := 4024052034) a3 (by decide) rfl rfl hl h3 fun m4 a4 => ?_
          by_cases hb : bnd X (s + 4) = true
          · refine at_go (g := none) (k := 4024052033) a4 (by decide) rfl rfl hb fun m5 a5 => ?_
            obtain ⟨n, g1, g2, g3⟩ := run_len X 62 _ (s + 4) rfl (by omega)
            refine ends_le (rep_fail (n := n) (t := 32) (k := 4020031) (c := 62) a5 (by omega) (by decide) rfl rfl rfl rfl rfl rfl (by omega) g1 g2 g3 fun i hi m6 mk6 a6 => ?_) (by omega)
            refine try_fail hX (by omega) a6 fun q r c => h ⟨h0, h1, h2, h3, hb⟩ (s + 4 + i) q r c ⟨by omega, fun j j1 j2 => ?_⟩
            have := g2 (j - (s + 4)) (by omega)
            rwa [show s + 4 + (j - (s + 4)) = j from by omega] at this
          · exact ends_le (at_fail a4 (by decide) rfl rfl (by simpa using hb)) (by omega)
        · exact ends_le (lit_fail (c := 103) a3 (by decide) rfl rfl fun _ => h3) (by omega)
      · exact ends_le (lit_fail (c := 109) a2 (by decide) rfl rfl fun _ => h2) (by omega)
    · exact ends_le (lit_fail (c := 105) a1 (by decide) rfl rfl fun _ => h1) (by omega)
  · exact ends_le (lit_fail (c := 60) a (by decide) rfl rfl fun _ => h0) (by omega)
theorem start_win (hX : X.size ≤ 1000) {p q r c : Nat} (a : At codeI X 6 1 m 15 s s (-1) mk) (h : Img X s p q r c) : Wins 4024052038 m (RI s p q r c) := by
  have hl := lt_of_getD h.pre.c3 (by decide)
  have hpl := lt_of_getD h.hit.c0 (by decide)
  have hn := h.no.1
  refine lit_go (c := 60) (g := some _) (k := 4024052037) a (by decide) rfl rfl (by omega) h.pre.c0 fun m1 a1 => ?_
  refine lit_go (c := 105) (g := some _) (k := 4024052036) a1 (by decide) rfl rfl (by omega) h.pre.c1 fun m2 a2 => ?_
  refine lit_go (c := 109) (g := some _) (k := 4024052035) a2 (by decide) rfl rfl (by omega) h.pre.c2 fun m3 a3 => ?_
  refine lit_go (c := 103) (g := some _) (k := 4024052034) a3 (by decide) rfl rfl hl h.pre.c3 fun m4 a4 => ?_
  refine at_go (g := some _) (k := 4024052033) a4 (by decide) rfl rfl h.pre.bd fun m5 a5 => ?_
  obtain ⟨n, g1, g2, g3⟩ := run_len X 62 _ (s + 4) rfl (by omega)
  have hpn : p - (s + 4) ≤ n := by
    refine Nat.le_of_not_lt fun hlt => ?_
    rcases g3 with g3 | g3
    · omega
    · exact h.no.2 (s + 4 + n) (by omega) (by omega) g3
  refine ends_le (rep_win (n := n) (t := 32) (k := 4020031) (c := 62) (w := p - (s + 4)) a5 (by omega) (by decide) rfl rfl rfl rfl rfl rfl (by omega) g1 g2 g3 hpn (fun i hi1 hi2 m6 mk6 a6 => ?_) (fun m6 mk6 a6 => ?_)) (by omega)
  · refine try_fail hX (by omega) a6 fun q' r' c' => h.last (s + 4 + i) q' r' c' (by omega) ⟨by omega, fun j j1 j2 => ?_⟩
    have := g2 (j - (s + 4)) (by omega)
    rwa [show s + 4 + (j - (s + 4)) = j from by omega] at this
  · rw [show s + 1 + 1 + 1 + 1 + (p - (s + 4)) = p from by omega] at a6
    exact try_win hX (by omega) a6 h.hit
theorem headI : header codeI = (11, 15) := by decide +kernel
theorem img_width {p q r c : Nat} (h : Img X s p q r c) : s + 11 ≤ r + 1 ∧ r < X.size := by
  have h1 := h.no.1
  have h2 := h.hit.low
  have h3 := h.hit.gt
  obtain ⟨a, b, _⟩ := h3
  omega
theorem baseI (T : Str) (d : Nat) : Base codeI T.cps 6 { code := codeI, text := T.cps, lim := T.cps.size, start := d, pc := (header codeI).2, pos := d, handed := d, marks := Array.replicate (2 * 3) none, mustAdvance := false, seen := if (header codeI).2 == 0 then {} else ({} : Sre.Seen).add 14, lastStart := T.cps.size } 15 :=
  ⟨⟨rfl, rfl, rfl, rfl, rfl, rfl, rfl, rfl, rfl, Nat.le_refl _, ⟨(fun f hf => by cases hf), Nat.le_refl _⟩⟩, by show (header codeI).2 = 15; rw [headI], rfl, rfl, rfl, rfl⟩
theorem searchI (T : Str) (d : Nat) (hd : d ≤ T.cps.size) (hw : 11 ≤ T.cps.size - d) : Sre.forSearch codeI T.cps 3 d T.cps.size false = M.attemptFrom { code := codeI, text := T.cps, lim := T.cps.size, start := d, pc := (header codeI).2, pos := d, handed := d, marks := Array.replicate (2 * 3) none, mustAdvance := false, seen := if (header codeI).2 == 0 then {} else ({} : Sre.Seen).add 14, lastStart := T.cps.size } d true := by
  unfold Sre.forSearch
  have h1 : (header codeI).1 = 11 := by rw [headI]
  have h2 : ((header codeI).2 != 0 && codeI.getD 2 0 &&& 5 != 0) = true := by decide +kernel
  simp only [h1, h2]
  rw [if_neg (by simp only [Bool.or_eq_true, decide_eq_true_eq]; omega)]
  rfl
theorem searchI_short (T : Str) (d : Nat) (hw : T.cps.size - d < 11 ∨ T.cps.size < d) : ((Sre.forSearch codeI T.cps 3 d T.cps.size false).runFor 1).outcome = some .failed := by
  unfold Sre.forSearch
  have h1 : (header codeI).1 = 11 := by rw [headI]
  simp only [h1]
  rw [if_pos (by simp only [Bool.or_eq_true, decide_eq_true_eq]; omega)]
  rfl
theorem spans_of {m : Sre.M} {s p q r c : Nat} (h : RI s p q r c m.start m.handed m.lastmark m.marks) (hpq : p + 5 ≤ q) : wrongSpan m 3 = false ∧ ∃ sp, spansOf m 3 = sp ∧ ∀ T, valI T sp (cut T (p + 5) q) := by
  obtain ⟨_, _, h⟩ := h
  have hq1 : ¬ (q + 1 < p + 4) := by omega
  have hq2 : ¬ (q < p + 5) := by omega
  rcases h with ⟨hc, hl, x4, x5, hm⟩ | ⟨hc, hl, hm⟩
  · constructor
    · unfold wrongSpan
      rw [hl, hm]
      cases x4 <;> cases x5 <;> simp [List.range, List.range.loop, List.any, hq1, hq2]
    · refine ⟨_, rfl, fun T => ⟨(p + 4 : Nat), (q + 1 : Nat), p + 5, q, .inl ?_, rfl⟩⟩
      unfold spansOf
      rw [hl, hm]
      rfl
  · constructor
    · unfold wrongSpan
      rw [hl, hm]
      simp [List.range, List.range.loop, List.any, hq1, hq2]
    · refine ⟨_, rfl, fun T => ⟨(p + 4 : Nat), (q + 1 : Nat), p + 5, q, .inr ?_, rfl⟩⟩
      unfold spansOf
      rw [hl, hm]
      rfl
theorem matchI {T : Str} (hT : T.cps.size ≤ 1000) {d t p q r c : Nat} (hd : d ≤ t) (h : Img T.cps t p q r c) (hn : ∀ i, d ≤ i → i < t → NoImg T.cps i) : ∃ sp, MatchAt codeI 3 T d t (r + 1) sp ∧ valI T sp (cut T (p + 5) q) := by
  have hw := img_width h
  have h1 := search_win (X := T.cps) (t := t) (by omega) (fun m1 mk a => start_win hT a h) (t - d) d _ true (fun i h1 h2 m1 mk a => start_fail hT a (hn i h1 h2)) (baseI T d) rfl hd
  rw [← searchI T d (by omega) (by omega)] at h1
  obtain ⟨N, h2, h3, h4⟩ := run_win h1
  obtain ⟨w1, sp, w2, w3⟩ := spans_of h4 h.hit.low
  exact ⟨sp, ⟨N, _, by omega, rfl, h3, h4.1, h4.2.1, w1, w2⟩, w3 T⟩
theorem noMatchI {T : Str} (hT : T.cps.size ≤ 1000) {d : Nat} (hd : d ≤ T.cps.size) (hn : ∀ i, d ≤ i → NoImg T.cps i) : NoMatch codeI 3 T d := by
  by_cases hw : 11 ≤ T.cps.size - d
  · have h1 := search_fail (X := T.cps) (T.cps.size - d) d _ true (fun i h1 m1 mk a => start_fail hT a (hn i h1)) (baseI T d) (by omega) hd
    rw [← searchI T d (by omega) (by omega)] at h1
    obtain ⟨N, h2, h3⟩ := run_lost h1
    exact ⟨N, by omega, h3⟩
  · exact ⟨1, by decide, searchI_short T d (by omega)⟩
end
end En
end Mine
end

section
open PySem PySem.W PySem.Calls PyProof.Rows
namespace Mine
namespace En
section
open PySem.Sre
variable {X : Array Nat} {m : Sre.M} {s pos : Nat} {lm : Int} {mk : Array (Option Nat)}
def EndAt (X : Array Nat) (q : Nat) : Prop := X.getD q 0 = 45 ∧ X.getD (q + 1) 0 = 45 ∧ X.getD (q + 2) 0 = 62
structure Com (X : Array Nat) (s q : Nat) : Prop where
  c1 : X.getD (s + 1) 0 = 33
  c2 : X.getD (s + 2) 0 = 45
  c3 : X.getD (s + 3) 0 = 45
  low : s + 4 ≤ q
  fin : EndAt X q
  free : ∀ j, s + 4 ≤ j → j < q → j < X.size ∧ X.getD j 0 ≠ 10 ∧ ¬ EndAt X j
/-- a weaker one: the end need not be the first -/
structure Com0 (X : Array Nat) (s q : Nat) : Prop where
  c1 : X.getD (s + 1) 0 = 33
  c2 : X.getD (s + 2) 0 = 45
  c3 : X.getD (s + 3) 0 = 45
  low : s + 4 ≤ q
  fin : EndAt X q
  free : ∀ j, s + 4 ≤ j → j < q → j < X.size ∧ X.getD j 0 ≠ 10
/-- behind the branch: MARK 1, SUCCESS -/
def RT (s e : Nat) : Rt := fun st h lm mk => st = s ∧ h = e ∧ lm = 1 ∧ mk = #[some s, some e]
theorem close_win (hmk : mk.getD 0 none = some s) {d : Nat} (hd : d ≤ 100) (a : At codeT X 2 d m 48 pos s 0 mk) : Wins 2 m (RT s pos) := by
  refine mark_go (g := some _) (k := 1) (i := 1) a (.inl (by decide)) (by decide) rfl rfl fun m1 a1 => succ_win a1 (by omega) (by decide) rfl ?_
  have hz : mk.size = 2 := by rw [← a.marks]; exact a.size
  obtain ⟨l⟩ := mk
  match l, hz, hmk with
  | [x0, x1], _, hmk =>
    have : x0 = some s := hmk
    subst this
    exact ⟨rfl, rfl, rfl, rfl⟩
theorem close_go {g : Option Rt} {k : Nat} {d : Nat} (a : At codeT X 2 d m 48 pos s lm mk) (h : ∀ m1 mk1, At codeT X 2 d m1 50 pos s (max lm (1 : Nat)) mk1 → Does k m1 g) : Does (k + 1) m g :=
  mark_go (g := g) (k := k) (i := 1) a (.inl (by decide)) (by decide) rfl rfl fun m1 a1 => h m1 _ a1
/-- the end --> -/
theorem fin_fail {d : Nat} (hd : d ≤ 100) (a : At codeT X 2 d m 27 pos s lm mk) (h : ¬ EndAt X pos) : Fails 3 m := by
  by_cases h0 : X.getD pos 0 = 45
  · refine lit_go (c := 45) (g := none) (k := 2) a (by decide) rfl rfl (lt_of_getD h0 (by decide)) h0 fun m1 a1 => ?_
    by_cases h1 : X.getD (pos + 1) 0 = 45
    · refine lit_go (c := 45) (g := none) (k := 1) a1 (by decide) rfl rfl (lt_of_getD h1 (by decide)) h1 fun m2 a2 => ?_
      exact lit_fail (c := 62) a2 (by decide) rfl rfl fun _ h2 => h ⟨h0, h1, h2⟩
    · exact ends_le (lit_fail (c := 45) a1 (by decide) rfl rfl fun _ => h1) (by omega)
  · exact ends_le (lit_fail (c := 45) a (by decide) rfl rfl fun _ => h0) (by omega)
theorem fin_win {d : Nat} (hmk : mk.getD 0 none = some s) (hd : d ≤ 100) (a : At codeT X 2 d m 27 pos s 0 mk) (h : EndAt X pos) : Wins 6 m (RT s (pos + 3)) := by
  obtain ⟨h0, h1, h2⟩ := h
  refine lit_go (c := 45) (g := some _) (k := 5) a (by decide) rfl rfl (lt_of_getD h0 (by decide)) h0 fun m1 a1 => ?_
  refine lit_go (c := 45) (g := some _) (k := 4) a1 (by decide) rfl rfl (lt_of_getD h1 (by decide)) h1 fun m2 a2 => ?_
  refine lit_go (c := 62) (g := some _) (k := 3) a2 (by decide) rfl rfl (lt_of_getD h2 (by decide)) h2 fun m3 a3 => ?_
  exact jump_go (g := some _) (k := 2) (t := 48) a3 (by decide) rfl rfl fun m4 a4 => close_win hmk (by omega) a4
theorem com_of {q : Nat} (hn : ∀ q, ¬ Com X s q) : ∀ q, ¬ Com0 X s q := by
  intro q
  induction q using Nat.strongRecOn with
  | _ q ih =>
    intro h
    exact hn q ⟨h.c1, h.c2, h.c3, h.low, h.fin, fun j h1 h2 => ⟨(h.free j h1 h2).1, (h.free j h1 h2).2, fun he => ih j h2 ⟨h.c1, h.c2, h.c3, h1, he, fun l l1 l2 => h.free l l1 (by omega)⟩⟩⟩
theorem com_fail (hX : X.size ≤ 1000) {d : Nat} (hd : d ≤ 50) (a : At codeT X 2 d m 15 (s + 1) s lm mk) (h : ∀ q, ¬ Com X s q) : Fails 4008 m := by
  by_cases h0 : X.getD (s + 1) 0 = 33
  · refine lit_go (c := 33) (g := none) (k := 4007) a (by decide) rfl rfl (lt_of_getD h0 (by decide)) h0 fun m1 a1 => ?_
    by_cases h1 : X.getD (s + 2) 0 = 45
    · refine lit_go (c := 45) (g := none) (k := 4006) a1 (by decide) rfl rfl (lt_of_getD h1 (by decide)) h1 fun m2 a2 => ?_
      by_cases h2 : X.getD (s + 3) 0 = 45
      · have hl := lt_of_getD h2 (by decide)
        refine lit_go (c := 45) (g := none) (k := 4005) a2 (by decide) rfl rfl hl h2 fun m3 a3 => ?_
        refine ends_le (min_fail (t := 27) (k := 3) a3 (by omega) (by decide) rfl rfl rfl rfl rfl (by omega) fun i hi m4 mk4 a4 => ?_) (by omega)
        refine fin_fail (by omega) a4 fun he => com_of (q := 0) h (s + 4 + i) ⟨h0, h1, h2, by omega, he, fun j j1 j2 => ?_⟩
        have := hi (j - (s + 4)) (by omega)
        rwa [show s + 1 + 1 + 1 + 1 + (j - (s + 4)) = j from by omega] at this
      · exact ends_le (lit_fail (c := 45) a2 (by decide) rfl rfl fun _ => h2) (by omega)
    · exact ends_le (lit_fail (c := 45) a1 (by decide) rfl rfl fun _ => h1) (by omega)
  · exact ends_le (lit_fail (c := 33) a (by decide) rfl rfl fun _ => h0) (by omega)
theorem com_win (hX : X.size ≤ 1000) {d q : Nat} (hmk : mk.getD 0 none = some s) (hd : d ≤ 50) (a : At codeT X 2 d m 15 (s + 1) s 0 mk) (h : Com X s q) : Wins 7011 m (RT s (q + 3)) := by
  have hl := lt_of_getD h.c3 (by decide)
  have hql := lt_of_getD h.fin.1 (by decide)
  have hlow := h.low
  refine lit_go (c := 33) (g := some _) (k := 7010) a (by decide) rfl rfl (by omega) h.c1 fun m1 a1 => ?_
  refine lit_go (c := 45) (g := some _) (k := 7009) a1 (by decide) rfl rfl (by omega) h.c2 fun m2 a2 => ?_
  refine lit_go (c := 45) (g := some _) (k := 7008) a2 (by decide) rfl rfl (by omega) h.c3 fun m3 a3 => ?_
  refine ends_le (min_win (t := 27) (k := 6) (w := q - (s + 4)) a3 (by omega) (by decide) rfl rfl rfl rfl rfl (by omega) (fun i hi m4 mk4 a4 => ?_) (fun l hl => ?_) (fun m4 mk4 hz a4 => ?_)) (by omega)
  · refine ends_le (fin_fail (by omega) a4 ?_) (by omega)
    exact (h.free (s + 4 + i) (by omega) (by omega)).2.2
  · have := h.free (s + 4 + l) (by omega) (by omega)
    exact ⟨this.1, this.2.1⟩
  · rw [show s + 1 + 1 + 1 + 1 + (q - (s + 4)) = q from by omega] at a4
    exact fin_win ((hz (by decide)).trans hmk) (by omega) a4 h.fin
theorem plain_fail (hX : X.size ≤ 1000) {d : Nat} (hd : d ≤ 50) (a : At codeT X 2 d m 36 (s + 1) s lm mk) (hp : s + 1 ≤ X.size) (h : ∀ r, ¬ hasGt X (s + 1) r) : Fails 2003 m := by
  obtain ⟨n, h1, h2, h3⟩ := run_len X 62 _ (s + 1) rfl hp
  refine ends_le (rep_fail (n := n) (t := 43) (k := 1) (c := 62) a (by omega) (by decide) rfl rfl rfl rfl rfl rfl (by omega) h1 h2 h3 fun i hi m1 mk1 a1 => ?_) (by omega)
  refine lit_fail (c := 62) a1 (by decide) rfl rfl fun hl e => ?_
  by_cases hin : i < n
  · exact h2 i hin e
  · have : i = n := by omega
    subst this
    refine h (s + 1 + i) ⟨by omega, hl, e, fun j hj1 hj2 => ?_⟩
    have := h2 (j - (s + 1)) (by omega)
    rwa [show s + 1 + (j - (s + 1)) = j from by omega] at this
theorem plain_win (hX : X.size ≤ 1000) {d r : Nat} (hmk : mk.getD 0 none = some s) (hd : d ≤ 50) (a : At codeT X 2 d m 36 (s + 1) s 0 mk) (h : hasGt X (s + 1) r) : Wins 2003 m (RT s (r + 1)) := by
  obtain ⟨h1, h2, h3, h4⟩ := h
  refine ends_le (rep_first (n := r - (s + 1)) (t := 43) (k := 4) (c := 62) a (by omega) (by decide) rfl rfl rfl rfl rfl rfl (by omega) (by omega) (fun j hj => h4 (s + 1 + j) (by omega) (by omega)) (.inr (by rwa [show s + 1 + (r - (s + 1)) = r from by omega])) fun m1 a1 => ?_) (by omega)
  rw [show s + 1 + (r - (s + 1)) = r from by omega] at a1
  refine lit_go (c := 62) (g := some _) (k := 3) a1 (by decide) rfl rfl h2 h3 fun m2 a2 => ?_
  exact jump_go (g := some _) (k := 2) (t := 48) a2 (by decide) rfl rfl fun m3 a3 => close_win hmk (by omega) a3
def NoTag (X : Array Nat) (s : Nat) : Prop := X.getD s 0 = 60 → (∀ q, ¬ Com X s q) ∧ ∀ r, ¬ hasGt X (s + 1) r
inductive Tag (X : Array Nat) (s : Nat) : Nat → Prop
  | com {q : Nat} (h : X.getD s 0 = 60) (c : Com X s q) : Tag X s (q + 3)
  | plain {r : Nat} (h : X.getD s 0 = 60) (n : ∀ q, ¬ Com X s q) (g : hasGt X (s + 1) r) : Tag X s (r + 1)
theorem tag_fail (hX : X.size ≤ 1000) (a : At codeT X 2 1 m 9 s s (-1) mk) (h : NoTag X s) : Fails 20000 m := by
  refine mark_go (g := none) (k := 19999) (i := 0) a (.inr (by decide)) (by decide) rfl rfl fun m1 a1 => ?_
  by_cases h0 : X.getD s 0 = 60
  · have hl := lt_of_getD h0 (by decide)
    refine lit_go (c := 60) (g := none) (k := 19998) a1 (by decide) rfl rfl hl h0 fun m2 a2 => ?_
    refine ends_le (branch_fail (k := 4008) (s1 := 21) (s2 := 12) a2 (by omega) (by decide) rfl rfl (by decide) rfl (by decide) rfl (fun m7 mk7 a7 => ?_) (fun m7 mk7 a7 => ?_)) (by omega)
    · exact com_fail hX (by omega) a7 (h h0).1
    · exact ends_le (plain_fail hX (by omega) a7 (by omega) (h h0).2) (by omega)
  · exact ends_le (lit_fail (c := 60) a1 (by decide) rfl rfl fun _ => h0) (by omega)
theorem tag_win (hX : X.size ≤ 1000) {e : Nat} (a : At codeT X 2 1 m 9 s s (-1) mk) (h : Tag X s e) : Wins 20000 m (RT s e) := by
  have hz : mk.size = 2 := by rw [← a.marks]; exact a.size
  have hm0 : (markF mk (-1) 0 s).getD 0 none = some s := by
    obtain ⟨l⟩ := mk
    match l, hz with
    | [x0, x1], _ => rfl
  refine mark_go (g := some _) (k := 19999) (i := 0) a (.inr (by decide)) (by decide) rfl rfl fun m1 a1 => ?_
  cases h with
  | @com q h0 c =>
    have hl := lt_of_getD h0 (by decide)
    refine lit_go (c := 60) (g := some _) (k := 19998) a1 (by decide) rfl rfl hl h0 fun m2 a2 => ?_
    refine ends_le (branch_win1 (k := 7011) (s1 := 21) a2 (by omega) (by decide) rfl rfl (by decide) (fun m7 a7 => ?_)) (by omega)
    exact com_win hX hm0 (by omega) a7 c
  | @plain r h0 n g =>
    have hl := lt_of_getD h0 (by decide)
    refine lit_go (c := 60) (g := some _) (k := 19998) a1 (by decide) rfl rfl hl h0 fun m2 a2 => ?_
    refine ends_le (branch_win0 (k := 4008) (s1 := 21) (s2 := 12) a2 (by decide) (by omega) (by decide) rfl rfl (by decide) rfl (by decide) (fun m7 mk7 a7 => ?_) (fun m7 mk7 hz7 a7 => ?_)) (by omega)
    · exact com_fail hX (by omega) a7 n
    · exact ends_le (plain_win hX (hz7.trans hm0) (by omega) a7 g) (by omega)
theorem headT : header codeT = (2, 9) := by decide +kernel
theorem baseT (T : Str) (d : Nat) : Base codeT T.cps 2 { code := codeT, text := T.cps, lim := T.cps.size, start := d, pc := (header codeT).2, pos := d, handed := d, marks := Array.replicate (2 * 1) none, mustAdvance := false, seen := if (header codeT).2 == 0 then {} else ({} : Sre.Seen).add 14, lastStart := T.cps.size } 9 :=
  ⟨⟨rfl, rfl, rfl, rfl, rfl, rfl, rfl, rfl, rfl, Nat.le_refl _, ⟨(fun f hf => by cases hf), Nat.le_refl _⟩⟩, by show (header codeT).2 = 9; rw [headT], rfl, rfl, rfl, rfl⟩
theorem searchT (T : Str) (d : Nat) (hd : d ≤ T.cps.size) (hw : 2 ≤ T.cps.size - d) : Sre.forSearch codeT T.cps 1 d T.cps.size false = M.attemptFrom { code := codeT, text := T.cps, lim := T.cps.size, start := d, pc := (header codeT).2, pos := d, handed := d, marks := Array.replicate (2 * 1) none, mustAdvance := false, seen := if (header codeT).2 == 0 then {} else ({} : Sre.Seen).add 14, lastStart := T.cps.size } d true := by
  unfold Sre.forSearch
  have h1 : (header codeT).1 = 2 := by rw [headT]
  have h2 : ((header codeT).2 != 0 && codeT.getD 2 0 &&& 5 != 0) = true := by decide +kernel
  simp only [h1, h2]
  rw [if_neg (by simp only [Bool.or_eq_true, decide_eq_true_eq]; omega)]
  rfl
theorem searchT_short (T : Str) (d : Nat) (hw : T.cps.size - d < 2 ∨ T.cps.size < d) : ((Sre.forSearch codeT T.cps 1 d T.cps.size false).runFor 1).outcome = some .failed := by
  unfold Sre.forSearch
  have h1 : (header codeT).1 = 2 := by rw [headT]
  simp only [h1]
  rw [if_pos (by simp only [Bool.or_eq_true, decide_eq_true_eq]; omega)]
  rfl
theorem tag_width {e : Nat} (h : Tag X s e) : s + 2 ≤ e ∧ e ≤ X.size ∧ s < X.size := by
  cases h with
  | com h c =>
    have h1 := c.low
    have h2 := lt_of_getD c.fin.2.2 (by decide)
    omega
  | plain h n g =>
    obtain ⟨h1, h2, _⟩ := g
    omega
theorem matchT {T : Str} (hT : T.cps.size ≤ 1000) {d t e : Nat} (hd : d ≤ t) (h : Tag T.cps t e) (hn : ∀ i, d ≤ i → i < t → NoTag T.cps i) : ∃ sp, MatchAt codeT 1 T d t e sp := by
  have hw := tag_width h
  have h1 := search_win (X := T.cps) (t := t) (by omega) (fun m1 mk a => tag_win hT a h) (t - d) d _ true (fun i h1 h2 m1 mk a => tag_fail hT a (hn i h1 h2)) (baseT T d) rfl hd
  rw [← searchT T d (by omega) (by omega)] at h1
  obtain ⟨N, h2, h3, h4, h5, h6, h7⟩ := run_win h1
  refine ⟨_, ⟨N, _, by omega, rfl, h3, h4, h5, ?_, rfl⟩⟩
  unfold wrongSpan
  rw [h6, h7]
  simp [List.range, List.range.loop, List.any]
  omega
theorem noMatchT {T : Str} (hT : T.cps.size ≤ 1000) {d : Nat} (hd : d ≤ T.cps.size) (hn : ∀ i, d ≤ i → NoTag T.cps i) : NoMatch codeT 1 T d := by
  by_cases hw : 2 ≤ T.cps.size - d
  · have h1 := search_fail (X := T.cps) (T.cps.size - d) d _ true (fun i h1 m1 mk a => tag_fail hT a (hn i h1)) (baseT T d) (by omega) hd
    rw [← searchT T d (by omega) (by omega)] at h1
    obtain ⟨N, h2, h3⟩ := run_lost h1
    exact ⟨N, by omega, h3⟩
  · exact ⟨1, by decide, searchT_short T d (by omega)⟩
end
end En
end Mine
end

section
open PySem PySem.W PySem.Calls PyProof.Rows
namespace Mine
def LW : Str := Str.ofString "abcdefghijklmnopqrstuvwxyzABCDEFGHIJKLMNOPQRSTUVWXYZ0123456789_"
abbrev notW (x : Str) : Bool := (Builtin.Str.occurrences (Str.ofString "abcdefghijklmnopqrstuvwxyzABCDEFGHIJKLMNOPQRSTUVWXYZ0123456789_") x 0 (Str.ofString "abcdefghijklmnopqrstuvwxyzABCDEFGHIJKLMNOPQRSTUVWXYZ0123456789_").length 1).isEmpty
abbrev altHere (T : Str) (p : Int) : Bool := Txt.startswith3 T (Str.ofString "alt=") p && notW (Txt.item T (p - 1))
abbrev isQuote (x : Str) : Bool := x == Str.ofString "\"" || x == Str.ofString "'"
def lawTry (T : Str) (p : Int) : Option (Int × Str) :=
  if altHere T p = true then
    if isQuote (Txt.slice T (some (p + 4)) (some (p + 5))) = true then
      if 0 ≤ Txt.find3 T (Txt.slice T (some (p + 4)) (some (p + 5))) (p + 5) then
        if 0 ≤ Txt.find3 T (Str.ofString ">") (Txt.find3 T (Txt.slice T (some (p + 4)) (some (p + 5))) (p + 5) + 1) then
          some (Txt.find3 T (Str.ofString ">") (Txt.find3 T (Txt.slice T (some (p + 4)) (some (p + 5))) (p + 5) + 1) + 1, Txt.slice T (some (p + 5)) (some (Txt.find3 T (Txt.slice T (some (p + 4)) (some (p + 5))) (p + 5))))
        else none
      else none
    else none
  else none
theorem try_a {T : Str} {p : Int} (h : altHere T p = false) : lawTry T p = none := by unfold lawTry; rw [h]; rfl
theorem try_b {T : Str} {p : Int} (h : isQuote (Txt.slice T (some (p + 4)) (some (p + 5))) = false) : lawTry T p = none := by unfold lawTry; rw [h]; simp
theorem try_c {T : Str} {p : Int} (h : ¬ 0 ≤ Txt.find3 T (Txt.slice T (some (p + 4)) (some (p + 5))) (p + 5)) : lawTry T p = none := by unfold lawTry; rw [if_neg h]; simp
theorem try_d {T : Str} {p : Int} (h : ¬ 0 ≤ Txt.find3 T (Str.ofString ">") (Txt.find3 T (Txt.slice T (some (p + 4)) (some (p + 5))) (p + 5) + 1)) : lawTry T p = none := by unfold lawTry; rw [if_neg h]; simp
theorem try_e {T : Str} {p : Int} (ha : altHere T p = true) (hb : isQuote (Txt.slice T (some (p + 4)) (some (p + 5))) = true) (hc : 0 ≤ Txt.find3 T (Txt.slice T (some (p + 4)) (some (p + 5))) (p + 5)) (hd : 0 ≤ Txt.find3 T (Str.ofString ">") (Txt.find3 T (Txt.slice T (some (p + 4)) (some (p + 5))) (p + 5) + 1)) :
    lawTry T p = some (Txt.find3 T (Str.ofString ">") (Txt.find3 T (Txt.slice T (some (p + 4)) (some (p + 5))) (p + 5) + 1) + 1, Txt.slice T (some (p + 5)) (some (Txt.find3 T (Txt.slice T (some (p + 4)) (some (p + 5))) (p + 5)))) := by
  unfold lawTry; rw [if_pos ha, if_pos hb, if_pos hc, if_pos hd]
theorem and_f {a b : Bool} (h : a = false) : false = (a && b) := by rw [h]; rfl
theorem and_tt {a b : Bool} (h : a = true) (h2 : b = true) : true = (a && b) := by rw [h, h2]; rfl
theorem and_tf {a b : Bool} (h2 : b = false) : false = (a && b) := by rw [h2]; cases a <;> rfl
theorem or_t {a b : Bool} (h : a = true) : true = (a || b) := by rw [h]; rfl
theorem or_t2 {a b : Bool} (h : b = true) : true = (a || b) := by rw [h]; cases a <;> rfl
theorem or_f {a b : Bool} (h : a = false) (h2 : b = false) : false = (a || b) := by rw [h, h2]; rfl
theorem and_df {a : Prop} [Decidable a] {b : Bool} (h : ¬ a) : false = (decide a && b) := by simp [h]
theorem and_dt {a : Prop} [Decidable a] {b : Bool} (h : a) (h2 : b = false) : true = (decide a && !b) := by simp [h, h2]
theorem and_dn {a : Prop} [Decidable a] {b : Bool} (h2 : b = true) : false = (decide a && !b) := by simp [h2]
theorem bool_join {M : Model} {A : Around} {E : Value → Shared → Prop} {s : Shared} {env : Env} {h₀ : Heap} {L : Addr} {m : Str → Option Value} {news : List (Addr × Obj)} {test : Expr} {c : Bool} {Q : Bool → Shared → Prop} (_F : Fr h₀ L s.heap m) (_N : News h₀ L s.heap news)
    (hc : wpAny M A (isTrue test env (eval test env)) (fun k s₂ => KJoinC c h₀ L m news s k s₂) E s) (hk : ∀ s₂, KJoinAt h₀ L m news s s₂ → Q c s₂) : wpAny M A (isTrue test env (eval test env)) Q E s := by
  refine wpAny_mono hc (fun k s₂ hkc => ?_) fun _ _ h => h
  obtain ⟨hkc, hat⟩ := hkc
  subst hkc
  exact hk _ hat
def lawScan (T : Str) (start : Int) : Nat → Option (Int × Str)
  | 0 => none
  | n + 1 => match lawTry T (start + n) with
    | some x => some x
    | none => lawScan T start n
abbrev wordCut (T : Str) (k : Int) : Bool := decide (k + 4 < (T.length : Int)) && !(notW (Txt.item T (k + 4)))
def lawImage (T : Str) (k : Int) : Option (Int × Str) :=
  if Txt.startswith3 T (Str.ofString "<img") k = true then
    if wordCut T k = true then none
    else lawScan T (k + 4) ((if Txt.find3 T (Str.ofString ">") (k + 4) < 0 then (T.length : Int) else Txt.find3 T (Str.ofString ">") (k + 4)) - 4 - (k + 4) + 1).toNat
  else none
structure ScanP (T : Str) (start top p : Int) : Prop where
  le : p ≤ top
  eq : lawScan T start (p - start + 1).toNat = lawScan T start (top - start + 1).toNat
theorem scan_init {T : Str} {start top : Int} : ScanP T start top top := ⟨Int.le_refl _, rfl⟩
theorem scan_step {T : Str} {start top p : Int} (h : ScanP T start top p) (hs : start ≤ p) (ht : lawTry T p = none) : ScanP T start top (p - 1) := by
  obtain ⟨h1, h2⟩ := h
  refine ⟨by omega, ?_⟩
  rw [← h2]
  have e1 : (p - start + 1).toNat = (p - start).toNat + 1 := by omega
  have e2 : (p - 1 - start + 1).toNat = (p - start).toNat := by omega
  have e3 : start + ((p - start).toNat : Int) = p := by omega
  rw [e1, e2]
  show _ = match lawTry T (start + ((p - start).toNat : Int)) with | some x => some x | none => lawScan T start (p - start).toNat
  rw [e3, ht]
abbrev StopIs (T : Str) (k r : Int) : Prop := Txt.find3 T (Str.ofString ">") (k + 4) < 0 ∧ r = (T.length : Int) ∨ ¬ Txt.find3 T (Str.ofString ">") (k + 4) < 0 ∧ r = Txt.find3 T (Str.ofString ">") (k + 4)
theorem img_none1 {T : Str} {k : Int} (h : Txt.startswith3 T (Str.ofString "<img") k = false) : lawImage T k = none := by unfold lawImage; rw [h]; rfl
theorem img_none2 {T : Str} {k : Int} (h : wordCut T k = true) : lawImage T k = none := by unfold lawImage; rw [if_pos h]; simp
theorem img_scan {T : Str} {k r : Int} (h1 : Txt.startswith3 T (Str.ofString "<img") k = true) (h2 : wordCut T k = false) (hr : StopIs T k r) : lawImage T k = lawScan T (k + 4) (r - 4 - (k + 4) + 1).toNat := by
  unfold lawImage
  rw [if_pos h1, if_neg (by rw [h2]; simp)]
  rcases hr with ⟨a, b⟩ | ⟨a, b⟩
  · rw [if_pos a, b]
  · rw [if_neg a, b]
theorem img_none3 {T : Str} {k r p : Int} (h1 : Txt.startswith3 T (Str.ofString "<img") k = true) (h2 : wordCut T k = false) (hr : StopIs T k r) (hP : ScanP T (k + 4) (r - 4) p) (hp : ¬ k + 4 ≤ p) : lawImage T k = none := by
  rw [img_scan h1 h2 hr, ← hP.eq]
  have e : (p - (k + 4) + 1).toNat = 0 := by omega
  rw [e]; rfl
theorem img_some {T : Str} {k r p : Int} {x : Int × Str} (h1 : Txt.startswith3 T (Str.ofString "<img") k = true) (h2 : wordCut T k = false) (hr : StopIs T k r) (hP : ScanP T (k + 4) (r - 4) p) (hp : k + 4 ≤ p) (ht : lawTry T p = some x) : lawImage T k = some x := by
  rw [img_scan h1 h2 hr, ← hP.eq]
  have e1 : (p - (k + 4) + 1).toNat = (p - (k + 4)).toNat + 1 := by omega
  have e3 : k + 4 + ((p - (k + 4)).toNat : Int) = p := by omega
  rw [e1]
  show (match lawTry T (k + 4 + ((p - (k + 4)).toNat : Int)) with | some x => some x | none => lawScan T (k + 4) (p - (k + 4)).toNat) = some x
  rw [e3, ht]
theorem gt_lit : Str.ofString ">" = ⟨#[62]⟩ := by decide +kernel
theorem find3_lt {T : Str} {k : Int} : Txt.find3 T (Str.ofString ">") k < (T.length : Int) := by
  rw [gt_lit]
  rcases StrLaws.find3_spec T 62 k with ⟨h, _⟩ | ⟨j, h, h2⟩
  · rw [h]; omega
  · obtain ⟨_, h3, _⟩ := h2; rw [h]; omega
section
local macro_rules | `(tactic| walk_at "KJoinC") => `(tactic| (refine ⟨?_, ⟨⟨_, _, rfl, by assumption, by assumption⟩⟩⟩; first | with_reducible exact and_f (by assumption) | with_reducible exact and_tt (by assumption) (by assumption) | with_reducible exact and_tf (by assumption) | with_reducible exact or_t (by assumption) | with_reducible exact or_t2 (by assumption) | with_reducible exact or_f (by assumption) (by assumption) | with_reducible exact and_df (by assumption) | with_reducible exact and_df (by omega) | with_reducible exact and_dt (by assumption) (by assumption) | with_reducible exact and_dn (by assumption) | with_reducible rfl))
local macro_rules | `(tactic| walk_at "KswEnd") => `(tactic| ((rename News _ _ _ _ => nE'); refine ksw_end ⟨_, _⟩ (by assumption) nE' (fun _ h => h) True.intro (by kst_all) (by ksw_same) (by exact scan_step (by assumption) (by assumption) (by first | with_reducible exact try_a (by assumption) | with_reducible exact try_b (by assumption) | with_reducible exact try_c (by assumption) | with_reducible exact try_d (by assumption))) (by dsimp only; omega)))
local macro_rules | `(tactic| k_room) => `(tactic| ((try simp only [depth_under_make, depth_under_kw, depth_in1, depth_deeper, depth_caller]); (try dsimp only [ktrTop]); have hR9 : recursionLimit = 1000 := rfl; omega))
variable {w : World} {p : Program} {loose : List Str} {mean : ExcName → Option Value} {mg mb : Str → Option Value} {news : List (Addr × Obj)} {g : Obj → List (Addr × Obj)}
  {dp un : Nat} {gd : Option (List Code)} {cn : Str} {cs : Scope} {a : Addr} {ccd : Value} {cl : List (Str × Addr)} {outer : List Env} {A₀ : Around} {base h₀ : Heap} {L : Addr} {m : Str → Option Value} {s : Shared} {Q E : Value → Shared → Prop}
set_option maxRecDepth 100000 in
set_option maxHeartbeats 8000000 in
theorem image_ctr {T : Str} {k : Int} {tT tk : Tok} (hT : TextOk T) (hk0 : 0 ≤ k) (hk1 : k < T.length)
    (B : Below A₀ base outer h₀) (F : Fr h₀ L s.heap m) (X : (hd.heap_39 w.params).In h₀) (N : News h₀ L s.heap news) (Tp : Top p loose mean mg mb h₀) (hK : cs.kind = .function)
    (hd : dp + 10 < recursionLimit) (hu : un + 80 < cLine)
    (h0 : ∀ h' tk', lawImage T k = none → Fr h₀ L h' m → News h₀ L h' news → Q .none { s with heap := h', toks := tk' })
    (h1 : ∀ e v te tv D h' tk', lawImage T k = some (e, v) → v.length ≤ T.length → Fr h₀ L h' m → News h₀ L h' ((D, { cls := .type "tuple", data := .seq #[.int e te, .str v tv] }) :: news) → (∀ p ∈ news, p.1 < D) → Q (.ref D) { s with heap := h', toks := tk' }) :
    wpAny (model PySem.Challenge.rw_br5020_01.row.prog w) (ktrTop dp un gd cn cs L a ccd cl outer) (call (.ref 418) [.str T tT, .int k tk]) Q E s := by
  w_top off
  revert X; k_fill; intro X
  have hlT := hT.1
  refine wpAny_call ?_

  k_dflt (refine' code_def ?k1 ?k2 ?k3 ?k4 ?k5 ?kA ?kF ?kK ?k6 ?k7 ?k8 ?k9 ?kB ?_ ?c2 ?c3 ?c4 ?c5; (case kA => exact rfl); (case kF => exact rfl); (case kK => first | exact rfl | assumption); (case k1 => k_asm); (case k2 => k_asm); (case k3 => k_asm); (case k4 => k_asm); (case k5 => k_asm); (case k6 => k_is); (case k7 => k_is); (case k8 => ktr_room); (case k9 => first | exact BindsTo.of_eq rfl | exact binds_K (by k_in) rfl (by k_is) rfl rfl rfl); (case c5 => decide); (case kB => exact locs rfl); (case c2 => exact rfl); (case c3 => exact rfl); (case c4 => exact rfl); k_whole; intro g' L' h' FG' F' N' B' X' T'; (try dsimp only); (try k_lift B'); (try k_fold))

  k_with_none
  k_with "exec If" => ((rename Fr _ _ _ _ => F9); (rename News _ _ _ _ => N9); apply kj_if_set (v := (T.length : Int)) F9 N9; (case hold => with_unfolding_all rfl))
  k_with "isTrue BoolOp" => ((rename Fr _ _ _ _ => F9); (rename News _ _ _ _ => N9); first
    | ((with_reducible show wpAny _ _ (isTrue (Expr.BoolOp BoolOp.Or [_, _] _) _ _) _ _ _); refine bool_join (c := isQuote (Txt.slice T (some (p' + 4)) (some (p' + 5)))) F9 N9 (isTrue_or ?_) ?_; (rotate_left; (intro s9 hJ9; obtain ⟨h9, tk9, e9, F8, N8⟩ := KJoinAt.at_ hJ9; subst e9; clear F9 N9 hJ9); rotate_left))
    | ((with_reducible show wpAny _ _ (isTrue (Expr.BoolOp BoolOp.And [_, _] _) _ _) _ _ _); refine bool_join (c := altHere T p') F9 N9 (isTrue_and ?_) ?_; (rotate_left; (intro s9 hJ9; obtain ⟨h9, tk9, e9, F8, N8⟩ := KJoinAt.at_ hJ9; subst e9; clear F9 N9 hJ9); rotate_left))
    | ((with_reducible show wpAny _ _ (isTrue (Expr.BoolOp BoolOp.And [_, _] _) _ _) _ _ _); refine bool_join (c := decide (k + 4 < (T.length : Int)) && !(notW (Txt.item T (k + 4)))) F9 N9 (isTrue_and ?_) ?_; (rotate_left; (intro s9 hJ9; obtain ⟨h9, tk9, e9, F8, N8⟩ := KJoinAt.at_ hJ9; subst e9; clear F9 N9 hJ9); rotate_left)))
  k_with "exec While Compare cons nil" => (((rename Fr _ _ _ _ => lF'); (rename News _ _ _ _ => lN'); (with_unfolding_all refine' ksw_while (σ := Int × Tok) (fun _ => news) (fun c => [(Str.ofString "place", Value.int c.1 c.2)]) (fun _ => True) [Str.ofString "mark", Str.ofString "shut", Str.ofString "end"] (fun c => ScanP T (k + 4) _ c.1) (fun c => (c.1 - (k + 4) + 1).toNat) ⟨_, _⟩ lF' (by with_unfolding_all exact lN') True.intro (by kst_all) (by with_reducible exact scan_init) ?_); (all_goals (try clear lF' lN')); (rintro ⟨p', tp'⟩ u' h' tk' hf' hP kFr kNews; have hP1 := hP.le; (have kMark := kstMark); (try dsimp only [kstB] at kFr); (try dsimp only at kNews); (try dsimp only at hP); (try dsimp only at hP1); (try k_fold)); have hfl : Txt.find3 T (Str.ofString ">") (k + 4) < (T.length : Int) := find3_lt))
  k_steps
  all_goals first
    | exact h0 _ _ (img_none1 (by with_reducible assumption)) (by assumption) (by assumption)
    | exact h0 _ _ (img_none2 (by with_reducible assumption)) (by assumption) (by assumption)
    | exact h0 _ _ (img_none3 (by with_reducible assumption) (by with_reducible assumption) (by with_reducible assumption) (by with_reducible assumption) (by with_reducible assumption)) (by assumption) (by assumption)
    | exact h1 _ _ _ _ _ _ _ (img_some (by with_reducible assumption) (by with_reducible assumption) (by with_reducible assumption) (by with_reducible assumption) (by with_reducible assumption) (try_e (by with_reducible assumption) (by with_reducible assumption) (by with_reducible assumption) (by with_reducible assumption))) (by with_reducible assumption) (by assumption) (by assumption) (by assumption)
end
end Mine
end

section
open PySem PySem.W PySem.Calls PyProof.Rows
namespace Mine
section
open Builtin Builtin.Str StrLaws
abbrev X (T : Str) (i : Nat) : Nat := T.cps.getD i 0
theorem word_tab : ∀ c, c < 128 → ((Str.ofString "abcdefghijklmnopqrstuvwxyzABCDEFGHIJKLMNOPQRSTUVWXYZ0123456789_").cps.toList.contains c) = Sre.isWordUni c := by decide +kernel
theorem fromIndex_nat {n k : Nat} : fromIndex n (k : Int) = k := by
  unfold fromIndex
  rw [if_neg (by omega)]
  omega
theorem occ_found {x y : Str} : (occurrences x y 0 x.length 1).isEmpty = false ↔ ∃ i, i + y.length ≤ x.length ∧ subAt x y i = true := by
  rw [← found_iff]; simp
theorem getD_at {T : Str} {i c : Nat} (hc : c ≠ 0) : T.cps.toList[i]? = some c ↔ X T i = c := by
  constructor
  · exact getD_of_getElem?
  · intro h
    exact getElem?_of_getD (En.lt_of_getD h hc) h
theorem notW_iff {c : Nat} (hc : c < 128) : notW ⟨#[c]⟩ = !(Sre.isWordUni c) := by
  rw [← word_tab c hc]
  unfold notW
  cases h : (occurrences (Str.ofString "abcdefghijklmnopqrstuvwxyzABCDEFGHIJKLMNOPQRSTUVWXYZ0123456789_") ⟨#[c]⟩ 0 (Str.ofString "abcdefghijklmnopqrstuvwxyzABCDEFGHIJKLMNOPQRSTUVWXYZ0123456789_").length 1).isEmpty with
  | false =>
    obtain ⟨i, h1, h2⟩ := occ_found.mp h
    have := (subAt_one _ c i).mp ⟨h1, h2⟩
    have hm := List.mem_of_getElem? this
    rw [List.contains_iff_mem.mpr hm]; rfl
  | true =>
    cases hw : ((Str.ofString "abcdefghijklmnopqrstuvwxyzABCDEFGHIJKLMNOPQRSTUVWXYZ0123456789_").cps.toList.contains c) with
    | false => rfl
    | true =>
      obtain ⟨i, hi⟩ := List.mem_iff_getElem?.mp (List.contains_iff_mem.mp hw)
      have := occ_found.mpr ⟨i, (subAt_one _ c i).mpr hi⟩
      rw [h] at this; cases this
theorem item_nat {T : Str} {k : Nat} (hk : k < T.length) : Txt.item T (k : Int) = ⟨#[X T k]⟩ := by
  unfold Txt.item Txt.charAt
  rw [seqIndex_nonneg (by omega) (by omega)]
  have hk' : k < T.cps.size := hk
  have e : ((k : Int).toNat) = k := by omega
  simp [X, Array.getD, hk', e]
theorem four_iff {T : Str} {a b c d k : Nat} (ha : a ≠ 0) (hb : b ≠ 0) (hc : c ≠ 0) (hd : d ≠ 0) : At T ⟨#[a, b, c, d]⟩ T.length k ↔ X T k = a ∧ X T (k + 1) = b ∧ X T (k + 2) = c ∧ X T (k + 3) = d := by
  rw [← getD_at ha, ← getD_at hb, ← getD_at hc, ← getD_at hd]
  unfold At
  rw [subAt_eq]
  have e4 : (⟨#[a, b, c, d]⟩ : Str).length = 4 := rfl
  have el : T.length = T.cps.toList.length := by simp [Str.length]
  rw [e4, el]
  generalize T.cps.toList = l
  show _ ∧ (List.take 4 (List.drop k l) == [a, b, c, d]) = true ↔ _
  have g : ∀ j, l[k + j]? = (l.drop k)[j]? := fun j => by rw [List.getElem?_drop]
  rw [show l[k]? = (l.drop k)[0]? from g 0, g 1, g 2, g 3]
  have hl : (l.drop k).length = l.length - k := List.length_drop
  generalize l.drop k = t at *
  rw [beq_iff_eq]
  match t with
  | [] => simp
  | [_] => simp
  | [_, _] => simp
  | [_, _, _] => simp
  | x :: y :: z :: u :: r =>
    simp at hl ⊢
    intro _ _ _ _
    omega
theorem three_iff {T : Str} {a b c k : Nat} (ha : a ≠ 0) (hb : b ≠ 0) (hc : c ≠ 0) : At T ⟨#[a, b, c]⟩ T.length k ↔ X T k = a ∧ X T (k + 1) = b ∧ X T (k + 2) = c := by
  rw [← getD_at ha, ← getD_at hb, ← getD_at hc]
  unfold At
  rw [subAt_eq]
  have e4 : (⟨#[a, b, c]⟩ : Str).length = 3 := rfl
  have el : T.length = T.cps.toList.length := by simp [Str.length]
  rw [e4, el]
  generalize T.cps.toList = l
  show _ ∧ (List.take 3 (List.drop k l) == [a, b, c]) = true ↔ _
  have g : ∀ j, l[k + j]? = (l.drop k)[j]? := fun j => by rw [List.getElem?_drop]
  rw [show l[k]? = (l.drop k)[0]? from g 0, g 1, g 2]
  have hl : (l.drop k).length = l.length - k := List.length_drop
  generalize l.drop k = t at *
  rw [beq_iff_eq]
  match t with
  | [] => simp
  | [_] => simp
  | [_, _] => simp
  | x :: y :: z :: r =>
    simp at hl ⊢
    intro _ _ _
    omega
theorem starts_nat {T y : Str} {k : Nat} : Txt.startswith3 T y (k : Int) = true ↔ At T y T.length k := by
  unfold Txt.startswith3 At
  rw [fromIndex_nat]
  simp
theorem find_nat (T y : Str) (k : Nat) : (Txt.find3 T y (k : Int) = -1 ∧ ∀ i, k ≤ i → ¬ At T y T.length i) ∨ ∃ j : Nat, Txt.find3 T y (k : Int) = (j : Int) ∧ k ≤ j ∧ At T y T.length j ∧ ∀ i, k ≤ i → i < j → ¬ At T y T.length i := by
  unfold Txt.find3
  rw [fromIndex_nat]
  rcases occ_head_from T y k 1 (Nat.le_refl 1) with ⟨h0, hn⟩ | ⟨j, r, h0, hlo, hk, hn⟩
  · rw [h0]; exact .inl ⟨rfl, hn⟩
  · rw [h0]; exact .inr ⟨j, rfl, hlo, hk, hn⟩
theorem find1_nat (T : Str) (c k : Nat) (hc : c ≠ 0) : (Txt.find3 T ⟨#[c]⟩ (k : Int) = -1 ∧ ∀ i, k ≤ i → X T i ≠ c) ∨ ∃ j : Nat, Txt.find3 T ⟨#[c]⟩ (k : Int) = (j : Int) ∧ k ≤ j ∧ j < T.length ∧ X T j = c ∧ ∀ i, k ≤ i → i < j → X T i ≠ c := by
  rcases find3_spec T c k with ⟨h, h2⟩ | ⟨j, h, h1, h2, h3, h4⟩
  · rw [fromIndex_nat] at h2
    exact .inl ⟨h, fun i hi he => h2 i hi (En.lt_of_getD he hc) he⟩
  · rw [fromIndex_nat] at h1 h4
    exact .inr ⟨j, h, h1, h2, h3, h4⟩
theorem slice_nat {T : Str} {a b : Nat} (hab : a ≤ b) (hb : b ≤ T.length) : Txt.slice T (some (a : Int)) (some (b : Int)) = cut T a b := by
  have := sliceText_nat T hab hb
  unfold sliceText at this
  unfold Txt.slice
  rw [this]
  apply Str.ext'
  show _ = T.cps.extract a b
  apply Array.ext'
  rw [Array.toList_extract]
theorem slice_end {T : Str} {a b : Nat} (hb : T.length ≤ b) : Txt.slice T (some (a : Int)) (some (b : Int)) = Txt.slice T (some (a : Int)) (some (T.length : Int)) := by
  have e : strSliceIndices (some (a : Int)) (some (b : Int)) 1 T.length = strSliceIndices (some (a : Int)) (some (T.length : Int)) 1 T.length := by
    unfold strSliceIndices
    simp only [show ¬ ((b : Int) < 0) from by omega, show ¬ ((T.length : Int) < 0) from by omega, if_false]
    rw [Int.min_eq_right (show (T.length : Int) ≤ (b : Int) by omega), Int.min_self]
    rfl
  unfold Txt.slice
  rw [e]
/-- the law's image, in plain places -/
structure Hit0 (T : Str) (p q r c : Nat) : Prop where
  c0 : X T p = 97
  c1 : X T (p + 1) = 108
  c2 : X T (p + 2) = 116
  c3 : X T (p + 3) = 61
  c4 : X T (p + 4) = c
  isq : c = 34 ∨ c = 39
  low : p + 5 ≤ q
  cq : X T q = c
  free : ∀ j, p + 5 ≤ j → j < q → X T j ≠ c
  gt : En.hasGt T.cps (q + 1) r
theorem lit_alt : Str.ofString "alt=" = ⟨#[97, 108, 116, 61]⟩ := by decide +kernel
theorem lit_img : Str.ofString "<img" = ⟨#[60, 105, 109, 103]⟩ := by decide +kernel
theorem lit_com : Str.ofString "<!--" = ⟨#[60, 33, 45, 45]⟩ := by decide +kernel
theorem lit_end : Str.ofString "-->" = ⟨#[45, 45, 62]⟩ := by decide +kernel
theorem lit_dq : Str.ofString "\"" = ⟨#[34]⟩ := by decide +kernel
theorem lit_sq : Str.ofString "'" = ⟨#[39]⟩ := by decide +kernel
theorem lit_lt : Str.ofString "<" = ⟨#[60]⟩ := by decide +kernel
theorem lit_nl : Str.ofString "\n" = ⟨#[10]⟩ := by decide +kernel
theorem str_beq {a b : Str} : (a == b) = true ↔ a = b := beq_iff_eq
theorem one_beq {c d : Nat} : ((⟨#[c]⟩ : Str) == ⟨#[d]⟩) = true ↔ c = d := by
  rw [str_beq]
  constructor
  · intro h
    have := congrArg Str.cps h
    simpa using this
  · rintro rfl; rfl
theorem cut_one {T : Str} {k : Nat} (hk : k < T.length) : cut T k (k + 1) = ⟨#[X T k]⟩ := by
  have hk' : k < T.cps.size := hk
  apply Str.ext'
  show T.cps.extract k (k + 1) = #[X T k]
  apply Array.ext'
  simp only [X, Array.getD, hk', Array.toList_extract, List.extract]
  rw [List.drop_eq_getElem_cons (by simpa using hk')]
  simp
theorem mark_slice {T : Str} {p : Nat} : isQuote (Txt.slice T (some ((p : Int) + 4)) (some ((p : Int) + 5))) = true ↔ p + 4 < T.length ∧ (X T (p + 4) = 34 ∨ X T (p + 4) = 39) := by
  rw [show ((p : Int) + 4) = ((p + 4 : Nat) : Int) from rfl, show ((p : Int) + 5) = ((p + 4 + 1 : Nat) : Int) from rfl]
  unfold isQuote
  by_cases h : p + 4 < T.length
  · rw [slice_nat (by omega) (by omega), cut_one h, lit_dq, lit_sq, Bool.or_eq_true, one_beq, one_beq]
    simp [h]
  · have hl : (Txt.slice T (some ((p + 4 : Nat) : Int)) (some ((p + 4 + 1 : Nat) : Int))).length = 0 := by
      rw [slice_end (by omega)]
      unfold Txt.slice
      have e : strSliceIndices (some ((p + 4 : Nat) : Int)) (some (T.length : Int)) 1 T.length = [] := by
        unfold strSliceIndices sliceRange
        simp only [show ¬ (((p + 4 : Nat) : Int) < 0) from by omega, show ¬ ((T.length : Int) < 0) from by omega, if_false, show (1 : Int) > 0 from by decide, if_true]
        rw [Int.min_eq_right (show (T.length : Int) ≤ ((p + 4 : Nat) : Int) by omega), Int.min_self]
        simp
      rw [e]
      split
      · next h2 => (simp at h2; omega)
      · rfl
    constructor
    · intro hb
      exfalso
      rw [Bool.or_eq_true, str_beq, str_beq, lit_dq, lit_sq] at hb
      rcases hb with hb | hb <;> (rw [hb] at hl; exact absurd hl (by decide))
    · intro hb; exact absurd hb.1 h
theorem mark_is {T : Str} {p : Nat} (h : p + 4 < T.length) : Txt.slice T (some ((p : Int) + 4)) (some ((p : Int) + 5)) = ⟨#[X T (p + 4)]⟩ := by
  rw [show ((p : Int) + 4) = ((p + 4 : Nat) : Int) from rfl, show ((p : Int) + 5) = ((p + 4 + 1 : Nat) : Int) from rfl, slice_nat (by omega) (by omega), cut_one h]
theorem altHere_iff {T : Str} {p : Nat} : altHere T (p : Int) = true ↔ (X T p = 97 ∧ X T (p + 1) = 108 ∧ X T (p + 2) = 116 ∧ X T (p + 3) = 61) ∧ notW (Txt.item T ((p : Int) - 1)) = true := by
  unfold altHere
  rw [Bool.and_eq_true, starts_nat, lit_alt, four_iff (by decide) (by decide) (by decide) (by decide)]
theorem try_some {T : Str} {p : Nat} {e : Int} {v : Str} (h : lawTry T (p : Int) = some (e, v)) : ∃ q r c, Hit0 T p q r c ∧ notW (Txt.item T ((p : Int) - 1)) = true ∧ e = ((r + 1 : Nat) : Int) ∧ v = cut T (p + 5) q := by
  unfold lawTry at h
  split at h
  case isFalse => cases h
  rename_i ha
  split at h
  case isFalse => cases h
  rename_i hb
  split at h
  case isFalse => cases h
  rename_i hc
  split at h
  case isFalse => cases h
  rename_i hd
  obtain ⟨ha1, ha2⟩ := altHere_iff.mp ha
  obtain ⟨hb1, hb2⟩ := mark_slice.mp hb
  rw [mark_is hb1] at hc hd h
  have hne : X T (p + 4) ≠ 0 := by omega
  rw [show ((p : Int) + 5) = ((p + 5 : Nat) : Int) from rfl] at hc hd h
  rcases find1_nat T (X T (p + 4)) (p + 5) hne with ⟨f, _⟩ | ⟨q, f, f1, f2, f3, f4⟩
  · rw [f] at hc; omega
  · rw [f] at hd h
    rw [show ((q : Int) + 1) = ((q + 1 : Nat) : Int) from rfl, gt_lit] at hd h
    rcases find1_nat T 62 (q + 1) (by decide) with ⟨g, _⟩ | ⟨r, g, g1, g2, g3, g4⟩
    · rw [g] at hd; omega
    · rw [g] at h
      injection h with h
      injection h with h1 h2
      refine ⟨q, r, X T (p + 4), ⟨ha1.1, ha1.2.1, ha1.2.2.1, ha1.2.2.2, rfl, hb2, f1, f3, f4, g1, g2, g3, g4⟩, ha2, h1.symm, ?_⟩
      rw [← h2, slice_nat (by omega) (by omega)]
theorem try_none {T : Str} {p : Nat} (h : lawTry T (p : Int) = none) (hw : notW (Txt.item T ((p : Int) - 1)) = true) : ∀ q r c, ¬ Hit0 T p q r c := by
  intro q r c hh
  obtain ⟨c0, c1, c2, c3, c4, isq, low, cq, free, g1, g2, g3, g4⟩ := hh
  have hl : p + 4 < T.length := En.lt_of_getD c4 (by omega)
  have hq : q < T.length := En.lt_of_getD cq (by omega)
  have hne : c ≠ 0 := by omega
  have ha : altHere T (p : Int) = true := altHere_iff.mpr ⟨⟨c0, c1, c2, c3⟩, hw⟩
  have hb : isQuote (Txt.slice T (some ((p : Int) + 4)) (some ((p : Int) + 5))) = true := mark_slice.mpr ⟨hl, by rw [c4]; exact isq⟩
  unfold lawTry at h
  rw [if_pos ha, if_pos hb, mark_is hl, c4, show ((p : Int) + 5) = ((p + 5 : Nat) : Int) from rfl] at h
  rcases find1_nat T c (p + 5) hne with ⟨f, f2⟩ | ⟨q', f, f1, f2, f3, f4⟩
  · exact f2 q low cq
  · have hqq : q' = q := by
      rcases Nat.lt_trichotomy q' q with hlt | he | hgt
      · exact absurd f3 (free q' f1 hlt)
      · exact he
      · exact absurd cq (f4 q low hgt)
    subst hqq
    rw [f, if_pos (by omega), show ((q' : Int) + 1) = ((q' + 1 : Nat) : Int) from rfl, gt_lit] at h
    rcases find1_nat T 62 (q' + 1) (by decide) with ⟨g, g5⟩ | ⟨r', g, g5, _⟩
    · exact g5 r g1 g3
    · rw [g, if_pos (by omega)] at h
      cases h
theorem asc {T : Str} (hT : TextOk T) (i : Nat) : X T i < 128 := by
  by_cases h : i < T.cps.size
  · have : X T i ∈ T.cps.toList := by
      unfold X
      simp [Array.getD, h]
    exact (hT.2 _ this).1
  · rw [show X T i = 0 from En.getD_ge (by omega)]; decide
theorem word_a : Sre.isWordUni 97 = true := by decide +kernel
theorem word_g : Sre.isWordUni 103 = true := by decide +kernel
theorem bnd_alt {T : Str} {p : Nat} (hT : TextOk T) (hp : 1 ≤ p) (h : X T p = 97) : En.bnd T.cps p = notW (Txt.item T ((p : Int) - 1)) := by
  have hl : p < T.cps.size := En.lt_of_getD h (by decide)
  have e : ((p : Int) - 1) = ((p - 1 : Nat) : Int) := by omega
  rw [e, item_nat (by show p - 1 < T.cps.size; omega), notW_iff (asc hT _)]
  unfold En.bnd
  have h' : T.cps.getD p 0 = 97 := h
  rw [h', word_a]
  have h1 : (T.cps.size != 0) = true := bne_iff_ne.mpr (by omega)
  simp [h1, hl, show 0 < p from hp]
theorem bnd_img {T : Str} {k : Nat} (hT : TextOk T) (h : X T (k + 3) = 103) : En.bnd T.cps (k + 4) = !(wordCut T (k : Int)) := by
  have hl : k + 3 < T.cps.size := En.lt_of_getD h (by decide)
  unfold En.bnd wordCut
  have h' : T.cps.getD (k + 4 - 1) 0 = 103 := h
  rw [h', word_g]
  have h1 : (T.cps.size != 0) = true := bne_iff_ne.mpr (by omega)
  rw [show ((k : Int) + 4) = ((k + 4 : Nat) : Int) from rfl]
  by_cases hk : k + 4 < T.length
  · rw [item_nat hk, notW_iff (asc hT _)]
    have hk' : k + 4 < T.cps.size := hk
    have hk2 : ((k + 4 : Nat) : Int) < (T.length : Int) := by omega
    simp only [h1, hk', hk2, X, decide_true, Bool.true_and, Bool.not_not]
    cases Sre.isWordUni (T.cps.getD (k + 4) 0) <;> rfl
  · have hk' : ¬ (k + 4 < T.cps.size) := hk
    have hk2 : ¬ (((k + 4 : Nat) : Int) < (T.length : Int)) := by omega
    simp only [h1, hk', hk2, decide_false, Bool.false_and]
    simp
theorem scan_some {T : Str} {start : Nat} {x : Int × Str} : ∀ {n : Nat}, lawScan T (start : Int) n = some x → ∃ i, i < n ∧ lawTry T ((start + i : Nat) : Int) = some x ∧ ∀ j, i < j → j < n → lawTry T ((start + j : Nat) : Int) = none
  | 0, h => by cases h
  | n + 1, h => by
    unfold lawScan at h
    rw [show ((start : Int) + (n : Int)) = ((start + n : Nat) : Int) from rfl] at h
    cases ht : lawTry T ((start + n : Nat) : Int) with
    | some y =>
      rw [ht] at h
      exact ⟨n, by omega, by rw [ht]; exact h, fun j h1 h2 => by omega⟩
    | none =>
      rw [ht] at h
      obtain ⟨i, h1, h2, h3⟩ := scan_some h
      refine ⟨i, by omega, h2, fun j j1 j2 => ?_⟩
      by_cases hj : j = n
      · rw [hj]; exact ht
      · exact h3 j j1 (by omega)
theorem scan_none {T : Str} {start : Nat} : ∀ {n : Nat}, lawScan T (start : Int) n = none → ∀ j, j < n → lawTry T ((start + j : Nat) : Int) = none
  | 0, h, j, hj => by omega
  | n + 1, h, j, hj => by
    unfold lawScan at h
    rw [show ((start : Int) + (n : Int)) = ((start + n : Nat) : Int) from rfl] at h
    cases ht : lawTry T ((start + n : Nat) : Int) with
    | some y => rw [ht] at h; cases h
    | none =>
      rw [ht] at h
      by_cases hj' : j = n
      · rw [hj']; exact ht
      · exact scan_none h j (by omega)
/-- the stop of the law's walk: the first > behind the image's word, or the end -/
def stopOf (T : Str) (k : Nat) : Int := (if Txt.find3 T (Str.ofString ">") ((k : Int) + 4) < 0 then (T.length : Int) else Txt.find3 T (Str.ofString ">") ((k : Int) + 4)) - 4
theorem stop_low {T : Str} {k p : Nat} (h : (p : Int) ≤ stopOf T k) : ∀ j, k + 4 ≤ j → j < p → X T j ≠ 62 := by
  unfold stopOf at h
  rw [show ((k : Int) + 4) = ((k + 4 : Nat) : Int) from rfl, gt_lit] at h
  rcases find1_nat T 62 (k + 4) (by decide) with ⟨g, g2⟩ | ⟨r, g, g1, g2, g3, g4⟩
  · exact fun j h1 _ => g2 j h1
  · rw [g, if_neg (by omega)] at h
    exact fun j h1 h2 => g4 j h1 (by omega)
theorem stop_high {T : Str} {k p q r c : Nat} (h : ¬ (p : Int) ≤ stopOf T k) (hk : k + 4 ≤ p) (hn : ∀ j, k + 4 ≤ j → j < p → X T j ≠ 62) : ¬ Hit0 T p q r c := by
  intro hh
  have hl : p + 4 < T.length := En.lt_of_getD hh.c4 (by have := hh.isq; omega)
  unfold stopOf at h
  rw [show ((k : Int) + 4) = ((k + 4 : Nat) : Int) from rfl, gt_lit] at h
  rcases find1_nat T 62 (k + 4) (by decide) with ⟨g, g2⟩ | ⟨s, g, g1, g2, g3, g4⟩
  · rw [g, if_pos (by decide)] at h
    omega
  · rw [g, if_neg (by omega)] at h
    have hs : p ≤ s := Nat.le_of_not_lt fun hlt => hn s g1 hlt g3
    have c0 := hh.c0
    have c1 := hh.c1
    have c2 := hh.c2
    have c3 := hh.c3
    have : s = p ∨ s = p + 1 ∨ s = p + 2 ∨ s = p + 3 := by omega
    rcases this with e | e | e | e <;> subst e <;> omega
theorem starts_img {T : Str} {k : Nat} : Txt.startswith3 T (Str.ofString "<img") (k : Int) = true ↔ X T k = 60 ∧ X T (k + 1) = 105 ∧ X T (k + 2) = 109 ∧ X T (k + 3) = 103 := by
  rw [starts_nat, lit_img, four_iff (by decide) (by decide) (by decide) (by decide)]
theorem image_scan {T : Str} {k : Nat} (h1 : Txt.startswith3 T (Str.ofString "<img") (k : Int) = true) (h2 : wordCut T (k : Int) = false) : lawImage T (k : Int) = lawScan T ((k + 4 : Nat) : Int) (stopOf T k - ((k + 4 : Nat) : Int) + 1).toNat := by
  unfold lawImage
  rw [if_pos h1, if_neg (by rw [h2]; simp)]
  rfl
theorem image_some {T : Str} {k : Nat} {e : Int} {v : Str} (hT : TextOk T) (h : lawImage T (k : Int) = some (e, v)) : ∃ p q r c, En.Img T.cps k p q r c ∧ e = ((r + 1 : Nat) : Int) ∧ v = cut T (p + 5) q := by
  cases h1 : Txt.startswith3 T (Str.ofString "<img") (k : Int) with
  | false => rw [img_none1 h1] at h; cases h
  | true =>
    cases h2 : wordCut T (k : Int) with
    | true => rw [img_none2 h2] at h; cases h
    | false =>
      rw [image_scan h1 h2] at h
      obtain ⟨a0, a1, a2, a3⟩ := starts_img.mp h1
      obtain ⟨i, i1, i2, i3⟩ := scan_some h
      obtain ⟨q, r, c, hh, hw, he, hv⟩ := try_some i2
      refine ⟨k + 4 + i, q, r, c, ⟨⟨a0, a1, a2, a3, by rw [bnd_img hT a3, h2]; rfl⟩, ⟨by omega, stop_low (by omega)⟩, ⟨?_, hh.c0, hh.c1, hh.c2, hh.c3, hh.c4, hh.isq, hh.low, hh.cq, hh.free, hh.gt⟩, ?_⟩, he, hv⟩
      · rw [bnd_alt hT (by omega) hh.c0]; exact hw
      · intro p' q' r' c' hlt hno hit
        have h0 : Hit0 T p' q' r' c' := ⟨hit.c0, hit.c1, hit.c2, hit.c3, hit.c4, hit.isq, hit.low, hit.cq, hit.free, hit.gt⟩
        by_cases hp : (p' : Int) ≤ stopOf T k
        · have ht := i3 (p' - (k + 4)) (by omega) (by omega)
          rw [show k + 4 + (p' - (k + 4)) = p' from by omega] at ht
          refine try_none ht ?_ _ _ _ h0
          rw [← bnd_alt hT (by omega) hit.c0]; exact hit.bd
        · exact stop_high hp hno.1 hno.2 h0
theorem image_none {T : Str} {k : Nat} (hT : TextOk T) (h : lawImage T (k : Int) = none) : En.NoImg T.cps k := by
  intro pre p q r c hno hit
  have h1 : Txt.startswith3 T (Str.ofString "<img") (k : Int) = true := starts_img.mpr ⟨pre.c0, pre.c1, pre.c2, pre.c3⟩
  have h2 : wordCut T (k : Int) = false := by
    have := bnd_img hT pre.c3
    rw [pre.bd] at this
    cases hw : wordCut T (k : Int) with
    | false => rfl
    | true => rw [hw] at this; cases this
  rw [image_scan h1 h2] at h
  have h0 : Hit0 T p q r c := ⟨hit.c0, hit.c1, hit.c2, hit.c3, hit.c4, hit.isq, hit.low, hit.cq, hit.free, hit.gt⟩
  have hk := hno.1
  by_cases hp : (p : Int) ≤ stopOf T k
  · have ht := scan_none h (p - (k + 4)) (by omega)
    rw [show k + 4 + (p - (k + 4)) = p from by omega] at ht
    refine try_none ht ?_ _ _ _ h0
    rw [← bnd_alt hT (by omega) hit.c0]; exact hit.bd
  · exact stop_high hp hno.1 hno.2 h0
theorem cut_len {T : Str} {a b : Nat} (h : b ≤ T.length) : (cut T a b).length = b - a := by
  show (T.cps.extract a b).size = b - a
  rw [Array.size_extract]
  have : b ≤ T.cps.size := h
  omega
theorem img_bound {T : Str} {k e : Int} {v : Str} (h : lawImage T k = some (e, v)) (hk : 0 ≤ k) : k + (v.length : Int) < e ∧ e ≤ (T.length : Int) := by
  obtain ⟨k, rfl⟩ := Int.eq_ofNat_of_zero_le hk
  cases h1 : Txt.startswith3 T (Str.ofString "<img") (k : Int) with
  | false => rw [img_none1 h1] at h; cases h
  | true =>
    cases h2 : wordCut T (k : Int) with
    | true => rw [img_none2 h2] at h; cases h
    | false =>
      rw [image_scan h1 h2] at h
      obtain ⟨i, i1, i2, i3⟩ := scan_some h
      obtain ⟨q, r, c, hh, hw, he, hv⟩ := try_some i2
      have hq : q < T.length := En.lt_of_getD hh.cq (by have := hh.isq; omega)
      have hr : r < T.length := hh.gt.2.1
      have hqr := hh.gt.1
      have hlow := hh.low
      rw [hv, cut_len (by omega), he]
      omega
theorem item_len {T : Str} {k : Int} : (Txt.item T k).length ≤ 1 := Nat.le_refl 1
end
end Mine
end

section
open PySem PySem.W PySem.Calls PyProof.Rows
namespace Mine
def altsR (T : Str) : Nat → Int → Str
  | 0, _ => Str.empty
  | n + 1, k => if k < (T.length : Int) then match lawImage T k with
      | none => Txt.item T k ++ altsR T n (k + 1)
      | some (e, v) => v ++ altsR T n e
    else Str.empty
def altsG (T : Str) : Str := altsR T (T.length + 1) 0
structure AltP (T : Str) (k : Int) (told : Str) : Prop where
  low : 0 ≤ k
  len : (told.length : Int) ≤ k
  high : k ≤ (T.length : Int)
  due : ∃ n : Nat, (T.length : Int) - k < n ∧ altsG T = told ++ altsR T n k
theorem alt_init {T : Str} : AltP T 0 (Str.ofString "") := ⟨Int.le_refl _, by decide, by omega, T.length + 1, by omega, by rw [show Str.ofString "" = Str.empty from by decide +kernel, Str.empty_append]; rfl⟩
theorem alt_none {T : Str} {k : Int} {told : Str} (h : AltP T k told) (hl : k < (T.length : Int)) (hi : lawImage T k = none) : AltP T (k + 1) (told ++ Txt.item T k) := by
  obtain ⟨a, b, c, n, d, e⟩ := h
  refine ⟨by omega, ?_, by omega, ?_⟩
  · rw [Str.length_append]; have := @item_len T k; omega
  · cases n with
    | zero => omega
    | succ n =>
      refine ⟨n, by omega, ?_⟩
      rw [e, altsR, if_pos hl, hi, Str.append_assoc]
theorem alt_some {T : Str} {k e : Int} {told v : Str} (h : AltP T k told) (hl : k < (T.length : Int)) (hi : lawImage T k = some (e, v)) : AltP T e (told ++ v) := by
  obtain ⟨a, b, c, n, d, e2⟩ := h
  have hb := img_bound hi a
  refine ⟨by omega, ?_, by omega, ?_⟩
  · rw [Str.length_append]; omega
  · cases n with
    | zero => omega
    | succ n =>
      refine ⟨n, by omega, ?_⟩
      rw [e2, altsR, if_pos hl, hi, Str.append_assoc]
theorem append_empty' {x : Str} : x ++ Str.empty = x := by
  apply Str.ext'; rw [Str.cps_append]; simp [Str.empty]
theorem alt_done {T : Str} {k : Int} {told : Str} (h : AltP T k told) (hl : ¬ k < (T.length : Int)) : told = altsG T := by
  obtain ⟨a, b, c, n, d, e⟩ := h
  rw [e]
  cases n with
  | zero => omega
  | succ n => rw [altsR, if_neg hl, append_empty']
section
local macro_rules | `(tactic| walk_at "no such step 0") => `(tactic| fail)
local macro_rules | `(tactic| walk_at "no such step 1") => `(tactic| fail)
local macro_rules | `(tactic| walk_at "no such step 2") => `(tactic| fail)
local macro_rules | `(tactic| k_room) => `(tactic| ((try simp only [depth_under_make, depth_under_kw, depth_in1, depth_deeper, depth_caller]); (try dsimp only [ktrTop]); have hR9 : recursionLimit = 1000 := rfl; omega))
local macro_rules | `(tactic| walk_at "call ref") => `(tactic| (k_here; (with_reducible show wpAny _ _ (call (Value.ref 418) [_, _]) _ _ _); k_dflt (refine' image_ctr ?tT ?k0 ?k1 ?B ?F ?X ?N ?Tp ?hK ?hd ?hu ?h0 ?h1; (case B => k_asm); (case F => k_asm); (case X => k_asm); (case N => k_asm); (case Tp => k_asm); (case hK => rfl); (case tT => assumption); (case k0 => omega); (case k1 => omega); (case hd => k_room); (case hu => k_room)); (k_whole)))
local macro_rules | `(tactic| walk_at "KswEnd") => `(tactic| ((rename News _ _ _ _ => nE'); refine ksw_end ⟨_, _, _, _⟩ (by assumption) nE' (by first | exact (fun _ h => h) | exact (fun _ h => List.mem_cons_of_mem _ h)) True.intro (by kst_all) (by ksw_same) (by first | exact alt_none (by assumption) (by assumption) (by assumption) | exact alt_some (by assumption) (by assumption) (by assumption)) (by first | (dsimp only; omega) | (have hb9 := img_bound (by assumption) (by assumption); dsimp only; omega))))
variable {w : World} {p : Program} {loose : List Str} {mean : ExcName → Option Value} {mg mb : Str → Option Value} {news : List (Addr × Obj)} {g : Obj → List (Addr × Obj)}
  {dp un : Nat} {gd : Option (List Code)} {cn : Str} {cs : Scope} {a : Addr} {ccd : Value} {cl : List (Str × Addr)} {outer : List Env} {A₀ : Around} {base h₀ : Heap} {L : Addr} {m : Str → Option Value} {s : Shared} {Q E : Value → Shared → Prop}
set_option maxRecDepth 100000 in
set_option maxHeartbeats 8000000 in
theorem alts_ctr {T : Str} {tT : Tok} (hT : TextOk T)
    (B : Below A₀ base outer h₀) (F : Fr h₀ L s.heap m) (X : (hd.heap_39 w.params).In h₀) (N : News h₀ L s.heap news) (Tp : Top p loose mean mg mb h₀) (hK : cs.kind = .function)
    (hd : dp + 11 < recursionLimit) (hu : un + 90 < cLine)
    (h : ∀ t' h' tk', Fr h₀ L h' m → News h₀ L h' news → Q (.str (altsG T) t') { s with heap := h', toks := tk' }) :
    wpAny (model PySem.Challenge.rw_br5020_01.row.prog w) (ktrTop dp un gd cn cs L a ccd cl outer) (call (.ref 425) [.str T tT]) Q E s := by
  w_top off
  revert X; k_fill; intro X
  have hlT := hT.1
  refine wpAny_call ?_
  k_dflt (refine' code_def ?k1 ?k2 ?k3 ?k4 ?k5 ?kA ?kF ?kK ?k6 ?k7 ?k8 ?k9 ?kB ?_ ?c2 ?c3 ?c4 ?c5; (case kA => exact rfl); (case kF => exact rfl); (case kK => first | exact rfl | assumption); (case k1 => k_asm); (case k2 => k_asm); (case k3 => k_asm); (case k4 => k_asm); (case k5 => k_asm); (case k6 => k_is); (case k7 => k_is); (case k8 => ktr_room); (case k9 => first | exact BindsTo.of_eq rfl | exact binds_K (by k_in) rfl (by k_is) rfl rfl rfl); (case c5 => decide); (case kB => exact locs rfl); (case c2 => exact rfl); (case c3 => exact rfl); (case c4 => exact rfl); k_whole; intro g' L' h' FG' F' N' B' X' T'; (try dsimp only); (try k_lift B'); (try k_fold))
  k_with_none
  k_with "exec While Compare cons nil" => (((rename Fr _ _ _ _ => lF'); (rename News _ _ _ _ => lN'); (with_unfolding_all refine' ksw_while (σ := Int × Tok × Str × Tok) (fun _ => news) (fun c => [(Str.ofString "k", Value.int c.1 c.2.1), (Str.ofString "told", Value.str c.2.2.1 c.2.2.2)]) (fun _ => True) [Str.ofString "found"] (fun c => AltP T c.1 c.2.2.1) (fun c => ((T.length : Int) - c.1).toNat) ⟨_, _, _, _⟩ lF' (by with_unfolding_all exact lN') True.intro (by kst_all) (by with_reducible exact alt_init) ?_); (all_goals (try clear lF' lN')); (rintro ⟨k', tk9, told', tt'⟩ u' h' tk' hf' hP kFr kNews; have hP1 := hP.low; have hP2 := hP.len; have hP3 := hP.high; (have kMark := kstMark); (try dsimp only [kstB] at kFr); (try dsimp only at kNews); (try dsimp only at hP); (try dsimp only at hP1); (try dsimp only at hP2); (try dsimp only at hP3); (try k_fold))))
  k_steps
  all_goals first
    | (have e9 := alt_done hP (by assumption); rw [e9]; exact h _ _ _ (by assumption) (by assumption))
end
end Mine
end

section
open PySem PySem.W PySem.Calls PyProof.Rows
namespace Mine
def comEnd (T : Str) (k : Int) : Int := Txt.find3 T (Str.ofString "-->") (k + 4)
abbrev noNl (x : Str) : Bool := (Builtin.Str.occurrences x (Str.ofString "\n") 0 x.length 1).isEmpty
def lawTag (T : Str) (k : Int) : Option Int :=
  if (Txt.item T k == Str.ofString "<") = true then
    if Txt.startswith3 T (Str.ofString "<!--") k = true ∧ 0 ≤ Txt.find3 T (Str.ofString "-->") (k + 4) ∧ noNl (Txt.slice T (some (k + 4)) (some (Txt.find3 T (Str.ofString "-->") (k + 4)))) = true then
      some (Txt.find3 T (Str.ofString "-->") (k + 4) + 3)
    else if 0 < Txt.find3 T (Str.ofString ">") k + 1 then some (Txt.find3 T (Str.ofString ">") k + 1) else none
  else none
abbrev Com (T : Str) (k : Int) : Prop := Txt.startswith3 T (Str.ofString "<!--") k = true ∧ 0 ≤ Txt.find3 T (Str.ofString "-->") (k + 4) ∧ noNl (Txt.slice T (some (k + 4)) (some (Txt.find3 T (Str.ofString "-->") (k + 4)))) = true
theorem cn1 {T : Str} {k : Int} (h : Txt.startswith3 T (Str.ofString "<!--") k = false) : ¬ Com T k := fun x => by have := x.1; rw [h] at this; cases this
theorem cn2 {T : Str} {k : Int} (h : ¬ 0 ≤ Txt.find3 T (Str.ofString "-->") (k + 4)) : ¬ Com T k := fun x => h x.2.1
theorem cn3 {T : Str} {k : Int} (h : noNl (Txt.slice T (some (k + 4)) (some (Txt.find3 T (Str.ofString "-->") (k + 4)))) = false) : ¬ Com T k := fun x => by have := x.2.2; rw [h] at this; cases this
theorem tg0 {T : Str} {k : Int} (h : (Txt.item T k == Str.ofString "<") = false) : lawTag T k = none := by unfold lawTag; rw [h]; rfl
theorem tg1 {T : Str} {k : Int} (h : (Txt.item T k == Str.ofString "<") = true) (h1 : Txt.startswith3 T (Str.ofString "<!--") k = true) (h2 : 0 ≤ Txt.find3 T (Str.ofString "-->") (k + 4)) (h3 : noNl (Txt.slice T (some (k + 4)) (some (Txt.find3 T (Str.ofString "-->") (k + 4)))) = true) : lawTag T k = some (Txt.find3 T (Str.ofString "-->") (k + 4) + 3) := by
  unfold lawTag; rw [if_pos h, if_pos ⟨h1, h2, h3⟩]
theorem tg2 {T : Str} {k : Int} (h : (Txt.item T k == Str.ofString "<") = true) (h1 : ¬ Com T k) (h2 : 0 < Txt.find3 T (Str.ofString ">") k + 1) : lawTag T k = some (Txt.find3 T (Str.ofString ">") k + 1) := by
  unfold lawTag; rw [if_pos h, if_neg h1, if_pos h2]
theorem tg3 {T : Str} {k : Int} (h1 : ¬ Com T k) (h2 : ¬ 0 < Txt.find3 T (Str.ofString ">") k + 1) : lawTag T k = none := by
  unfold lawTag; rw [if_neg h1, if_neg h2]; simp
def tagsR (T : Str) : Nat → Int → Str
  | 0, _ => Str.empty
  | n + 1, k => if k < (T.length : Int) then match lawTag T k with
      | none => Txt.item T k ++ tagsR T n (k + 1)
      | some e => tagsR T n e
    else Str.empty
def tagsG (T : Str) : Str := tagsR T (T.length + 1) 0
theorem tag_cases {T : Str} {k : Nat} {e : Int} (h : lawTag T (k : Int) = some e) : (Txt.item T k == Str.ofString "<") = true ∧ (Com T (k : Int) ∧ e = Txt.find3 T (Str.ofString "-->") (k + 4) + 3 ∨ ¬ Com T (k : Int) ∧ 0 < Txt.find3 T (Str.ofString ">") k + 1 ∧ e = Txt.find3 T (Str.ofString ">") k + 1) := by
  unfold lawTag at h
  split at h
  case isFalse => cases h
  rename_i h0
  refine ⟨h0, ?_⟩
  split at h
  · rename_i hc
    injection h with h
    exact .inl ⟨hc, h.symm⟩
  · rename_i hc
    split at h
    · rename_i hp
      injection h with h
      exact .inr ⟨hc, hp, h.symm⟩
    · cases h
theorem tag_bound {T : Str} {k e : Int} (h : lawTag T k = some e) (hk : 0 ≤ k) : k < e ∧ e ≤ (T.length : Int) := by
  obtain ⟨k, rfl⟩ := Int.eq_ofNat_of_zero_le hk
  obtain ⟨_, ⟨hc, he⟩ | ⟨_, hp, he⟩⟩ := tag_cases h
  · rcases find_nat T (Str.ofString "-->") (k + 4) with ⟨f, _⟩ | ⟨q, f, f1, f2, _⟩
    · have := hc.2.1
      rw [show ((k : Int) + 4) = ((k + 4 : Nat) : Int) from rfl, f] at this
      omega
    · rw [show ((k : Int) + 4) = ((k + 4 : Nat) : Int) from rfl, f] at he
      have := f2.1
      have e3 : (Str.ofString "-->").length = 3 := by decide +kernel
      omega
  · rw [gt_lit] at hp he
    rcases find1_nat T 62 k (by decide) with ⟨f, _⟩ | ⟨q, f, f1, f2, _⟩
    · rw [f] at hp; omega
    · rw [f] at he; omega
structure TagP (T : Str) (k : Int) (told : Str) : Prop where
  low : 0 ≤ k
  len : (told.length : Int) ≤ k
  high : k ≤ (T.length : Int)
  due : ∃ n : Nat, (T.length : Int) - k < n ∧ tagsG T = told ++ tagsR T n k
theorem tag_init {T : Str} : TagP T 0 (Str.ofString "") := ⟨Int.le_refl _, by decide, by omega, T.length + 1, by omega, by rw [show Str.ofString "" = Str.empty from by decide +kernel, Str.empty_append]; rfl⟩
theorem tag_none {T : Str} {k : Int} {told : Str} (h : TagP T k told) (hl : k < (T.length : Int)) (hi : lawTag T k = none) : TagP T (k + 1) (told ++ Txt.item T k) := by
  obtain ⟨a, b, c, n, d, e⟩ := h
  refine ⟨by omega, ?_, by omega, ?_⟩
  · rw [Str.length_append]; have := @item_len T k; omega
  · cases n with
    | zero => omega
    | succ n =>
      refine ⟨n, by omega, ?_⟩
      rw [e, tagsR, if_pos hl, hi, Str.append_assoc]
theorem tag_some {T : Str} {k e : Int} {told : Str} (h : TagP T k told) (hl : k < (T.length : Int)) (hi : lawTag T k = some e) : TagP T e told := by
  obtain ⟨a, b, c, n, d, e2⟩ := h
  have hb := tag_bound hi a
  refine ⟨by omega, by omega, by omega, ?_⟩
  cases n with
  | zero => omega
  | succ n =>
    refine ⟨n, by omega, ?_⟩
    rw [e2, tagsR, if_pos hl, hi]
theorem tag_done {T : Str} {k : Int} {told : Str} (h : TagP T k told) (hl : ¬ k < (T.length : Int)) : told = tagsG T := by
  obtain ⟨a, b, c, n, d, e⟩ := h
  rw [e]
  cases n with
  | zero => omega
  | succ n => rw [tagsR, if_neg hl, append_empty']
section
local macro_rules | `(tactic| k_room) => `(tactic| ((try simp only [depth_under_make, depth_under_kw, depth_in1, depth_deeper, depth_caller]); (try dsimp only [ktrTop]); have hR9 : recursionLimit = 1000 := rfl; omega))
local macro_rules | `(tactic| walk_at "KswEnd") => `(tactic| ((rename News _ _ _ _ => nE'); first
  | refine ksw_end ⟨_, _, _, _⟩ (by assumption) nE' (fun _ h => h) True.intro (by kst_all) (by ksw_same) (tag_none (by assumption) (by assumption) (by first | with_reducible exact tg0 (by assumption) | with_reducible exact tg3 (by first | exact cn1 (by assumption) | exact cn2 (by assumption) | exact cn3 (by assumption)) (by assumption))) (by dsimp only; omega)
  | ((have hg9 := tg1 (by with_reducible assumption) (by with_reducible assumption) (by with_reducible assumption) (by with_reducible assumption)); have hb9 := tag_bound hg9 (by assumption); refine ksw_end ⟨_, _, _, _⟩ (by assumption) nE' (fun _ h => h) True.intro (by kst_all) (by ksw_same) (tag_some (by assumption) (by assumption) hg9) (by dsimp only; omega))
  | ((have hg9 := tg2 (by with_reducible assumption) (by first | with_reducible exact cn1 (by assumption) | with_reducible exact cn2 (by assumption) | with_reducible exact cn3 (by assumption)) (by with_reducible assumption)); have hb9 := tag_bound hg9 (by assumption); refine ksw_end ⟨_, _, _, _⟩ (by assumption) nE' (fun _ h => h) True.intro (by kst_all) (by ksw_same) (tag_some (by assumption) (by assumption) hg9) (by dsimp only; omega))))
variable {w : World} {p : Program} {loose : List Str} {mean : ExcName → Option Value} {mg mb : Str → Option Value} {news : List (Addr × Obj)} {g : Obj → List (Addr × Obj)}
  {dp un : Nat} {gd : Option (List Code)} {cn : Str} {cs : Scope} {a : Addr} {ccd : Value} {cl : List (Str × Addr)} {outer : List Env} {A₀ : Around} {base h₀ : Heap} {L : Addr} {m : Str → Option Value} {s : Shared} {Q E : Value → Shared → Prop}
set_option maxRecDepth 100000 in
set_option maxHeartbeats 8000000 in
theorem tags_ctr {T : Str} {tT : Tok} (hT : T.length ≤ 420)
    (B : Below A₀ base outer h₀) (F : Fr h₀ L s.heap m) (X : (hd.heap_39 w.params).In h₀) (N : News h₀ L s.heap news) (Tp : Top p loose mean mg mb h₀) (hK : cs.kind = .function)
    (hd : dp + 11 < recursionLimit) (hu : un + 90 < cLine)
    (h : ∀ t' h' tk', Fr h₀ L h' m → News h₀ L h' news → Q (.str (tagsG T) t') { s with heap := h', toks := tk' }) :
    wpAny (model PySem.Challenge.rw_br5020_01.row.prog w) (ktrTop dp un gd cn cs L a ccd cl outer) (call (.ref 432) [.str T tT]) Q E s := by
  w_top off
  revert X; k_fill; intro X
  refine wpAny_call ?_
  k_dflt (refine' code_def ?k1 ?k2 ?k3 ?k4 ?k5 ?kA ?kF ?kK ?k6 ?k7 ?k8 ?k9 ?kB ?_ ?c2 ?c3 ?c4 ?c5; (case kA => exact rfl); (case kF => exact rfl); (case kK => first | exact rfl | assumption); (case k1 => k_asm); (case k2 => k_asm); (case k3 => k_asm); (case k4 => k_asm); (case k5 => k_asm); (case k6 => k_is); (case k7 => k_is); (case k8 => ktr_room); (case k9 => first | exact BindsTo.of_eq rfl | exact binds_K (by k_in) rfl (by k_is) rfl rfl rfl); (case c5 => decide); (case kB => exact locs rfl); (case c2 => exact rfl); (case c3 => exact rfl); (case c4 => exact rfl); k_whole; intro g' L' h' FG' F' N' B' X' T'; (try dsimp only); (try k_lift B'); (try k_fold))
  k_with_none
  k_with "exec While Compare cons nil" => (((rename Fr _ _ _ _ => lF'); (rename News _ _ _ _ => lN'); (with_unfolding_all refine' ksw_while (σ := Int × Tok × Str × Tok) (fun _ => news) (fun c => [(Str.ofString "k", Value.int c.1 c.2.1), (Str.ofString "told", Value.str c.2.2.1 c.2.2.2)]) (fun _ => True) [Str.ofString "end", Str.ofString "shut"] (fun c => TagP T c.1 c.2.2.1) (fun c => ((T.length : Int) - c.1).toNat) ⟨_, _, _, _⟩ lF' (by with_unfolding_all exact lN') True.intro (by kst_all) (by with_reducible exact tag_init) ?_); (all_goals (try clear lF' lN')); (rintro ⟨k', tk9, told', tt'⟩ u' h' tk' hf' hP kFr kNews; have hP1 := hP.low; have hP2 := hP.len; have hP3 := hP.high; (have kMark := kstMark); (try dsimp only [kstB] at kFr); (try dsimp only at kNews); (try dsimp only at hP); (try dsimp only at hP1); (try dsimp only at hP2); (try dsimp only at hP3); (try k_fold))))
  k_steps
  all_goals first
    | (have e9 := tag_done hP (by assumption); rw [e9]; exact h _ _ _ (by assumption) (by assumption))
end
end Mine
end

section
open PySem PySem.W PySem.Calls PyProof.Rows
namespace Mine
section
open Builtin Builtin.Str StrLaws
abbrev J (zs : List Str) : Str := Txt.join (Str.ofString "") zs
theorem lit_nil : Str.ofString "" = Str.empty := by decide +kernel
theorem J_nil : J [] = Str.empty := by decide +kernel
theorem J_cons (z : Str) (zs : List Str) : J (z :: zs) = z ++ J zs := by
  unfold J Txt.join
  rw [glued_eq_join, glued_eq_join, lit_nil]
  cases zs with
  | nil =>
    show z = z ++ Str.empty
    rw [append_empty']
  | cons y r =>
    show z ++ Str.empty ++ Str.join Str.empty (y :: r) = _
    rw [append_empty']
theorem J_len (zs : List Str) : (J zs).length = strSum zs := by
  induction zs with
  | nil => rw [J_nil]; rfl
  | cons z zs ih => rw [J_cons, Str.length_append, ih]; rfl
theorem cut_self {T : Str} {a : Nat} : cut T a a = Str.empty := by
  apply Str.ext'; show T.cps.extract a a = #[]; simp; omega
theorem cut_step {T : Str} {a b : Nat} (ha : a < b) (hb : b ≤ T.length) : cut T a b = Txt.item T (a : Int) ++ cut T (a + 1) b := by
  have hb' : b ≤ T.cps.size := hb
  rw [item_nat (by omega)]
  apply Str.ext'
  show T.cps.extract a b = #[X T a] ++ T.cps.extract (a + 1) b
  apply Array.ext'
  rw [Array.toList_append, Array.toList_extract, Array.toList_extract, List.extract, List.extract]
  have hl : a < T.cps.toList.length := by simp; omega
  rw [List.drop_eq_getElem_cons hl, show b - a = (b - (a + 1)) + 1 from by omega, List.take_succ_cons]
  simp [X, Array.getD, show a < T.cps.size from by omega]
theorem cut_join {T : Str} {a b : Nat} (P : Str) : (if a < b then J [cut T a b] else J []) = (if a < b then cut T a b else Str.empty) := by
  split
  · rw [J_cons, J_nil, append_empty']
  · exact J_nil
theorem J_opt {T : Str} {a b : Nat} (hab : a ≤ b) (r : List Str) : J ((if a < b then [cut T a b] else []) ++ r) = cut T a b ++ J r := by
  split
  · exact J_cons _ _
  · have : a = b := by omega
    subst this
    rw [cut_self, Str.empty_append]; rfl
theorem J_opt' {T : Str} {a b : Nat} (hab : a ≤ b) : J (if a < b then [cut T a b] else []) = cut T a b := by
  have := J_opt (T := T) hab []
  rw [List.append_nil, J_nil, append_empty'] at this
  exact this
/-- the least place with P, at or behind d -/
theorem least {P : Nat → Prop} (hP : ∀ i, P i ∨ ¬ P i) (n d : Nat) : (∀ i, d ≤ i → i < d + n → ¬ P i) ∨ ∃ t, d ≤ t ∧ t < d + n ∧ P t ∧ ∀ i, d ≤ i → i < t → ¬ P i := by
  induction n with
  | zero => exact .inl fun i h1 h2 => by omega
  | succ n ih =>
    rcases ih with h | ⟨t, h1, h2, h3, h4⟩
    · rcases hP (d + n) with hp | hp
      · exact .inr ⟨d + n, by omega, by omega, hp, fun i i1 i2 => h i i1 (by omega)⟩
      · refine .inl fun i i1 i2 => ?_
        by_cases hi : i = d + n
        · rw [hi]; exact hp
        · exact h i i1 (by omega)
    · exact .inr ⟨t, h1, by omega, h3, h4⟩
-- alts
theorem altsR_fuel {T : Str} : ∀ (n n' : Nat) (k : Int), 0 ≤ k → (T.length : Int) - k < n → (T.length : Int) - k < n' → altsR T n k = altsR T n' k
  | n, n', k, h0, h1, h2 => by
    by_cases hk : k < (T.length : Int)
    · obtain ⟨n, rfl⟩ : ∃ m, n = m + 1 := ⟨n - 1, by omega⟩
      obtain ⟨n', rfl⟩ : ∃ m, n' = m + 1 := ⟨n' - 1, by omega⟩
      rw [altsR, altsR, if_pos hk, if_pos hk]
      cases hi : lawImage T k with
      | none => dsimp only; rw [altsR_fuel n n' (k + 1) (by omega) (by omega) (by omega)]
      | some x =>
        obtain ⟨e, v⟩ := x
        have hb := img_bound hi h0
        dsimp only
        rw [altsR_fuel n n' e (by omega) (by omega) (by omega)]
    · have e1 : altsR T n k = Str.empty := by
        cases n with
        | zero => rfl
        | succ n => rw [altsR, if_neg hk]
      have e2 : altsR T n' k = Str.empty := by
        cases n' with
        | zero => rfl
        | succ n => rw [altsR, if_neg hk]
      rw [e1, e2]
  termination_by n => n
theorem altsR_skip {T : Str} : ∀ (u d t n : Nat), t - d = u → d ≤ t → t ≤ T.length → (∀ i : Nat, d ≤ i → i < t → lawImage T (i : Int) = none) → T.length - d < n → altsR T n (d : Int) = cut T d t ++ altsR T n (t : Int)
  | 0, d, t, n, hu, h1, h2, h3, h4 => by
    have : d = t := by omega
    subst this
    rw [cut_self, Str.empty_append]
  | u + 1, d, t, n, hu, h1, h2, h3, h4 => by
    obtain ⟨n, rfl⟩ : ∃ m, n = m + 1 := ⟨n - 1, by omega⟩
    rw [altsR, if_pos (by omega), h3 d (Nat.le_refl _) (by omega)]
    dsimp only
    rw [show (d : Int) + 1 = ((d + 1 : Nat) : Int) from rfl, altsR_fuel n (n + 1) _ (by omega) (by omega) (by omega), altsR_skip u (d + 1) t (n + 1) (by omega) (by omega) h2 (fun i i1 i2 => h3 i (by omega) i2) (by omega), cut_step (a := d) (b := t) (by omega) h2, Str.append_assoc]
theorem alts_sub {T : Str} (hT : TextOk T) : ∀ (u d : Nat), T.length - d ≤ u → d ≤ T.length → ∃ zs, SubR codeI 3 T (valI T) d zs ∧ ∀ n, T.length - d < n → J zs = altsR T n (d : Int) := by
  intro u
  induction u with
  | zero =>
    intro d hu hd
    have hs : T.cps.size ≤ 1000 := Nat.le_trans hT.1 (by omega)
    refine ⟨_, .stop (En.noMatchI hs hd fun i hi => ?_) hd, fun n hn => ?_⟩
    · intro pre
      have := En.lt_of_getD pre.c0 (by decide)
      have : d = T.cps.size := by
        have h1 : T.length = T.cps.size := rfl
        omega
      omega
    · have : d = T.length := by omega
      subst this
      rw [show T.cps.size = T.length from rfl, J_opt' (Nat.le_refl _), cut_self]
      obtain ⟨n, rfl⟩ : ∃ m, n = m + 1 := ⟨n - 1, by omega⟩
      rw [altsR, if_neg (by omega)]
  | succ u ih =>
    intro d hu hd
    have hs : T.cps.size ≤ 1000 := Nat.le_trans hT.1 (by omega)
    rcases least (P := fun i => lawImage T (i : Int) ≠ none) (fun i => by cases lawImage T (i : Int) with | none => exact .inr (fun h => h rfl) | some x => exact .inl (fun h => by cases h)) (T.length - d) d with h | ⟨t, h1, h2, h3, h4⟩
    · have h' : ∀ i : Nat, d ≤ i → i < T.length → lawImage T (i : Int) = none := fun i i1 i2 => Classical.byContradiction (h i i1 (by omega))
      refine ⟨_, .stop (En.noMatchI hs hd fun i hi => ?_) hd, fun n hn => ?_⟩
      · intro pre
        have hl : i < T.length := En.lt_of_getD pre.c0 (by decide)
        exact image_none hT (h' i hi hl) pre
      · rw [show T.cps.size = T.length from rfl, J_opt' hd, altsR_skip _ d T.length n rfl hd (Nat.le_refl _) h' hn]
        obtain ⟨n, rfl⟩ : ∃ m, n = m + 1 := ⟨n - 1, by omega⟩
        rw [altsR, if_neg (by omega), append_empty']
    · have h4' : ∀ i : Nat, d ≤ i → i < t → lawImage T (i : Int) = none := fun i i1 i2 => Classical.byContradiction (h4 i i1 i2)
      cases hx : lawImage T (t : Int) with
      | none => exact absurd hx h3
      | some x =>
        obtain ⟨e, v⟩ := x
        obtain ⟨p, q, r, c, him, he, hv⟩ := image_some hT hx
        have hw := En.img_width him
        obtain ⟨sp, hm, hval⟩ := En.matchI hs h1 him fun i i1 i2 => image_none hT (h4' i i1 i2)
        have hl : T.length = T.cps.size := rfl
        obtain ⟨zs, hz, hJ⟩ := ih (r + 1) (by omega) (by omega)
        subst hv
        refine ⟨_, .hit hm h1 (by omega) (by omega) hval hz, fun n hn => ?_⟩
        rw [J_opt h1, J_cons, altsR_skip _ d t n rfl h1 (by omega) h4' hn]
        obtain ⟨n, rfl⟩ : ∃ m, n = m + 1 := ⟨n - 1, by omega⟩
        rw [altsR, if_pos (by omega), hx]
        dsimp only
        rw [he, hJ n (by omega)]
/-- the parts of a text -/
def Part (T x : Str) (n : Int) : Prop := (x.length : Int) ≤ n ∧ ∀ c ∈ x.cps.toList, c ∈ T.cps.toList
theorem part_cut {T : Str} {a b : Nat} : ∀ c ∈ (cut T a b).cps.toList, c ∈ T.cps.toList := by
  intro c hc
  have : c ∈ (T.cps.extract a b).toList := hc
  rw [Array.toList_extract, List.extract] at this
  exact List.mem_of_mem_drop (List.mem_of_mem_take this)
theorem part_app {T x y : Str} {a b : Int} (hx : Part T x a) (hy : Part T y b) : Part T (x ++ y) (a + b) := by
  refine ⟨by rw [Str.length_append]; have := hx.1; have := hy.1; omega, fun c hc => ?_⟩
  rw [Str.cps_append, Array.toList_append] at hc
  rcases List.mem_append.mp hc with h | h
  · exact hx.2 c h
  · exact hy.2 c h
theorem part_item {T : Str} {k : Nat} (hk : k < T.length) : Part T (Txt.item T (k : Int)) 1 := by
  refine ⟨Int.le_refl 1, fun c hc => ?_⟩
  have hk' : k < T.cps.size := hk
  rw [item_nat hk] at hc
  have : c = X T k := by simpa using hc
  rw [this]
  simp [X, Array.getD, hk']
theorem part_empty {T : Str} {n : Int} (h : 0 ≤ n) : Part T Str.empty n := ⟨h, fun c hc => by cases hc⟩
theorem part_mono {T x : Str} {a b : Int} (h : Part T x a) (hab : a ≤ b) : Part T x b := ⟨Int.le_trans h.1 hab, h.2⟩
theorem alts_part {T : Str} (hT : TextOk T) : ∀ (n d : Nat), d ≤ T.length → Part T (altsR T n (d : Int)) ((T.length : Int) - d)
  | 0, d, hd => part_empty (by omega)
  | n + 1, d, hd => by
    rw [altsR]
    split
    · rename_i hk
      cases hx : lawImage T (d : Int) with
      | none =>
        dsimp only
        rw [show (d : Int) + 1 = ((d + 1 : Nat) : Int) from rfl]
        exact part_mono (part_app (part_item (by omega)) (alts_part hT n (d + 1) (by omega))) (by omega)
      | some x =>
        obtain ⟨e, v⟩ := x
        dsimp only
        obtain ⟨p, q, r, c, him, he, hv⟩ := image_some hT hx
        have hb := img_bound hx (by omega)
        rw [he] at hb ⊢
        have hv2 : Part T v (v.length : Int) := ⟨Int.le_refl _, by rw [hv]; exact part_cut⟩
        exact part_mono (part_app hv2 (alts_part hT n (r + 1) (by omega))) (by omega)
    · exact part_empty (by omega)
theorem alts_okG {T : Str} (hT : TextOk T) : TextOk (altsG T) := by
  have := alts_part hT (T.length + 1) 0 (by omega)
  have h1 := this.1
  have h2 := hT.1
  exact ⟨by show (altsR T (T.length + 1) ((0 : Nat) : Int)).length ≤ 420; omega, fun c hc => hT.2 c (this.2 c hc)⟩
theorem alts_zs {T : Str} (hT : TextOk T) : ∃ zs, SubR codeI 3 T (valI T) 0 zs ∧ J zs = altsG T ∧ strSum zs ≤ 100000 := by
  obtain ⟨zs, h1, h2⟩ := alts_sub hT T.length 0 (by omega) (by omega)
  have e := h2 (T.length + 1) (by omega)
  refine ⟨zs, h1, e, ?_⟩
  rw [← J_len, e]
  have := (alts_okG hT).1
  exact Nat.le_trans this (by omega)
end
end Mine
end

section
open PySem PySem.W PySem.Calls PyProof.Rows
namespace Mine
section
open Builtin Builtin.Str StrLaws
theorem lt_iff {T : Str} {k : Nat} (hk : k < T.length) : (Txt.item T (k : Int) == Str.ofString "<") = true ↔ X T k = 60 := by
  rw [item_nat hk, lit_lt, one_beq]
theorem end_iff {T : Str} {q : Nat} : At T (Str.ofString "-->") T.length q ↔ En.EndAt T.cps q := by
  rw [lit_end, three_iff (by decide) (by decide) (by decide)]
  rfl
theorem starts_com {T : Str} {k : Nat} : Txt.startswith3 T (Str.ofString "<!--") (k : Int) = true ↔ X T k = 60 ∧ X T (k + 1) = 33 ∧ X T (k + 2) = 45 ∧ X T (k + 3) = 45 := by
  rw [starts_nat, lit_com, four_iff (by decide) (by decide) (by decide) (by decide)]
theorem noNl_cut {T : Str} {a b : Nat} (hb : b ≤ T.length) : noNl (cut T a b) = true ↔ ∀ j, a ≤ j → j < b → X T j ≠ 10 := by
  have hb' : b ≤ T.cps.size := hb
  have key : ∀ i, (cut T a b).cps.toList[i]? = some 10 ↔ i < b - a ∧ X T (a + i) = 10 := by
    intro i
    rw [← getD_at (T := T) (by decide)]
    show (T.cps.extract a b).toList[i]? = some 10 ↔ _
    rw [Array.toList_extract, List.extract, List.getElem?_take]
    split
    · rename_i hi; rw [List.getElem?_drop]; simp [hi]
    · rename_i hi; simp [hi]
  constructor
  · intro h j h1 h2 he
    have : noNl (cut T a b) = false := by
      unfold noNl
      rw [lit_nl]
      exact occ_found.mpr ⟨j - a, (subAt_one _ 10 _).mpr ((key _).mpr ⟨by omega, by rwa [show a + (j - a) = j from by omega]⟩)⟩
    rw [this] at h; cases h
  · intro h
    cases hn : noNl (cut T a b) with
    | true => rfl
    | false =>
      unfold noNl at hn
      rw [lit_nl] at hn
      obtain ⟨i, hi⟩ := occ_found.mp hn
      have := (key i).mp ((subAt_one _ 10 _).mp hi)
      exact absurd this.2 (h (a + i) (by omega) (by omega))
theorem com_some {T : Str} {k : Nat} (h : Com T (k : Int)) : ∃ q, En.Com T.cps k q ∧ Txt.find3 T (Str.ofString "-->") ((k : Int) + 4) = (q : Int) ∧ X T k = 60 := by
  obtain ⟨h1, h2, h3⟩ := h
  obtain ⟨a0, a1, a2, a3⟩ := starts_com.mp h1
  rw [show ((k : Int) + 4) = ((k + 4 : Nat) : Int) from rfl] at h2 h3 ⊢
  rcases find_nat T (Str.ofString "-->") (k + 4) with ⟨f, _⟩ | ⟨q, f, f1, f2, f3⟩
  · rw [f] at h2; omega
  · rw [f] at h3 ⊢
    have he := end_iff.mp f2
    have hq : q < T.length := En.lt_of_getD he.1 (by decide)
    rw [slice_nat (by omega) (by omega)] at h3
    have hn := (noNl_cut (by omega)).mp h3
    exact ⟨q, ⟨a1, a2, a3, f1, he, fun j j1 j2 => ⟨by have : q < T.cps.size := hq; omega, hn j j1 j2, fun hh => f3 j j1 j2 (end_iff.mpr hh)⟩⟩, rfl, a0⟩
theorem com_back {T : Str} {k q : Nat} (h0 : X T k = 60) (h : En.Com T.cps k q) : Com T (k : Int) := by
  have h1 : Txt.startswith3 T (Str.ofString "<!--") (k : Int) = true := starts_com.mpr ⟨h0, h.c1, h.c2, h.c3⟩
  have hq : q < T.length := En.lt_of_getD h.fin.1 (by decide)
  have hf : Txt.find3 T (Str.ofString "-->") ((k : Int) + 4) = (q : Int) := by
    rw [show ((k : Int) + 4) = ((k + 4 : Nat) : Int) from rfl]
    rcases find_nat T (Str.ofString "-->") (k + 4) with ⟨f, f2⟩ | ⟨q', f, f1, f2, f3⟩
    · exact absurd (end_iff.mpr h.fin) (f2 q h.low)
    · rw [f]
      rcases Nat.lt_trichotomy q' q with hlt | he | hgt
      · exact absurd (end_iff.mp f2) (h.free q' f1 hlt).2.2
      · rw [he]
      · exact absurd (end_iff.mpr h.fin) (f3 q h.low hgt)
  refine ⟨h1, by rw [hf]; omega, ?_⟩
  rw [hf, show ((k : Int) + 4) = ((k + 4 : Nat) : Int) from rfl, slice_nat (by have := h.low; omega) (by omega)]
  exact (noNl_cut (by omega)).mpr fun j j1 j2 => (h.free j j1 j2).2.1
theorem tag_some2 {T : Str} {k : Nat} {e : Int} (hk : k < T.length) (h : lawTag T (k : Int) = some e) : ∃ e' : Nat, e = (e' : Int) ∧ En.Tag T.cps k e' := by
  obtain ⟨h0, ⟨hc, he⟩ | ⟨hc, hp, he⟩⟩ := tag_cases h
  · obtain ⟨q, hq, hf, h00⟩ := com_some hc
    rw [hf] at he
    exact ⟨q + 3, he, .com h00 hq⟩
  · have h00 := (lt_iff hk).mp h0
    rw [gt_lit] at hp he
    rcases find1_nat T 62 k (by decide) with ⟨f, _⟩ | ⟨r, f, f1, f2, f3, f4⟩
    · rw [f] at hp; omega
    · rw [f] at he
      have hne : r ≠ k := fun hh => by rw [hh] at f3; omega
      refine ⟨r + 1, he, .plain h00 (fun q hq => hc (com_back h00 hq)) ⟨by omega, f2, f3, fun j j1 j2 => f4 j (by omega) j2⟩⟩
theorem tag_none' {T : Str} {k : Nat} (hk : k < T.length) (h : lawTag T (k : Int) = none) : En.NoTag T.cps k := by
  intro h0
  have h00 := (lt_iff hk).mpr h0
  unfold lawTag at h
  rw [if_pos h00] at h
  split at h
  · cases h
  · rename_i hc
    split at h
    · cases h
    · rename_i hp
      refine ⟨fun q hq => hc (com_back h0 hq), fun r ⟨r1, r2, r3, r4⟩ => hp ?_⟩
      rw [gt_lit]
      rcases find1_nat T 62 k (by decide) with ⟨f, f2⟩ | ⟨r', f, f1, f2, f3, f4⟩
      · exact absurd r3 (f2 r (by omega))
      · rw [f]; omega
theorem tagsR_fuel {T : Str} : ∀ (n n' : Nat) (k : Int), 0 ≤ k → (T.length : Int) - k < n → (T.length : Int) - k < n' → tagsR T n k = tagsR T n' k
  | n, n', k, h0, h1, h2 => by
    by_cases hk : k < (T.length : Int)
    · obtain ⟨n, rfl⟩ : ∃ m, n = m + 1 := ⟨n - 1, by omega⟩
      obtain ⟨n', rfl⟩ : ∃ m, n' = m + 1 := ⟨n' - 1, by omega⟩
      rw [tagsR, tagsR, if_pos hk, if_pos hk]
      cases hi : lawTag T k with
      | none => dsimp only; rw [tagsR_fuel n n' (k + 1) (by omega) (by omega) (by omega)]
      | some e =>
        have hb := tag_bound hi h0
        dsimp only
        rw [tagsR_fuel n n' e (by omega) (by omega) (by omega)]
    · have e1 : tagsR T n k = Str.empty := by
        cases n with
        | zero => rfl
        | succ n => rw [tagsR, if_neg hk]
      have e2 : tagsR T n' k = Str.empty := by
        cases n' with
        | zero => rfl
        | succ n => rw [tagsR, if_neg hk]
      rw [e1, e2]
  termination_by n => n
theorem tagsR_skip {T : Str} : ∀ (u d t n : Nat), t - d = u → d ≤ t → t ≤ T.length → (∀ i : Nat, d ≤ i → i < t → lawTag T (i : Int) = none) → T.length - d < n → tagsR T n (d : Int) = cut T d t ++ tagsR T n (t : Int)
  | 0, d, t, n, hu, h1, h2, h3, h4 => by
    have : d = t := by omega
    subst this
    rw [cut_self, Str.empty_append]
  | u + 1, d, t, n, hu, h1, h2, h3, h4 => by
    obtain ⟨n, rfl⟩ : ∃ m, n = m + 1 := ⟨n - 1, by omega⟩
    rw [tagsR, if_pos (by omega), h3 d (Nat.le_refl _) (by omega)]
    dsimp only
    rw [show (d : Int) + 1 = ((d + 1 : Nat) : Int) from rfl, tagsR_fuel n (n + 1) _ (by omega) (by omega) (by omega), tagsR_skip u (d + 1) t (n + 1) (by omega) (by omega) h2 (fun i i1 i2 => h3 i (by omega) i2) (by omega), cut_step (a := d) (b := t) (by omega) h2, Str.append_assoc]
theorem tags_sub {T : Str} (hT : T.length ≤ 420) : ∀ (u d : Nat), T.length - d ≤ u → d ≤ T.length → ∃ zs, SubR codeT 1 T (fun _ v => v = Str.ofString "") d zs ∧ ∀ n, T.length - d < n → J zs = tagsR T n (d : Int) := by
  intro u
  induction u with
  | zero =>
    intro d hu hd
    have hs : T.cps.size ≤ 1000 := Nat.le_trans hT (by omega)
    refine ⟨_, .stop (En.noMatchT hs hd fun i hi => ?_) hd, fun n hn => ?_⟩
    · intro h0
      have := En.lt_of_getD h0 (by decide)
      have : d = T.cps.size := by
        have h1 : T.length = T.cps.size := rfl
        omega
      omega
    · have : d = T.length := by omega
      subst this
      rw [show T.cps.size = T.length from rfl, J_opt' (Nat.le_refl _), cut_self]
      obtain ⟨n, rfl⟩ : ∃ m, n = m + 1 := ⟨n - 1, by omega⟩
      rw [tagsR, if_neg (by omega)]
  | succ u ih =>
    intro d hu hd
    have hs : T.cps.size ≤ 1000 := Nat.le_trans hT (by omega)
    rcases least (P := fun i => lawTag T (i : Int) ≠ none) (fun i => by cases lawTag T (i : Int) with | none => exact .inr (fun h => h rfl) | some x => exact .inl (fun h => by cases h)) (T.length - d) d with h | ⟨t, h1, h2, h3, h4⟩
    · have h' : ∀ i : Nat, d ≤ i → i < T.length → lawTag T (i : Int) = none := fun i i1 i2 => Classical.byContradiction (h i i1 (by omega))
      refine ⟨_, .stop (En.noMatchT hs hd fun i hi => ?_) hd, fun n hn => ?_⟩
      · intro h0
        have hl : i < T.length := En.lt_of_getD h0 (by decide)
        exact tag_none' hl (h' i hi hl) h0
      · rw [show T.cps.size = T.length from rfl, J_opt' hd, tagsR_skip _ d T.length n rfl hd (Nat.le_refl _) h' hn]
        obtain ⟨n, rfl⟩ : ∃ m, n = m + 1 := ⟨n - 1, by omega⟩
        rw [tagsR, if_neg (by omega), append_empty']
    · have h4' : ∀ i : Nat, d ≤ i → i < t → lawTag T (i : Int) = none := fun i i1 i2 => Classical.byContradiction (h4 i i1 i2)
      cases hx : lawTag T (t : Int) with
      | none => exact absurd hx h3
      | some e =>
        obtain ⟨e', rfl, htag⟩ := tag_some2 (by omega) hx
        have hw := En.tag_width htag
        obtain ⟨sp, hm⟩ := En.matchT hs h1 htag fun i i1 i2 => tag_none' (by omega) (h4' i i1 i2)
        have hl : T.length = T.cps.size := rfl
        obtain ⟨zs, hz, hJ⟩ := ih e' (by omega) (by omega)
        refine ⟨_, .hit hm h1 (by omega) (by omega) rfl hz, fun n hn => ?_⟩
        rw [J_opt h1, J_cons, lit_nil, Str.empty_append, tagsR_skip _ d t n rfl h1 (by omega) h4' hn]
        obtain ⟨n, rfl⟩ : ∃ m, n = m + 1 := ⟨n - 1, by omega⟩
        rw [tagsR, if_pos (by omega), hx]
        dsimp only
        rw [hJ n (by omega)]
theorem tags_part {T : Str} : ∀ (n d : Nat), d ≤ T.length → Part T (tagsR T n (d : Int)) ((T.length : Int) - d)
  | 0, d, hd => part_empty (by omega)
  | n + 1, d, hd => by
    rw [tagsR]
    split
    · rename_i hk
      cases hx : lawTag T (d : Int) with
      | none =>
        dsimp only
        rw [show (d : Int) + 1 = ((d + 1 : Nat) : Int) from rfl]
        exact part_mono (part_app (part_item (by omega)) (tags_part n (d + 1) (by omega))) (by omega)
      | some e =>
        dsimp only
        have hb := tag_bound hx (by omega)
        obtain ⟨e', rfl, _⟩ := tag_some2 (by omega) hx
        exact part_mono (tags_part n e' (by omega)) (by omega)
    · exact part_empty (by omega)
theorem tags_okG {T : Str} (hT : TextOk T) : TextOk (tagsG T) := by
  have := tags_part (T := T) (T.length + 1) 0 (by omega)
  have h1 := this.1
  have h2 := hT.1
  exact ⟨by show (tagsR T (T.length + 1) ((0 : Nat) : Int)).length ≤ 420; omega, fun c hc => hT.2 c (this.2 c hc)⟩
theorem tags_zs {T : Str} (hT : TextOk T) : ∃ zs, SubR codeT 1 T (fun _ v => v = Str.ofString "") 0 zs ∧ J zs = tagsG T ∧ strSum zs ≤ 100000 := by
  obtain ⟨zs, h1, h2⟩ := tags_sub hT.1 T.length 0 (by omega) (by omega)
  have e := h2 (T.length + 1) (by omega)
  refine ⟨zs, h1, e, ?_⟩
  rw [← J_len, e]
  have := (tags_okG hT).1
  exact Nat.le_trans this (by omega)
end
end Mine
end

section
open PySem PySem.W PySem.Calls PyProof.Rows PySem.Builtin.Re
namespace Mine
def lamQ : Str := Str.ofString "striptags" ++ Str.ofString ".<locals>." ++ Str.ofString "<lambda>"
theorem truthy_cut {prog : Program} {w : World} {A : Around} {E : Value → Shared → Prop} {s : Shared} {T : Str} {b e : Nat} {t : Tok} {Q : Bool → Shared → Prop} (hT : T.cps.size ≤ 1000)
    (h1 : ∀ k, Q true { s with toks := k }) (h2 : cut T b e = Str.ofString "" → ∀ k, Q false { s with toks := k }) : wpAny (model prog w) A (truthy (.str (cut T b e) t)) Q E s := by
  have hl : (cut T b e).length ≤ 1000 := by
    show (T.cps.extract b e).size ≤ 1000
    rw [Array.size_extract]; omega
  cases hb : (((cut T b e).length : Int) != 0) with
  | true => exact KXt.truthy hb (by omega) h1
  | false =>
    refine KXt.truthy hb (by omega) (h2 ?_)
    have h0 : (cut T b e).length = 0 := by simpa using hb
    apply Str.ext'
    rw [show (Str.ofString "").cps = #[] from by decide +kernel]
    exact Array.eq_empty_of_size_eq_zero h0
section
local macro_rules | `(tactic| k_room) => `(tactic| ((try simp only [depth_under_make, depth_under_kw, depth_in1, depth_deeper, depth_caller]); (try dsimp only [ktrTop]); have hR9 : recursionLimit = 1000 := rfl; omega))
local macro_rules | `(tactic| walk_at "getMethod ref") => `(tactic| (k_here; (with_reducible show wpAny _ _ (getMethod (Value.ref 97) _ _) _ _ _); k_dflt (refine' getM_pat (pat97 ?X) slot_sub type_sub ?_; (case X => k_in); k_whole)))
local macro_rules | `(tactic| walk_at "getMethod ref") => `(tactic| (k_here; (with_reducible show wpAny _ _ (getMethod (Value.ref 92) _ _) _ _ _); k_dflt (refine' getM_pat (pat92 ?X) slot_sub type_sub ?_; (case X => k_in); k_whole)))
local macro_rules | `(tactic| walk_at "getMethod ref") => `(tactic| (k_here; k_dflt (refine' getM_match (News.get ?N ?m) ?c ?d ?_; (case N => k_asm); (case m => k_mem); (case c => exact rfl); (case d => exact rfl); k_whole)))
local macro_rules | `(tactic| walk_at "call builtin:re.Pattern.sub") => `(tactic| (k_here; (with_reducible show wpAny _ _ (call _ [Value.ref 92, Value.str _ _, Value.str _ _]) _ _ _); k_dflt (refine' sub0 ?F ?N (pat92 ?X) ?x ?l ?H ?z ?_; (case F => k_asm); (case N => k_asm); (case X => k_in); (case x => assumption); (case l => decide +kernel); (case H => assumption); (case z => assumption); k_whole); intro t' h' tk' F' N'))
local macro_rules | `(tactic| walk_at "call builtin:re.Pattern.sub") => `(tactic| (k_here; (with_reducible show wpAny _ _ (call _ [Value.ref 97, Value.ref _, Value.str _ _]) _ _ _); k_dflt (refine' sub1 ?F ?N (pat97 ?X) ?x ?g ?f ?cb ?H ?z ?_; (case F => k_asm); (case N => k_asm); (case X => k_in); (case x => assumption); (case g => decide); (case f => (refine ⟨_, News.get (by k_asm) (by k_mem), rfl⟩)); (case H => assumption); (case z => assumption); (case' cb => (rintro l9 s9 r9 tp9 m9 sp9 v9 its9 n9 Q9 hl9 F9 N9 l19 l29 l39 ⟨b1, e1, bb, ee, hsp9, hv9⟩ hk9; subst hv9; rcases hsp9 with hs9 | hs9 <;> subst hs9)))))
local macro_rules | `(tactic| walk_at "eval Lambda") => `(tactic| (k_here; k_dflt (refine' kla_eval ?d0 ?_; (case d0 => exact rfl)); ((k_dflt (refine' kla_nest ?F ?N ?T ?C ?cd ?U ?t ?n ?cl ?_; (case F => k_asm); (case N => k_asm); (case T => k_asm); (case cd => exact rfl); (case C => kn_code); (case U => assumption); (case t => kn_triples); (case n => kn_among); (case cl => exact rfl); k_whole))); intro f' c' oc' vs' t' ct' h' tk' F' N' d1' d2' l1 l2; (try dsimp only at N'); (try k_lt l1); (try k_lt2 l2)))
local macro_rules | `(tactic| walk_at "truthy str") => `(tactic| (k_here; (with_reducible show wpAny _ _ (PySem.truthy (Value.str (cut _ _ _) _)) _ _ _); k_dflt ((refine truthy_cut (by assumption) ?_ ?_) <;> (intros; try dsimp only))))
local macro_rules | `(tactic| walk_at "call builtin:re.Match.group") => `(tactic| (k_here; first | (k_dflt (refine' grp_miss (g := 2) ?e0 (News.get ?N ?m) (News.get ?N2 ?m2) ?g ?b  ?_; (case e0 => decide); (case N => k_asm); (case m => k_mem); (case N2 => k_asm); (case m2 => k_mem); (case g => (simp; done)); (case b => (simp [reRawOf, rawInt]; done));  k_whole)) | (k_dflt (refine' grp_miss (g := 3) ?e0 (News.get ?N ?m) (News.get ?N2 ?m2) ?g ?b  ?_; (case e0 => decide); (case N => k_asm); (case m => k_mem); (case N2 => k_asm); (case m2 => k_mem); (case g => (simp; done)); (case b => (simp [reRawOf, rawInt]; done));  k_whole)) | ((k_dflt (refine' grp_hit (g := 2) ?e0 (News.get ?N ?m) (News.get ?N2 ?m2) ?g ?b ?e ?x ?_; (case e0 => decide); (case N => k_asm); (case m => k_mem); (case N2 => k_asm); (case m2 => k_mem); (case g => (simp; done)); (case b => exact rfl); (case e => exact rfl); (case x => assumption); k_whole)); intro _ _) | ((k_dflt (refine' grp_hit (g := 3) ?e0 (News.get ?N ?m) (News.get ?N2 ?m2) ?g ?b ?e ?x ?_; (case e0 => decide); (case N => k_asm); (case m => k_mem); (case N2 => k_asm); (case m2 => k_mem); (case g => (simp; done)); (case b => exact rfl); (case e => exact rfl); (case x => assumption); k_whole)); intro _ _)))
variable {w : World} {p : Program} {loose : List Str} {mean : ExcName → Option Value} {mg mb : Str → Option Value} {news : List (Addr × Obj)} {g : Obj → List (Addr × Obj)}
  {dp un : Nat} {gd : Option (List Code)} {cn : Str} {cs : Scope} {a : Addr} {ccd : Value} {cl : List (Str × Addr)} {outer : List Env} {A₀ : Around} {base h₀ : Heap} {L : Addr} {m : Str → Option Value} {s : Shared} {Q E : Value → Shared → Prop}
set_option maxRecDepth 100000 in
set_option maxHeartbeats 8000000 in
theorem strip_first {T : Str} {tT : Tok} {zs1 zs2 : List Str} (hT : T.cps.size ≤ 1000) (hJ : (J zs1).cps.size ≤ 1000) (H1 : SubR codeI 3 T (valI T) 0 zs1) (hz1 : strSum zs1 ≤ 100000) (H2 : SubR codeT 1 (J zs1) (fun _ v => v = Str.ofString "") 0 zs2) (hz2 : strSum zs2 ≤ 100000)
    (B : Below A₀ base outer h₀) (F : Fr h₀ L s.heap m) (X : (hd.heap_39 w.params).In h₀) (N : News h₀ L s.heap news) (Tp : Top p loose mean mg mb h₀) (hK : cs.kind = .function)
    (hd : dp + 12 < recursionLimit) (hu : un + 100 < cLine) (C : CodeHd base 103 99) (U : UpdF 99 (tabObj #[]) news g)
    (h : ∀ t' c' oc vs t0 h' tk', oc.data = .fields vs → vs[1]? = some (.str lamQ t0) → (∀ q ∈ news, q.1 < c') → Fr h₀ L h' m → News h₀ L h' ((c', oc) :: g (tabObj #[rawInt (52 : Nat), rawInt (28 : Nat), .ref c'])) → Q (.str (J zs2) t') { s with heap := h', toks := tk' }) :
    wpAny (model PySem.Challenge.rw_br5020_01.row.prog w) (ktrTop dp un gd cn cs L a ccd cl outer) (call (.ref 104) [.str T tT]) Q E s := by
  w_top off
  revert X; k_fill; intro X
  refine wpAny_call ?_
  k_dflt (refine' code_def ?k1 ?k2 ?k3 ?k4 ?k5 ?kA ?kF ?kK ?k6 ?k7 ?k8 ?k9 ?kB ?_ ?c2 ?c3 ?c4 ?c5; (case kA => exact rfl); (case kF => exact rfl); (case kK => first | exact rfl | assumption); (case k1 => k_asm); (case k2 => k_asm); (case k3 => k_asm); (case k4 => k_asm); (case k5 => k_asm); (case k6 => k_is); (case k7 => k_is); (case k8 => ktr_room); (case k9 => first | exact BindsTo.of_eq rfl | exact binds_K (by k_in) rfl (by k_is) rfl rfl rfl); (case c5 => decide); (case kB => exact locs rfl); (case c2 => exact rfl); (case c3 => exact rfl); (case c4 => exact rfl); k_whole; intro g' L' h' FG' F' N' B' X' T'; (try dsimp only); (try k_lift B'); (try k_fold))
  k_with_none
  k_steps
  all_goals first
    | ((rename ∀ (_ : Tok) (_ : Heap) (_ : Nat), Fr _ _ _ _ → _ → _ => hk9); exact hk9 _ _ _ (by k_asm) (kst_newsOf (by k_asm) (fun q hq => .tail _ (.tail _ hq))))
    | ((rename ∀ (_ : Tok) (_ : Heap) (_ : Nat), Fr _ _ _ _ → _ → _ => hk9); (rename cut _ _ _ = Str.ofString "" => hc9); rw [hc9] at hk9; exact hk9 _ _ _ (by k_asm) (kst_newsOf (by k_asm) (fun q hq => .tail _ (.tail _ hq))))
    | (refine h _ _ _ _ _ _ _ (by assumption) (by assumption) (by assumption) (by k_asm) (kst_newsOf (by k_asm) (fun q hq => .tail _ hq)))
end
end Mine
end

section
open PySem PySem.W PySem.Calls PyProof.Rows PySem.Builtin.Re
namespace Mine
section
local macro_rules | `(tactic| walk_at "no such step 0") => `(tactic| fail)
local macro_rules | `(tactic| walk_at "no such step 1") => `(tactic| fail)
local macro_rules | `(tactic| walk_at "no such step 2") => `(tactic| fail)
local macro_rules | `(tactic| walk_at "no such step 3") => `(tactic| fail)
local macro_rules | `(tactic| walk_at "no such step 4") => `(tactic| fail)
local macro_rules | `(tactic| k_room) => `(tactic| ((try simp only [depth_under_make, depth_under_kw, depth_in1, depth_deeper, depth_caller]); (try dsimp only [ktrTop]); have hR9 : recursionLimit = 1000 := rfl; omega))
local macro_rules | `(tactic| walk_at "getMethod ref") => `(tactic| (k_here; (with_reducible show wpAny _ _ (getMethod (Value.ref 97) _ _) _ _ _); k_dflt (refine' getM_pat (pat97 ?X) slot_sub type_sub ?_; (case X => k_in); k_whole)))
local macro_rules | `(tactic| walk_at "getMethod ref") => `(tactic| (k_here; (with_reducible show wpAny _ _ (getMethod (Value.ref 92) _ _) _ _ _); k_dflt (refine' getM_pat (pat92 ?X) slot_sub type_sub ?_; (case X => k_in); k_whole)))
local macro_rules | `(tactic| walk_at "getMethod ref") => `(tactic| (k_here; k_dflt (refine' getM_match (News.get ?N ?m) ?c ?d ?_; (case N => k_asm); (case m => k_mem); (case c => exact rfl); (case d => exact rfl); k_whole)))
local macro_rules | `(tactic| walk_at "call builtin:re.Pattern.sub") => `(tactic| (k_here; (with_reducible show wpAny _ _ (call _ [Value.ref 92, Value.str _ _, Value.str _ _]) _ _ _); k_dflt (refine' sub0 ?F ?N (pat92 ?X) ?x ?l ?H ?z ?_; (case F => k_asm); (case N => k_asm); (case X => k_in); (case x => assumption); (case l => decide +kernel); (case H => assumption); (case z => assumption); k_whole); intro t' h' tk' F' N'))
local macro_rules | `(tactic| walk_at "call builtin:re.Pattern.sub") => `(tactic| (k_here; (with_reducible show wpAny _ _ (call _ [Value.ref 97, Value.ref _, Value.str _ _]) _ _ _); k_dflt (refine' sub1 ?F ?N (pat97 ?X) ?x ?g ?f ?cb ?H ?z ?_; (case F => k_asm); (case N => k_asm); (case X => k_in); (case x => assumption); (case g => decide); (case f => (refine ⟨_, News.get (by k_asm) (by k_mem), rfl⟩)); (case H => assumption); (case z => assumption); (case' cb => (rintro l9 s9 r9 tp9 m9 sp9 v9 its9 n9 Q9 hl9 F9 N9 l19 l29 l39 ⟨b1, e1, bb, ee, hsp9, hv9⟩ hk9; subst hv9; rcases hsp9 with hs9 | hs9 <;> subst hs9)))))
local macro_rules | `(tactic| walk_at "eval Lambda") => `(tactic| (k_here; k_dflt (refine' kla_eval ?d0 ?_; (case d0 => exact rfl)); ((k_dflt (refine' kla_hit ?F ?N ?T ?C ?cd ?mem ?t ?n ?cl ?_; (case F => k_asm); (case N => k_asm); (case T => k_asm); (case cd => exact rfl); (case C => kn_code); (case mem => k_mem); (case t => kn_triples); (case n => kn_hit); (case cl => exact rfl); k_whole))); intro f' ct' h' tk' F' N' l1; (try dsimp only at N'); (try k_lt l1)))
local macro_rules | `(tactic| walk_at "truthy str") => `(tactic| (k_here; (with_reducible show wpAny _ _ (PySem.truthy (Value.str (cut _ _ _) _)) _ _ _); k_dflt ((refine truthy_cut (by assumption) ?_ ?_) <;> (intros; try dsimp only))))
local macro_rules | `(tactic| walk_at "call builtin:re.Match.group") => `(tactic| (k_here; first | (k_dflt (refine' grp_miss (g := 2) ?e0 (News.get ?N ?m) (News.get ?N2 ?m2) ?g ?b  ?_; (case e0 => decide); (case N => k_asm); (case m => k_mem); (case N2 => k_asm); (case m2 => k_mem); (case g => (simp; done)); (case b => (simp [reRawOf, rawInt]; done));  k_whole)) | (k_dflt (refine' grp_miss (g := 3) ?e0 (News.get ?N ?m) (News.get ?N2 ?m2) ?g ?b  ?_; (case e0 => decide); (case N => k_asm); (case m => k_mem); (case N2 => k_asm); (case m2 => k_mem); (case g => (simp; done)); (case b => (simp [reRawOf, rawInt]; done));  k_whole)) | ((k_dflt (refine' grp_hit (g := 2) ?e0 (News.get ?N ?m) (News.get ?N2 ?m2) ?g ?b ?e ?x ?_; (case e0 => decide); (case N => k_asm); (case m => k_mem); (case N2 => k_asm); (case m2 => k_mem); (case g => (simp; done)); (case b => exact rfl); (case e => exact rfl); (case x => assumption); k_whole)); intro _ _) | ((k_dflt (refine' grp_hit (g := 3) ?e0 (News.get ?N ?m) (News.get ?N2 ?m2) ?g ?b ?e ?x ?_; (case e0 => decide); (case N => k_asm); (case m => k_mem); (case N2 => k_asm); (case m2 => k_mem); (case g => (simp; done)); (case b => exact rfl); (case e => exact rfl); (case x => assumption); k_whole)); intro _ _)))
variable {w : World} {p : Program} {loose : List Str} {mean : ExcName → Option Value} {mg mb : Str → Option Value} {news : List (Addr × Obj)} {g : Obj → List (Addr × Obj)}
  {dp un : Nat} {gd : Option (List Code)} {cn : Str} {cs : Scope} {a : Addr} {ccd : Value} {cl : List (Str × Addr)} {outer : List Env} {A₀ : Around} {base h₀ : Heap} {L : Addr} {m : Str → Option Value} {s : Shared} {Q E : Value → Shared → Prop}
set_option maxRecDepth 100000 in
set_option maxHeartbeats 8000000 in
theorem strip_again {T : Str} {tT t0 : Tok} {zs1 zs2 : List Str} {x dx c' : Addr} {ox odx oc : Obj} {vs : Array Value} (d1 : oc.data = .fields vs) (d2 : vs[1]? = some (.str lamQ t0)) (hT : T.cps.size ≤ 1000) (hJ : (J zs1).cps.size ≤ 1000) (H1 : SubR codeI 3 T (valI T) 0 zs1) (hz1 : strSum zs1 ≤ 100000) (H2 : SubR codeT 1 (J zs1) (fun _ v => v = Str.ofString "") 0 zs2) (hz2 : strSum zs2 ≤ 100000)
    (B : Below A₀ base outer h₀) (F : Fr h₀ L s.heap m) (X : (hd.heap_39 w.params).In h₀) (N : News h₀ L s.heap [(x, ox), (dx, odx), (c', oc), (99, tabObj #[rawInt (52 : Nat), rawInt (28 : Nat), .ref c'])]) (Tp : Top p loose mean mg mb h₀) (hK : cs.kind = .function)
    (hd : dp + 12 < recursionLimit) (hu : un + 100 < cLine) (C : CodeHd base 103 99)
    (h : ∀ t' h' tk', Fr h₀ L h' m → News h₀ L h' [(x, ox), (dx, odx), (c', oc), (99, tabObj #[rawInt (52 : Nat), rawInt (28 : Nat), .ref c'])] → Q (.str (J zs2) t') { s with heap := h', toks := tk' }) :
    wpAny (model PySem.Challenge.rw_br5020_01.row.prog w) (ktrTop dp un gd cn cs L a ccd cl outer) (call (.ref 104) [.str T tT]) Q E s := by
  w_top off
  revert X; k_fill; intro X
  refine wpAny_call ?_
  k_dflt (refine' code_def ?k1 ?k2 ?k3 ?k4 ?k5 ?kA ?kF ?kK ?k6 ?k7 ?k8 ?k9 ?kB ?_ ?c2 ?c3 ?c4 ?c5; (case kA => exact rfl); (case kF => exact rfl); (case kK => first | exact rfl | assumption); (case k1 => k_asm); (case k2 => k_asm); (case k3 => k_asm); (case k4 => k_asm); (case k5 => k_asm); (case k6 => k_is); (case k7 => k_is); (case k8 => ktr_room); (case k9 => first | exact BindsTo.of_eq rfl | exact binds_K (by k_in) rfl (by k_is) rfl rfl rfl); (case c5 => decide); (case kB => exact locs rfl); (case c2 => exact rfl); (case c3 => exact rfl); (case c4 => exact rfl); k_whole; intro g' L' h' FG' F' N' B' X' T'; (try dsimp only); (try k_lift B'); (try k_fold))
  k_with_none
  k_steps
  all_goals first
    | ((rename ∀ (_ : Tok) (_ : Heap) (_ : Nat), Fr _ _ _ _ → _ → _ => hk9); exact hk9 _ _ _ (by k_asm) (kst_newsOf (by k_asm) (fun q hq => .tail _ (.tail _ hq))))
    | ((rename ∀ (_ : Tok) (_ : Heap) (_ : Nat), Fr _ _ _ _ → _ → _ => hk9); (rename cut _ _ _ = Str.ofString "" => hc9); rw [hc9] at hk9; exact hk9 _ _ _ (by k_asm) (kst_newsOf (by k_asm) (fun q hq => .tail _ (.tail _ hq))))
    | (refine h _ _ _ (by k_asm) (kst_newsOf (by k_asm) (fun q hq => .tail _ hq)))
end
end Mine
end

section
open PySem PySem.W PySem.Calls PyProof.Rows
namespace Mine
abbrev altsF (T : Str) : Str := altsG T
abbrev tagsF (T : Str) : Str := tagsG T
theorem alts_ok {T : Str} (h : TextOk T) : TextOk (altsF T) := alts_okG h
theorem tags_ok {T : Str} (h : TextOk T) : TextOk (tagsF T) := tags_okG h
abbrev lamTab (c' : Addr) : Obj := tabObj #[rawInt (52 : Nat), rawInt (28 : Nat), .ref c']
section
variable {w : World} {p : Program} {loose : List Str} {mean : ExcName → Option Value} {mg mb : Str → Option Value} {news : List (Addr × Obj)} {g : Obj → List (Addr × Obj)}
  {dp un : Nat} {gd : Option (List Code)} {cn : Str} {cs : Scope} {a : Addr} {ccd : Value} {cl : List (Str × Addr)} {outer : List Env} {A₀ : Around} {base h₀ : Heap} {L : Addr} {m : Str → Option Value} {s : Shared} {Q E : Value → Shared → Prop}
theorem size_of {T : Str} (h : TextOk T) : T.cps.size ≤ 1000 := Nat.le_trans h.1 (by omega)
theorem strip_rule1 {T : Str} {t : Tok} 
    (B : Below A₀ base outer h₀) (F : Fr h₀ L s.heap m) (X : (hd.heap_39 w.params).In h₀) (N : News h₀ L s.heap news) (Tp : Top p loose mean mg mb h₀) (hK : cs.kind = .function)
    (hd : dp + 12 < recursionLimit) (hu : un + 100 < cLine) (C : CodeHd base 103 99) (U : UpdF 99 (tabObj #[]) news g) (hT : TextOk T)
    (h : ∀ t' c' oc vs t0 h' tk', oc.data = .fields vs → vs[1]? = some (.str lamQ t0) → (∀ q ∈ news, q.1 < c') → Fr h₀ L h' m → News h₀ L h' ((c', oc) :: g (lamTab c')) → Q (.str (tagsF (altsF T)) t') { s with heap := h', toks := tk' }) :
    wpAny (model PySem.Challenge.rw_br5020_01.row.prog w) (ktrTop dp un gd cn cs L a ccd cl outer) (call (.ref 104) [.str T t]) Q E s := by
  obtain ⟨zs1, a1, a2, a3⟩ := alts_zs hT
  obtain ⟨zs2, b1, b2, b3⟩ := tags_zs (alts_okG hT)
  refine strip_first (zs1 := zs1) (zs2 := zs2) (size_of hT) (by rw [a2]; exact size_of (alts_okG hT)) a1 a3 (by rw [a2]; exact b1) b3 B F X N Tp hK hd hu C U fun t' c' oc vs t0 h' tk' => ?_
  rw [b2]
  exact h t' c' oc vs t0 h' tk'
theorem strip_rule2 {T : Str} {t t0 : Tok} {x dx c' : Addr} {ox odx oc : Obj} {vs : Array Value} (d1 : oc.data = .fields vs) (d2 : vs[1]? = some (.str lamQ t0))
    (B : Below A₀ base outer h₀) (F : Fr h₀ L s.heap m) (X : (hd.heap_39 w.params).In h₀) (N : News h₀ L s.heap [(x, ox), (dx, odx), (c', oc), (99, lamTab c')]) (Tp : Top p loose mean mg mb h₀) (hK : cs.kind = .function)
    (hd : dp + 12 < recursionLimit) (hu : un + 100 < cLine) (C : CodeHd base 103 99) (hT : TextOk T)
    (h : ∀ t' h' tk', Fr h₀ L h' m → News h₀ L h' [(x, ox), (dx, odx), (c', oc), (99, lamTab c')] → Q (.str (tagsF (altsF T)) t') { s with heap := h', toks := tk' }) :
    wpAny (model PySem.Challenge.rw_br5020_01.row.prog w) (ktrTop dp un gd cn cs L a ccd cl outer) (call (.ref 104) [.str T t]) Q E s := by
  obtain ⟨zs1, a1, a2, a3⟩ := alts_zs hT
  obtain ⟨zs2, b1, b2, b3⟩ := tags_zs (alts_okG hT)
  refine strip_again (zs1 := zs1) (zs2 := zs2) d1 d2 (size_of hT) (by rw [a2]; exact size_of (alts_okG hT)) a1 a3 (by rw [a2]; exact b1) b3 B F X N Tp hK hd hu C fun t' h' tk' => ?_
  rw [b2]
  exact h t' h' tk'
end
end Mine
end

section
open PySem PySem.W PySem.Calls PyProof.Rows
namespace Mine
theorem gentok1 {α : Type} {M : Model} {A : Around} {t : Sem α} {Q : α → Shared → Prop} {E : Value → Shared → Prop} {s : Shared} {h : Heap} {x : Nat}
    (H : ∀ tk : Nat, wpAny M A t Q E { s with heap := h, toks := tk + 1 }) : wpAny M A t Q E { s with heap := h, toks := x + 1 } := H x
theorem gentokP {α : Type} {M : Model} {A : Around} {t : Sem α} {Q : α → Shared → Prop} {E : Value → Shared → Prop} {s : Shared} {h : Heap} {x : Nat} (hx : 1 ≤ x)
    (H : ∀ tk : Nat, wpAny M A t Q E { s with heap := h, toks := tk + 1 }) : wpAny M A t Q E { s with heap := h, toks := x } := by
  obtain ⟨y, rfl⟩ := Nat.exists_eq_add_of_le' hx
  exact H y
open Builtin.Str in
theorem occ_all {x y : Str} (h : (occurrences x y 0 x.length 1).isEmpty = true) : (occurrences x y 0 x.length (x.length + 1)).isEmpty = true := by
  rcases StrLaws.occ_head x y (x.length + 1) (by omega) with ⟨e, _⟩ | ⟨i, r, e, ha, _⟩
  · rw [e]; rfl
  · rcases StrLaws.occ_head x y 1 (Nat.le_refl 1) with ⟨_, hn⟩ | ⟨j, r', e', _, _⟩
    · exact absurd ha (hn i)
    · rw [e'] at h; cases h
theorem replace_none {T z : Str} (h : (Builtin.Str.occurrences T (Str.ofString "&") 0 T.length (T.length + 1)).isEmpty = true) : Txt.replace T (Str.ofString "&") z = T := by
  unfold Txt.replace
  rw [h, Bool.true_or, if_pos rfl]
open Builtin.Str in
theorem replace_len {x y z : Str} {b c : Nat} (hx : x.length ≤ b) (hb : b + (b + 1) * z.length ≤ c) : (Txt.replace x y z).length ≤ c := by
  have h0 : (x.length + 1) * z.length ≤ (b + 1) * z.length := Nat.mul_le_mul_right _ (by omega)
  unfold Txt.replace
  split
  · omega
  · have h1 := StrLaws.occ_length_le x y 0 x.length (x.length + 1)
    have hy : (glued y (partsBetween x (occurrences x y 0 x.length (x.length + 1)) y.length)).length = x.length := by rw [StrLaws.glued_between_self]
    rw [size_glued, length_partsBetween, Nat.add_sub_cancel] at hy
    rw [size_glued, length_partsBetween, Nat.add_sub_cancel]
    have h2 : (occurrences x y 0 x.length (x.length + 1)).length * z.length ≤ (x.length + 1) * z.length := Nat.mul_le_mul_right _ h1
    omega
section
open Builtin.Str
variable {prog : Program} {w : World} {A : Around} {E : Value → Shared → Prop} {s : Shared} {x y z : Str} {t u v : Tok} {Q : Value → Shared → Prop}
theorem replaceM (hu : u ≠ 0) (hv : v ≠ 0) (huv : u ≠ v) (hyz : (y == z) = false) (hb : x.length + (x.length + 1) * z.length ≤ 16777216)
    (hq : ∀ t' k, s.toks ≤ k → Q (.str (Txt.replace x y z) t') { s with toks := k }) : wpAny (model prog w) A (call (.builtin "str.replace") [.str x t, .str y u, .str z v]) Q E s := by
  have e : (2 : Nat) ^ 24 = 16777216 := by decide
  have hl : tooLong (x.length + (occurrences x y 0 x.length (x.length + 1)).length * z.length) = false := by
    have h1 := StrLaws.occ_length_le x y 0 x.length (x.length + 1)
    have h2 : (occurrences x y 0 x.length (x.length + 1)).length * z.length ≤ (x.length + 1) * z.length := Nat.mul_le_mul_right _ h1
    unfold tooLong sizeLine
    exact decide_eq_false (by omega)
  refine call_gives PySem.F.slot_str_replace (typeIs_str _ _ _) PySem.F.entry_str_replace (PySem.F.args_str_replace_3 _ _ _)
    (gives_str_replace x y z t u v fun _ => ⟨by simp [hu, hv], by simp [huv], hyz, hl⟩) ?_
  have hq' := hq
  unfold Txt.replace at hq'
  cases hc : ((occurrences x y 0 x.length (x.length + 1)).isEmpty || (y.length == 0 && z.length == 0))
  · rw [hc] at hq'
    simp only [Bool.false_eq_true, if_false] at hq' ⊢
    exact ⟨fits_replaced y hb, hq' _ _ (Nat.le_succ _)⟩
  · rw [hc] at hq'
    simp only [if_true] at hq' ⊢
    exact hq' t s.toks (Nat.le_refl _)
theorem replM (b c : Nat) (hx : x.length ≤ b) (hb : b + (b + 1) * z.length ≤ c) (hc : b + (b + 1) * z.length ≤ 16777216) (hu : u ≠ 0) (hv : v ≠ 0) (huv : u ≠ v) (hyz : (y == z) = false) (ht : 1 ≤ s.toks)
    (hq : ∀ t' k, (Txt.replace x y z).length ≤ c → Q (.str (Txt.replace x y z) t') { s with toks := k + 1 }) : wpAny (model prog w) A (call (.builtin "str.replace") [.str x t, .str y u, .str z v]) Q E s := by
  have h0 : (x.length + 1) * z.length ≤ (b + 1) * z.length := Nat.mul_le_mul_right _ (by omega)
  refine replaceM hu hv huv hyz (by omega) fun t' k hk => ?_
  obtain ⟨k', rfl⟩ := Nat.exists_eq_add_of_le' (Nat.le_trans ht hk)
  exact hq t' k' (replace_len hx hb)
end
section
variable {prog : Program} {w : World} {A : Around} {E : Value → Shared → Prop} {s : Shared} {x y z : Str} {t u v : Tok} {Q : Value → Shared → Prop}
theorem repl_amp (hx : x.length ≤ 420) (ha : (Builtin.Str.occurrences x (Str.ofString "&") 0 x.length 1).isEmpty = true) (hu : u ≠ 0) (hv : v ≠ 0) (huv : u ≠ v)
    (hq : ∀ t' k, Q (.str x t') { s with toks := k }) : wpAny (model prog w) A (call (.builtin "str.replace") [.str x t, .str (Str.ofString "&") u, .str (Str.ofString "&amp;") v]) Q E s := by
  refine SC.replaceW hu hv huv (by decide +kernel) (by omega) (by decide +kernel) fun t' k => ?_
  rw [replace_none (occ_all ha)]
  exact hq t' k
theorem repl_rule (b c : Nat) (hx : x.length ≤ b) (hb : b + (b + 1) * z.length ≤ c) (hc : b ≤ 1048576) (hz : z.length ≤ 14) (hu : u ≠ 0) (hv : v ≠ 0) (huv : u ≠ v) (hyz : (y == z) = false)
    (hq : ∀ t' k, (Txt.replace x y z).length ≤ c → Q (.str (Txt.replace x y z) t') { s with toks := k }) : wpAny (model prog w) A (call (.builtin "str.replace") [.str x t, .str y u, .str z v]) Q E s :=
  SC.replaceW hu hv huv hyz (by omega) hz fun t' k => hq t' k (replace_len hx hb)
end
section
local macro_rules | `(tactic| k_room) => `(tactic| ((try simp only [depth_under_make, depth_under_kw, depth_in1, depth_deeper, depth_caller]); (try dsimp only [ktrTop]); have hR9 : recursionLimit = 1000 := rfl; omega))
local macro_rules | `(tactic| walk_at "execs cons") => `(tactic| (k_here; (first | with_reducible refine gentok1 ?_ | (k_dflt (refine gentokP (Nat.le_trans (Nat.le_of_ble_eq_true rfl) (Nat.le_add_left _ _)) ?_))); intro tk; (with_reducible refine wpAny_execs_cons ?_); try dsimp only))
local macro_rules | `(tactic| walk_at "getMethod ref") => `(tactic| (k_here; (with_reducible show wpAny _ _ (getMethod (Value.ref 80) _ _) _ _ _); (rename ((Builtin.Str.occurrences _ _ _ _ 1).isEmpty = true) => h1); (rename ((Builtin.Str.occurrences _ _ _ _ 1).isEmpty = false) => h2); rw [h1] at h2; cases h2))
local macro_rules | `(tactic| walk_at "call builtin:str.replace") => `(tactic| (k_here; first | (k_dflt (refine repl_amp (by assumption) (by assumption) (Nat.succ_ne_zero _) (Nat.succ_ne_zero _) (Nat.ne_of_lt (Nat.lt_succ_self _)) ?_); intro t' k') | (k_dflt (refine repl_rule 420 2104 (by assumption) (by decide +kernel) (by decide) (by decide +kernel) (Nat.succ_ne_zero _) (Nat.succ_ne_zero _) (Nat.ne_of_lt (Nat.lt_succ_self _)) (by decide +kernel) ?_); intro t' k' hl') | (k_dflt (refine repl_rule 2104 10524 (by assumption) (by decide +kernel) (by decide) (by decide +kernel) (Nat.succ_ne_zero _) (Nat.succ_ne_zero _) (Nat.ne_of_lt (Nat.lt_succ_self _)) (by decide +kernel) ?_); intro t' k' hl') | (k_dflt (refine repl_rule 10524 73674 (by assumption) (by decide +kernel) (by decide) (by decide +kernel) (Nat.succ_ne_zero _) (Nat.succ_ne_zero _) (Nat.ne_of_lt (Nat.lt_succ_self _)) (by decide +kernel) ?_); intro t' k' hl')))
variable {w : World} {p : Program} {loose : List Str} {mean : ExcName → Option Value} {mg mb : Str → Option Value} {news : List (Addr × Obj)} {g : Obj → List (Addr × Obj)}
  {dp un : Nat} {gd : Option (List Code)} {cn : Str} {cs : Scope} {a : Addr} {ccd : Value} {cl : List (Str × Addr)} {outer : List Env} {A₀ : Around} {base h₀ : Heap} {L : Addr} {m : Str → Option Value} {s : Shared} {Q E : Value → Shared → Prop}
set_option maxRecDepth 100000 in
set_option maxHeartbeats 8000000 in
theorem safe_rule {T : Str} {t : Tok} 
    (B : Below A₀ base outer h₀) (F : Fr h₀ L s.heap m) (X : (hd.heap_39 w.params).In h₀) (N : News h₀ L s.heap news) (Tp : Top p loose mean mg mb h₀) (hK : cs.kind = .function)
    (hd : dp + 15 < recursionLimit) (hu : un + 120 < cLine) (hT : T.length ≤ 420) (ha : (Builtin.Str.occurrences T (Str.ofString "&") 0 T.length 1).isEmpty = true)
    (h : ∀ t' h' tk', Fr h₀ L h' m → News h₀ L h' news → Q (.str (plainF T) t') { s with heap := h', toks := tk' }) :
    wpAny (model PySem.Challenge.rw_br5020_01.row.prog w) (ktrTop dp un gd cn cs L a ccd cl outer) (call (.ref 75) [.str T t]) Q E s := by
  w_top off
  revert X; k_fill; intro X
  refine wpAny_call ?_
  k_dflt ktr_enter
  k_steps
  all_goals (exact h _ _ _ (by k_asm) (by k_asm))
end
section
local macro_rules | `(tactic| walk_at "execs cons") => `(tactic| (k_here; (first | with_reducible refine gentok1 ?_ | (k_dflt (refine gentokP (Nat.le_trans (Nat.le_of_ble_eq_true rfl) (Nat.le_add_left _ _)) ?_))); intro tk; (with_reducible refine wpAny_execs_cons ?_); try dsimp only))
local macro_rules | `(tactic| walk_at "call builtin:str.replace") => `(tactic| (k_here; first | (k_dflt (refine replM 420 2104 (by assumption) (by decide +kernel) (by decide +kernel) (Nat.succ_ne_zero _) (Nat.succ_ne_zero _) (Nat.ne_of_lt (Nat.lt_succ_self _)) (by decide +kernel) (Nat.le_add_left _ _) ?_); intro t' k' hl') | (k_dflt (refine replM 2104 10524 (by assumption) (by decide +kernel) (by decide +kernel) (Nat.succ_ne_zero _) (Nat.succ_ne_zero _) (Nat.ne_of_lt (Nat.lt_succ_self _)) (by decide +kernel) (Nat.le_add_left _ _) ?_); intro t' k' hl') | (k_dflt (refine replM 10524 73674 (by assumption) (by decide +kernel) (by decide +kernel) (Nat.succ_ne_zero _) (Nat.succ_ne_zero _) (Nat.ne_of_lt (Nat.lt_succ_self _)) (by decide +kernel) (Nat.le_add_left _ _) ?_); intro t' k' hl')))
variable {w : World} {p : Program} {loose : List Str} {mean : ExcName → Option Value} {mg mb : Str → Option Value} {news : List (Addr × Obj)} {g : Obj → List (Addr × Obj)}
  {dp un : Nat} {gd : Option (List Code)} {cn : Str} {cs : Scope} {a : Addr} {ccd : Value} {cl : List (Str × Addr)} {outer : List Env} {A₀ : Around} {base h₀ : Heap} {L : Addr} {m : Str → Option Value} {s : Shared} {Q E : Value → Shared → Prop}
set_option maxRecDepth 100000 in
set_option maxHeartbeats 8000000 in
theorem plain_rule {T : Str} {t : Tok} 
    (B : Below A₀ base outer h₀) (F : Fr h₀ L s.heap m) (X : (hd.heap_39 w.params).In h₀) (N : News h₀ L s.heap news) (Tp : Top p loose mean mg mb h₀) (hK : cs.kind = .function)
    (hd : dp + 11 < recursionLimit) (hu : un + 90 < cLine) (hT : T.length ≤ 420)
    (h : ∀ t' h' tk', Fr h₀ L h' m → News h₀ L h' news → Q (.str (plainF T) t') { s with heap := h', toks := tk' }) :
    wpAny (model PySem.Challenge.rw_br5020_01.row.prog w) (ktrTop dp un gd cn cs L a ccd cl outer) (call (.ref 439) [.str T t]) Q E s := by
  w_top off
  revert X; k_fill; intro X
  refine wpAny_call ?_
  k_dflt ktr_enter
  k_steps
  all_goals (first | exact h _ _ _ (by k_asm) (by k_asm))
theorem plain_len {T : Str} (h : T.length ≤ 420) : (plainF T).length ≤ 73674 :=
  replace_len (b := 10524) (replace_len (b := 2104) (replace_len h (by decide +kernel)) (by decide +kernel)) (by decide +kernel)
theorem noamp {T : Str} (h : TextOk T) : (Builtin.Str.occurrences T (Str.ofString "&") 0 T.length 1).isEmpty = true := by
  cases hb : (Builtin.Str.occurrences T (Str.ofString "&") 0 T.length 1).isEmpty with
  | true => rfl
  | false =>
    obtain ⟨i, hi⟩ := occ_found.mp hb
    rw [show Str.ofString "&" = ⟨#[38]⟩ from by decide +kernel] at hi
    have hm := List.mem_of_getElem? ((StrLaws.subAt_one T 38 i).mp hi)
    exact absurd rfl (h.2 _ hm).2
theorem safe_text {T : Str} {t : Tok} 
    (B : Below A₀ base outer h₀) (F : Fr h₀ L s.heap m) (X : (hd.heap_39 w.params).In h₀) (N : News h₀ L s.heap news) (Tp : Top p loose mean mg mb h₀) (hK : cs.kind = .function)
    (hd : dp + 15 < recursionLimit) (hu : un + 120 < cLine) (hT : TextOk T)
    (h : ∀ t' h' tk', (plainF T).length ≤ 73674 → Fr h₀ L h' m → News h₀ L h' news → Q (.str (plainF T) t') { s with heap := h', toks := tk' }) :
    wpAny (model PySem.Challenge.rw_br5020_01.row.prog w) (ktrTop dp un gd cn cs L a ccd cl outer) (call (.ref 75) [.str T t]) Q E s :=
  safe_rule B F X N Tp hK hd hu hT.1 (noamp hT) fun t' h' tk' => h t' h' tk' (plain_len hT.1)
theorem safe_lit {T : Str} {t : Tok} (e : plainF T = T) (hl : T.length ≤ 420) (ha : (Builtin.Str.occurrences T (Str.ofString "&") 0 T.length 1).isEmpty = true)
    (B : Below A₀ base outer h₀) (F : Fr h₀ L s.heap m) (X : (hd.heap_39 w.params).In h₀) (N : News h₀ L s.heap news) (Tp : Top p loose mean mg mb h₀) (hK : cs.kind = .function)
    (hd : dp + 15 < recursionLimit) (hu : un + 120 < cLine)
    (h : ∀ t' h' tk', Fr h₀ L h' m → News h₀ L h' news → Q (.str T t') { s with heap := h', toks := tk' }) :
    wpAny (model PySem.Challenge.rw_br5020_01.row.prog w) (ktrTop dp un gd cn cs L a ccd cl outer) (call (.ref 75) [.str T t]) Q E s :=
  safe_rule B F X N Tp hK hd hu hl ha (by rw [e]; exact h)
end
section
variable {prog : Program} {w : World} {A : Around} {E : Value → Shared → Prop} {s : Shared} {t : Tok} {Q : Value → Shared → Prop}
theorem join_two (a b : Str) : Txt.join (Str.ofString "") [a, b] = a ++ b := by
  unfold Txt.join
  rw [StrLaws.glued_eq_join]
  show a ++ Str.ofString "" ++ b = a ++ b
  apply Str.ext'
  rw [Str.cps_append, Str.cps_append, Str.cps_append, show (Str.ofString "").cps = #[] from by decide +kernel, Array.append_empty]
theorem join_three (a b c : Str) : Txt.join (Str.ofString "") [a, b, c] = a ++ b ++ c := by
  unfold Txt.join
  rw [StrLaws.glued_eq_join]
  show a ++ Str.ofString "" ++ (b ++ Str.ofString "" ++ c) = a ++ b ++ c
  apply Str.ext'
  simp only [Str.cps_append, show (Str.ofString "").cps = #[] from by decide +kernel, Array.append_empty, Array.append_assoc]
theorem join2 {D : Addr} {items : Array Value} {a b : Str} (hl : s.heap.IsList D items) (hi : StrsAre items.toList [a, b]) (ha : a.length ≤ 100000) (hb : b.length ≤ 100000)
    (h : ∀ t' k, Q (.str (a ++ b) t') { s with toks := k }) : wpAny (model prog w) A (call (.builtin "str.join") [.str (Str.ofString "") t, .ref D]) Q E s := by
  refine join_list hl hi ?_ fun t' k => by rw [join_two]; exact h t' k
  have e : (Str.ofString "").length = 0 := by decide +kernel
  simp only [List.map_cons, List.map_nil, List.sum_cons, List.sum_nil, List.length_cons, List.length_nil, e]
  omega
theorem join3 {D : Addr} {items : Array Value} {a b c : Str} (hl : s.heap.IsList D items) (hi : StrsAre items.toList [a, b, c]) (ha : a.length ≤ 100000) (hb : b.length ≤ 100000) (hc : c.length ≤ 100000)
    (h : ∀ t' k, Q (.str (a ++ b ++ c) t') { s with toks := k }) : wpAny (model prog w) A (call (.builtin "str.join") [.str (Str.ofString "") t, .ref D]) Q E s := by
  refine join_list hl hi ?_ fun t' k => by rw [join_three]; exact h t' k
  have e : (Str.ofString "").length = 0 := by decide +kernel
  simp only [List.map_cons, List.map_nil, List.sum_cons, List.sum_nil, List.length_cons, List.length_nil, e]
  omega
end
end Mine
end

section
open PySem PySem.W PySem.Calls PyProof.Rows
namespace Mine
def pieceB (x : Str) : Bool := decide (x.length ≤ 30) && x.cps.toList.all fun c => decide (c < 128) && decide (c ≠ 38)
theorem piece_of {x : Str} (h : pieceB x = true) : isPiece x := by
  unfold pieceB at h
  rw [Bool.and_eq_true, decide_eq_true_eq, List.all_eq_true] at h
  refine ⟨h.1, fun c hc => ?_⟩
  have := h.2 c hc
  rw [Bool.and_eq_true, decide_eq_true_eq, decide_eq_true_eq] at this
  exact this
theorem piece_getD {l : List Str} {i : Nat} (h : l.all pieceB = true) : isPiece (l.getD i Str.empty) := by
  rw [List.getD_eq_getElem?_getD]
  cases e : l[i]? with
  | none => exact piece_of (by decide +kernel)
  | some x => exact piece_of (List.all_eq_true.mp h x (List.mem_of_getElem? e))
section
theorem item_two {prog : Program} {w : World} {A : Around} {E : Value → Shared → Prop} {s : Shared} {value slice : PySem.Expr} {tl : Addr} {x y : Value} {r : Int} {u : Tok} {Q : Value → Shared → Prop}
    (hl : s.heap.IsList tl #[x, y]) (h0 : 0 ≤ r) (h2 : r < 2) (hx : Q x s) (hy : Q y s)
    (hs : subscripted slice false (.ref tl) (.int r u) = operate [.ref tl, .int r u] (getItem (.ref tl) (.int r u)) := by with_unfolding_all rfl) :
    wpAny (model prog w) A (subscriptTail value slice (.ref tl) (.int r u)) Q E s := by
  have e : r = 0 ∨ r = 1 := by omega
  rcases e with rfl | rfl
  · exact tail_any hl.typeIs slot_list_getitem.lookup (wpAny_getItem_list hl h0 (by decide) (by rfl) hx) hs
  · exact tail_any hl.typeIs slot_list_getitem.lookup (wpAny_getItem_list hl h0 (by decide) (by rfl) hy) hs
end
section
local macro_rules | `(tactic| k_room) => `(tactic| ((try simp only [depth_under_make, depth_under_kw, depth_in1, depth_deeper, depth_caller]); (try dsimp only [ktrTop]); have hR9 : recursionLimit = 1000 := rfl; omega))
local macro_rules | `(tactic| k_all) => `(tactic| assumption)
variable {w : World} {p : Program} {loose : List Str} {mean : ExcName → Option Value} {mg mb : Str → Option Value} {news : List (Addr × Obj)} {g : Obj → List (Addr × Obj)}
  {dp un : Nat} {gd : Option (List Code)} {cn : Str} {cs : Scope} {a : Addr} {ccd : Value} {cl : List (Str × Addr)} {outer : List Env} {A₀ : Around} {base h₀ : Heap} {L : Addr} {m : Str → Option Value} {s : Shared} {Q E : Value → Shared → Prop}
set_option maxRecDepth 100000 in
set_option maxHeartbeats 8000000 in
theorem draw_rule {b l : Addr} {P sd k : Int} {tp ts tk : Tok} {n : Nat} {vs : List Value} {ns : List Int}
    (B : Below A₀ base outer h₀) (F : Fr h₀ L s.heap m) (X : (hd.heap_39 w.params).In h₀) (N : News h₀ L s.heap news) (T : Top p loose mean mg mb h₀) (hK : cs.kind = .function)
    (hd : dp + 10 < recursionLimit) (hu : un + 80 < cLine) (hl : base.IsList l vs.toArray) (hi : IntsAre vs ns) (hn : ns.length ≤ 63)
    (U : UpdF b (listOf #[.ref l, .int P tp, .int sd ts] n) news g) (hP : 0 ≤ P ∧ P ≤ 100) (hs : 0 ≤ sd ∧ sd < 2147483647) (hk : 1 ≤ k ∧ k ≤ 64)
    (h : ∀ r tr sd' tp' ts' h' tk', 0 ≤ r → r < k → 0 ≤ sd' → sd' < 2147483647 → Fr h₀ L h' m → News h₀ L h' (g (listOf #[.ref l, .int (P + 1) tp', .int sd' ts'] n)) → Q (.int r tr) { s with heap := h', toks := tk' }) :
    wpAny (model PySem.Challenge.rw_br5020_01.row.prog w) (ktrTop dp un gd cn cs L a ccd cl outer) (call (.ref 404) [.ref b, .int k tk]) Q E s := by
  obtain ⟨own1, own2, rfl, hg, hd1, hd2⟩ := U.split
  obtain ⟨rest, hrest⟩ : ∃ rest, rest = own1 ++ own2 := ⟨_, rfl⟩
  have hr : ∀ q ∈ rest, q.1 ≠ b := by
    rw [hrest]
    intro q hq
    rcases List.mem_append.mp hq with z | z
    · exact hd1 q z
    · exact hd2 q z
  have N0 : News h₀ L s.heap ((b, listOf #[.ref l, .int P tp, .int sd ts] n) :: rest) := by
    intro q hq
    refine N q ?_
    rcases List.mem_cons.mp hq with rfl | z
    · exact List.mem_append_right _ (.head _)
    · rw [hrest] at z
      rcases List.mem_append.mp z with z | z
      · exact List.mem_append_left _ z
      · exact List.mem_append_right _ (.tail _ z)
  have back : ∀ (o' : Obj) (h' : Heap), News h₀ L h' ((b, o') :: rest) → News h₀ L h' (g o') := by
    intro o' h' N' q hq
    rw [hg] at hq
    refine N' q ?_
    rcases List.mem_append.mp hq with z | z
    · exact .tail _ (by rw [hrest]; exact List.mem_append_left _ z)
    · rcases List.mem_cons.mp z with rfl | z
      · exact .head _
      · exact .tail _ (by rw [hrest]; exact List.mem_append_right _ z)
  clear U N hd1 hd2 hg hrest own1 own2
  w_top off
  revert X; k_fill; intro X
  refine wpAny_call ?_
  k_dflt (refine' code_def ?k1 ?k2 ?k3 ?k4 ?k5 ?kA ?kF ?kK ?k6 ?k7 ?k8 ?k9 ?kB ?_ ?c2 ?c3 ?c4 ?c5; (case kA => exact rfl); (case kF => exact rfl); (case kK => first | exact rfl | assumption); (case k1 => k_asm); (case k2 => k_asm); (case k3 => k_asm); (case k4 => k_asm); (case k5 => k_asm); (case k6 => k_is); (case k7 => k_is); (case k8 => ktr_room); (case k9 => first | exact BindsTo.of_eq rfl | exact binds_K (by k_in) rfl (by k_is) rfl rfl rfl); (case c5 => decide); (case kB => exact locs rfl); (case c2 => exact rfl); (case c3 => exact rfl); (case c4 => exact rfl); k_whole; intro g' L' h' FG' F' N' B' X' T'; (try dsimp only); (try k_lift B'); (try k_fold))
  k_steps
  all_goals (exact h _ _ _ _ _ _ _ (fmod_lo _ (by omega)) (fmod_hi _ (by omega)) (fmod_lo _ (by decide)) (fmod_hi _ (by decide)) (by k_asm) (back _ _ (by k_asm)))
local macro_rules | `(tactic| walk_at "call ref") => `(tactic| (k_here; (with_reducible show wpAny _ _ (call (Value.ref 404) [Value.ref _, Value.int _ _]) _ _ _); k_dflt (refine' draw_rule ?B ?F ?X ?N ?T ?K ?d ?u ?l ?i ?n ?U ?P ?s ?k ?_; (case B => k_asm); (case F => k_asm); (case X => k_asm); (case N => k_asm); (case T => k_asm); (case K => first | exact rfl | assumption); (case d => first | ((try simp only [depth_under_make, depth_under_kw, depth_in1, depth_deeper, depth_caller]); decide) | ((try simp only [depth_under_make, depth_under_kw, depth_in1, depth_deeper, depth_caller]); (try dsimp only [ktrTop]); have hR9 : recursionLimit = 1000 := rfl; omega)); (case u => (have hcL9 := cLine_is; (try simp only [units_in1, units_deeper, Around.mark_units, units_caller]); (try dsimp only [ktrTop]); omega)); (case l => k_asm); (case i => k_asm); (case n => assumption); (case U => (refine' UpdF.head ?hh; (case hh => k_all))); (case P => assumption); (case s => assumption); (case k => (first | omega | exact ⟨by decide, by decide⟩)); k_whole); intro r' tr' sd' tp' ts' h' tk' hr0 hr1 hs0 hs1 F' N'; (try dsimp only at N'); (try k_sweep)))
set_option maxRecDepth 100000 in
set_option maxHeartbeats 8000000 in
theorem pickP_rule {b l : Addr} {P sd : Int} {tp ts : Tok} {n : Nat} {vs : List Value} {ns : List Int}
    (B : Below A₀ base outer h₀) (F : Fr h₀ L s.heap m) (X : (hd.heap_39 w.params).In h₀) (N : News h₀ L s.heap news) (T : Top p loose mean mg mb h₀) (hK : cs.kind = .function)
    (hd : dp + 15 < recursionLimit) (hu : un + 150 < cLine) (hl : base.IsList l vs.toArray) (hi : IntsAre vs ns) (hn : ns.length ≤ 63)
    (U : UpdF b (listOf #[.ref l, .int P tp, .int sd ts] n) news g) (hP : 0 ≤ P ∧ P ≤ 100) (hs : 0 ≤ sd ∧ sd < 2147483647)
    (h : ∀ r tr sd' tp' ts' h' tk', isPiece r → 0 ≤ sd' → sd' < 2147483647 → Fr h₀ L h' m → News h₀ L h' (g (listOf #[.ref l, .int (P + 1) tp', .int sd' ts'] n)) → Q (.str r tr) { s with heap := h', toks := tk' }) :
    wpAny (model PySem.Challenge.rw_br5020_01.row.prog w) (ktrTop dp un gd cn cs L a ccd cl outer) (call (.ref 411) [.ref b, .ref 397]) Q E s := by
  obtain ⟨own1, own2, rfl, hg, hd1, hd2⟩ := U.split
  obtain ⟨rest, hrest⟩ : ∃ rest, rest = own1 ++ own2 := ⟨_, rfl⟩
  have hr : ∀ q ∈ rest, q.1 ≠ b := by
    rw [hrest]
    intro q hq
    rcases List.mem_append.mp hq with z | z
    · exact hd1 q z
    · exact hd2 q z
  have N0 : News h₀ L s.heap ((b, listOf #[.ref l, .int P tp, .int sd ts] n) :: rest) := by
    intro q hq
    refine N q ?_
    rcases List.mem_cons.mp hq with rfl | z
    · exact List.mem_append_right _ (.head _)
    · rw [hrest] at z
      rcases List.mem_append.mp z with z | z
      · exact List.mem_append_left _ z
      · exact List.mem_append_right _ (.tail _ z)
  have back : ∀ (o' : Obj) (h' : Heap), News h₀ L h' ((b, o') :: rest) → News h₀ L h' (g o') := by
    intro o' h' N' q hq
    rw [hg] at hq
    refine N' q ?_
    rcases List.mem_append.mp hq with z | z
    · exact .tail _ (by rw [hrest]; exact List.mem_append_left _ z)
    · rcases List.mem_cons.mp z with rfl | z
      · exact .head _
      · exact .tail _ (by rw [hrest]; exact List.mem_append_right _ z)
  clear U N hd1 hd2 hg hrest own1 own2
  w_top off
  revert X; k_fill; intro X
  refine wpAny_call ?_
  k_dflt (refine' code_def ?k1 ?k2 ?k3 ?k4 ?k5 ?kA ?kF ?kK ?k6 ?k7 ?k8 ?k9 ?kB ?_ ?c2 ?c3 ?c4 ?c5; (case kA => exact rfl); (case kF => exact rfl); (case kK => first | exact rfl | assumption); (case k1 => k_asm); (case k2 => k_asm); (case k3 => k_asm); (case k4 => k_asm); (case k5 => k_asm); (case k6 => k_is); (case k7 => k_is); (case k8 => ktr_room); (case k9 => first | exact BindsTo.of_eq rfl | exact binds_K (by k_in) rfl (by k_is) rfl rfl rfl); (case c5 => decide); (case kB => exact locs rfl); (case c2 => exact rfl); (case c3 => exact rfl); (case c4 => exact rfl); k_whole; intro g' L' h' FG' F' N' B' X' T'; (try dsimp only); (try k_lift B'); (try k_fold))
  k_steps
  all_goals (exact h _ _ _ _ _ _ _ (piece_getD (by decide +kernel)) (by assumption) (by assumption) (by k_asm) (back _ _ (by k_asm)))
local macro_rules | `(tactic| walk_at "subscriptTail") => `(tactic| (k_here; (with_reducible show wpAny _ _ (subscriptTail _ _ (Value.ref _) (Value.int _ _)) _ _ _); k_dflt (with_unfolding_all refine' item_two ?l ?a ?b ?x ?y ?s; (case l => exact News.isList (by k_asm) (by k_mem)); (case a => assumption); (case b => assumption); (case s => with_unfolding_all rfl))))
set_option maxRecDepth 100000 in
set_option maxHeartbeats 8000000 in
theorem pickT_rule {b l tl : Addr} {P sd : Int} {tp ts tt : Tok} {n n' : Nat} {vs : List Value} {ns : List Int} {rest : List (Addr × Obj)}
    (B : Below A₀ base outer h₀) (F : Fr h₀ L s.heap m) (X : (hd.heap_39 w.params).In h₀) (N : News h₀ L s.heap ((b, listOf #[.ref l, .int P tp, .int sd ts] n) :: (tl, listOf #[.none, .str "t" tt] n') :: rest)) (T : Top p loose mean mg mb h₀) (hK : cs.kind = .function)
    (hd : dp + 15 < recursionLimit) (hu : un + 150 < cLine) (hl : base.IsList l vs.toArray) (hi : IntsAre vs ns) (hn : ns.length ≤ 63)
    (hb : ∀ q ∈ ((tl, listOf #[.none, .str "t" tt] n') :: rest), q.1 ≠ b) (hP : 0 ≤ P ∧ P ≤ 100) (hs : 0 ≤ sd ∧ sd < 2147483647)
    (h : ∀ r sd' tp' ts' h' tk', (r = .none ∨ ∃ tt, r = .str "t" tt) → 0 ≤ sd' → sd' < 2147483647 → Fr h₀ L h' m → News h₀ L h' ((b, listOf #[.ref l, .int (P + 1) tp', .int sd' ts'] n) :: rest) → Q r { s with heap := h', toks := tk' }) :
    wpAny (model PySem.Challenge.rw_br5020_01.row.prog w) (ktrTop dp un gd cn cs L a ccd cl outer) (call (.ref 411) [.ref b, .ref tl]) Q E s := by
  w_top off
  revert X; k_fill; intro X
  refine wpAny_call ?_
  k_dflt (refine' code_def ?k1 ?k2 ?k3 ?k4 ?k5 ?kA ?kF ?kK ?k6 ?k7 ?k8 ?k9 ?kB ?_ ?c2 ?c3 ?c4 ?c5; (case kA => exact rfl); (case kF => exact rfl); (case kK => first | exact rfl | assumption); (case k1 => k_asm); (case k2 => k_asm); (case k3 => k_asm); (case k4 => k_asm); (case k5 => k_asm); (case k6 => k_is); (case k7 => k_is); (case k8 => ktr_room); (case k9 => first | exact BindsTo.of_eq rfl | exact binds_K (by k_in) rfl (by k_is) rfl rfl rfl); (case c5 => decide); (case kB => exact locs rfl); (case c2 => exact rfl); (case c3 => exact rfl); (case c4 => exact rfl); k_whole; intro g' L' h' FG' F' N' B' X' T'; (try dsimp only); (try k_lift B'); (try k_fold))
  k_steps
  all_goals (first | (refine' h _ _ _ _ _ _ ?o ?a ?b ?F ?N; (case o => first | exact .inl rfl | exact .inr ⟨_, rfl⟩); (case a => assumption); (case b => assumption); (case F => k_asm); (case N => (refine' kst_newsOf ?n ?s; (case n => k_asm); (case s => (intro q hq; rcases List.mem_cons.mp hq with rfl | hq; exact .head _; exact .tail _ (.tail _ hq))))) ))
end
end Mine
end

section
open PySem PySem.W PySem.Calls PyProof.Rows
namespace Mine
section
variable {prog : Program} {w : World} {A : Around} {E : Value → Shared → Prop} {s : Shared} {h₀ : Heap} {L : Addr} {m : Str → Option Value} {news : List (Addr × Obj)} {K : Frag} {x C D : Addr} {ox : Obj} {odx : Option Obj}
theorem super2 {cdD : ClassData} {Q : Value → Shared → Prop} (F : Fr h₀ L s.heap m) (X₀ : K.In h₀) (N : News h₀ L s.heap news) (I : InstAt s.heap x ox C odx) (hD : clsIn K D = some cdD) (hsub : mroIn K C (.ref D) = some true)
    (h : ∀ so h', Fr h₀ L h' m → News h₀ L h' ((so, ks_superObj D x C) :: news) → (∀ p ∈ news, p.1 < so) → Q (.ref so) { s with heap := h' }) :
    wpAny (model prog w) A (call (.type "super") [.ref D, .ref x]) Q E s := by
  have X : K.In s.heap := X₀.keeps F.keep
  obtain ⟨hh, g, d, t, os⟩ := s
  obtain ⟨oD, hD1, hD2⟩ : ∃ oD, hh.get? D = some oD ∧ oD.data = .cls cdD := by
    unfold clsIn at hD
    split at hD
    · rename_i c d cd' sl ho
      cases hD
      exact ⟨_, X _ _ ho, rfl⟩
    · cases hD
  refine ks_wpAny_call_super hD1 hD2 I.at_ I.cls (fun c e => ?_) (looks_mroIn X hsub) (fun h' e k => ?_)
  · have := I.no
    unfold notCls at this
    rw [e] at this
    exact Bool.noConfusion this
  · obtain ⟨F', N', l'⟩ := ks_newsPush (s := ⟨hh, g, d, t, os⟩) F N rfl e k
    exact h _ _ F' N' l'
end

local macro_rules | `(tactic| walk_at "call type:super") => `(tactic| (k_here; (k_dflt (refine' super2 ?F ?X ?N ?I ?D ?S ?_; (case F => k_asm); (case X => k_asm); (case N => k_asm); (case I => k_inst); (case D => k_is); (case S => k_is); k_whole)); intro so' h' F' N' l1; (try k_lt l1)))
local macro_rules | `(tactic| walk_at "call ref") => `(tactic| (k_here; (with_reducible show wpAny _ _ (call (Value.ref 380) _) _ _ _); (dsimp only [List.nil_append]); k_dflt (((refine' call_cls ?k1 ?k2 ?k3 ?k4 ?k5 ?k6 ?_); (case k1 => k_asm); (case k2 => k_asm); (case k3 => k_asm); (case k4 => k_is); (case k5 => k_is); (case k6 => k_is); k_whole; intro x' d' h' F' N' l1 l2; (try k_lt l1); (try k_lt2 l2); (try k_sweep); (refine' ks_code_super ?k1 ?k2 ?k3 ?k4 ?k5 ?kA ?kF ?kK ?k6 ?k7 ?k8 ?k9 ?kB ?_ ?c1 ?c2 ?c3 ?c4; (case kA => exact rfl); (case kF => exact rfl); (case kK => first | exact rfl | assumption); (case k1 => k_asm); (case k2 => k_asm); (case k3 => k_asm); (case k4 => k_asm); (case k5 => k_asm); (case k6 => k_is); (case k7 => k_is); (case k8 => k_room); (case k9 => exact binds_K (by k_in) rfl (by k_is) rfl rfl rfl); (case kB => exact locs rfl); (case c1 => decide); (case c2 => exact rfl); (case c3 => exact rfl); (case c4 => exact rfl); intro g' L' h' FG' F' N' B' X' T' l1; (try k_lt l1); (try dsimp only); (try k_lift B'); refine wpAt_of_wpAny ?_; (try k_fold))))))
local macro_rules | `(tactic| walk_at "eval Name") => `(tactic| (k_here; (with_reducible show wpAny _ _ (eval (Expr.Name (PySem.Str.ofString "super") _) _) _ _ _); ((k_dflt (refine' nameX_B ?F ?X ?T ?e ?v ?n ?_ ?a ?b; (case F => k_asm); (case X => k_asm); (case T => k_asm); (case a => rfl); (case b => rfl); (case e => k_is); (case v => first | boot_fast | boot_by_name | rfl | kernel_rfl); (case n => decide); k_whole)))))
local macro_rules | `(tactic| walk_at "call ref") => `(tactic| (k_here; (with_reducible show wpAny _ _ (call (Value.ref 53) [Value.str (PySem.Str.ofString "/u") _]) _ _ _); k_dflt ((refine' unq ?B ?F ?X ?N ?T ?K ?d ?u ?_; (case B => k_asm); (case F => k_asm); (case X => k_asm); (case N => k_asm); (case T => k_asm); (case K => first | exact rfl | assumption); (case d => first | ((try simp only [depth_under_make, depth_under_kw, depth_in1, depth_deeper, depth_caller]); decide) | ((try simp only [depth_under_make, depth_under_kw, depth_in1, depth_deeper, depth_caller]); (try dsimp only [ktrTop]); have hR9 : recursionLimit = 1000 := rfl; omega)); (case u => (have hcL9 := cLine_is; (try simp only [units_in1, units_deeper, Around.mark_units, units_caller]); (try dsimp only [ktrTop]); omega)); k_whole)); intro t' h' tk' F' N'; (try k_sweep)))
local macro_rules | `(tactic| walk_at "call builtin:str.startswith") => `(tactic| (k_here; (with_reducible show wpAny _ _ (call (Value.builtin "str.startswith") [Value.str _ _, Value.ref _]) _ _ _); k_dflt (refine' starts_tup ?x ?v ?_; (case x => first | (refine' Fr.tup ?f (tupK ?X ?l); (case f => k_asm); (case X => k_asm); (case l => k_is)) | (refine' News.isTup ?f ?l; (case f => k_asm); (case l => k_mem))); (case v => first | exact PyProof.Rows.StrsAre.cons _ _ (PyProof.Rows.StrsAre.cons _ _ (PyProof.Rows.StrsAre.cons _ _ (PyProof.Rows.StrsAre.cons _ _ (PyProof.Rows.StrsAre.cons _ _ (PyProof.Rows.StrsAre.cons _ _ (PyProof.Rows.StrsAre.cons _ _ (PyProof.Rows.StrsAre.cons _ _ (PyProof.Rows.StrsAre.nil)))))))) | exact PyProof.Rows.StrsAre.cons _ _ (PyProof.Rows.StrsAre.cons _ _ (PyProof.Rows.StrsAre.cons _ _ (PyProof.Rows.StrsAre.cons _ _ (PyProof.Rows.StrsAre.nil)))) | exact PyProof.Rows.StrsAre.cons _ _ (PyProof.Rows.StrsAre.cons _ _ (PyProof.Rows.StrsAre.cons _ _ (PyProof.Rows.StrsAre.nil)))); k_whole)))
local macro_rules | `(tactic| walk_at "truthy") => `(tactic| (k_here; (with_reducible show wpAny _ _ (truthy _) _ _ _); (rename ((_ : Value) = Value.none ∨ _) => hTt); rcases hTt with hTt | ⟨tt, hTt⟩ <;> subst hTt))
local macro_rules | `(tactic| walk_at "getMethod ref") => `(tactic| (k_here; (with_reducible show wpAny _ _ (getMethod (Value.ref 172) _ _) _ _ _); k_dflt (refine' getM_pat (pat172 ?X) slot_fullm type_fullm ?_; (case X => k_in); k_whole)))
local macro_rules | `(tactic| walk_at "call builtin:re.Pattern.fullmatch") => `(tactic| (k_here; k_dflt ((refine' fullmatch_rule (N := 60) ?F ?N (pat172 ?X) ?x ?n ?r ?_; (case F => k_asm); (case N => k_asm); (case X => k_in); (case x => decide +kernel); (case n => decide); (case r => kernel_rfl); k_whole)); intro r' tp' m' h' F' N' l1 l2; (try k_lt l1); (try k_lt2 l2); (try k_sweep)))
local macro_rules | `(tactic| walk_at "truthy ref") => `(tactic| (k_here; k_dflt (refine' truthy_match (News.get ?N ?m) ?c ?_; (case N => k_asm); (case m => k_mem); (case c => exact rfl); k_whole)))
local macro_rules | `(tactic| walk_at "call ref") => `(tactic| (k_here; (with_reducible show wpAny _ _ (call (Value.ref 75) [Value.str _ _]) _ _ _); (first | (k_dflt (refine' safe_lit (T := Str.ofString "/u") ?e ?l ?a ?B ?F ?X ?N ?T ?K ?d ?u ?_; (case e => decide +kernel); (case l => decide +kernel); (case a => decide +kernel); (case B => k_asm); (case F => k_asm); (case X => k_asm); (case N => k_asm); (case T => k_asm); (case K => first | exact rfl | assumption); (case d => first | ((try simp only [depth_under_make, depth_under_kw, depth_in1, depth_deeper, depth_caller]); decide) | ((try simp only [depth_under_make, depth_under_kw, depth_in1, depth_deeper, depth_caller]); (try dsimp only [ktrTop]); have hR9 : recursionLimit = 1000 := rfl; omega)); (case u => (have hcL9 := cLine_is; (try simp only [units_in1, units_deeper, Around.mark_units, units_caller]); (try dsimp only [ktrTop]); omega)); k_whole); intro t' h' tk' F' N'; (try k_sweep)) | (k_dflt (refine' safe_lit (T := Str.ofString "t") ?e ?l ?a ?B ?F ?X ?N ?T ?K ?d ?u ?_; (case e => decide +kernel); (case l => decide +kernel); (case a => decide +kernel); (case B => k_asm); (case F => k_asm); (case X => k_asm); (case N => k_asm); (case T => k_asm); (case K => first | exact rfl | assumption); (case d => first | ((try simp only [depth_under_make, depth_under_kw, depth_in1, depth_deeper, depth_caller]); decide) | ((try simp only [depth_under_make, depth_under_kw, depth_in1, depth_deeper, depth_caller]); (try dsimp only [ktrTop]); have hR9 : recursionLimit = 1000 := rfl; omega)); (case u => (have hcL9 := cLine_is; (try simp only [units_in1, units_deeper, Around.mark_units, units_caller]); (try dsimp only [ktrTop]); omega)); k_whole); intro t' h' tk' F' N'; (try k_sweep)) | (k_dflt (refine' safe_text ?B ?F ?X ?N ?T ?K ?d ?u ?o ?_; (case B => k_asm); (case F => k_asm); (case X => k_asm); (case N => k_asm); (case T => k_asm); (case K => first | exact rfl | assumption); (case d => first | ((try simp only [depth_under_make, depth_under_kw, depth_in1, depth_deeper, depth_caller]); decide) | ((try simp only [depth_under_make, depth_under_kw, depth_in1, depth_deeper, depth_caller]); (try dsimp only [ktrTop]); have hR9 : recursionLimit = 1000 := rfl; omega)); (case u => (have hcL9 := cLine_is; (try simp only [units_in1, units_deeper, Around.mark_units, units_caller]); (try dsimp only [ktrTop]); omega)); (case o => exact tags_ok (alts_ok (by assumption))); k_whole); intro t' h' tk' hPl F' N'; (try k_sweep)))))
local macro_rules | `(tactic| walk_at "call builtin:str.join") => `(tactic| (k_here; first | (k_dflt ((refine' join2 ?l ?i ?a ?b ?_; (case l => (refine' News.isList ?n ?m; (case n => k_asm); (case m => k_mem))); (case i => exact PyProof.Rows.StrsAre.cons _ _ (PyProof.Rows.StrsAre.cons _ _ PyProof.Rows.StrsAre.nil)); (case a => first | decide +kernel | (simp only [Str.length_append, show (Str.ofString " alt=\"").length = 6 from by decide +kernel, show (Str.ofString "\"").length = 1 from by decide +kernel]; omega)); (case b => first | decide +kernel | (simp only [Str.length_append, show (Str.ofString " alt=\"").length = 6 from by decide +kernel, show (Str.ofString "\"").length = 1 from by decide +kernel]; omega)); k_whole)); intro t' k') | (k_dflt ((refine' join3 ?l ?i ?a ?b ?c ?_; (case l => (refine' News.isList ?n ?m; (case n => k_asm); (case m => k_mem))); (case i => exact PyProof.Rows.StrsAre.cons _ _ (PyProof.Rows.StrsAre.cons _ _ (PyProof.Rows.StrsAre.cons _ _ PyProof.Rows.StrsAre.nil))); (case a => first | decide +kernel | (simp only [Str.length_append, show (Str.ofString " alt=\"").length = 6 from by decide +kernel, show (Str.ofString "\"").length = 1 from by decide +kernel]; omega)); (case b => first | decide +kernel | (simp only [Str.length_append, show (Str.ofString " alt=\"").length = 6 from by decide +kernel, show (Str.ofString "\"").length = 1 from by decide +kernel]; omega)); (case c => first | decide +kernel | (simp only [Str.length_append, show (Str.ofString " alt=\"").length = 6 from by decide +kernel, show (Str.ofString "\"").length = 1 from by decide +kernel]; omega)); k_whole)); intro t' k')))
local macro_rules | `(tactic| k_room) => `(tactic| ((try simp only [depth_under_make, depth_under_kw, depth_in1, depth_deeper, depth_caller]); (try dsimp only [ktrTop]); have hR9 : recursionLimit = 1000 := rfl; omega))
section
variable {w : World} {p : Program} {loose : List Str} {mean : ExcName → Option Value} {mg mb : Str → Option Value} {news : List (Addr × Obj)} {g : Obj → List (Addr × Obj)}
  {dp un : Nat} {gd : Option (List Code)} {cn : Str} {cs : Scope} {a : Addr} {ccd : Value} {cl : List (Str × Addr)} {outer : List Env} {A₀ : Around} {base h₀ : Heap} {L : Addr} {m : Str → Option Value} {s : Shared} {Q E : Value → Shared → Prop}

abbrev rdict (w : World) (t1 t2 t3 : Tok) (md : Addr) : Obj := dictOf [⟨PyData.keyHash w.params "_BaseRenderer__methods", .str "_BaseRenderer__methods" t1, .ref md⟩, ⟨PyData.keyHash w.params "_allow_harmful_protocols", .str "_allow_harmful_protocols" t2, .none⟩, ⟨PyData.keyHash w.params "_escape", .str "_escape" t3, .bool true⟩] 3
set_option maxRecDepth 100000 in
set_option maxHeartbeats 8000000 in
theorem rend_rule {b c : Addr} {ob oc : Obj} {ps : Array Value}
    (B : Below A₀ base outer h₀) (F : Fr h₀ L s.heap m) (X : (hd.heap_39 w.params).In h₀) (N : News h₀ L s.heap [(c, oc), (b, ob), (99, tabObj ps)]) (T : Top p loose mean mg mb h₀) (hK : cs.kind = .function)
    (hd : dp + 20 < recursionLimit) (hu : un + 80 < cLine)  (l1 : 99 < b) (l2 : b < c)
    (h : ∀ x dx md t1 t2 t3 h' tk', c < dx → dx < x → Fr h₀ L h' m → News h₀ L h' [(x, instObj 380 dx), (dx, rdict w t1 t2 t3 md), (c, oc), (b, ob), (99, tabObj ps)] → Q (.ref x) { s with heap := h', toks := tk' }) :
    wpAny (model PySem.Challenge.rw_br5020_01.row.prog w) (ktrTop dp un gd cn cs L a ccd cl outer) (call (.ref 380) ([] ++ [])) Q E s := by
  replace l1 := ltN l1; replace l2 := ltN l2
  w_top off
  revert X; k_fill; intro X
  k_steps
  all_goals (refine' h _ _ _ _ _ _ _ _ ?a ?b ?F ?N; (case F => k_asm); (case N => (refine' kst_newsOf ?n ?s; (case n => k_asm); (case s => (with_unfolding_all kst_allIn)))); (case a => (refine ltN ?_; omega)); (case b => (refine ltN ?_; omega)))
end
end Mine
end

section
open PySem PySem.W PySem.Calls PyProof.Rows
namespace Mine
local macro_rules | `(tactic| walk_at "no such step 0") => `(tactic| fail)
local macro_rules | `(tactic| walk_at "no such step 1") => `(tactic| fail)
local macro_rules | `(tactic| walk_at "no such step 2") => `(tactic| fail)
local macro_rules | `(tactic| walk_at "no such step 3") => `(tactic| fail)
local macro_rules | `(tactic| walk_at "no such step 4") => `(tactic| fail)
local macro_rules | `(tactic| walk_at "no such step 5") => `(tactic| fail)
local macro_rules | `(tactic| walk_at "no such step 6") => `(tactic| fail)
local macro_rules | `(tactic| walk_at "call type:super") => `(tactic| (k_here; (k_dflt (refine' super2 ?F ?X ?N ?I ?D ?S ?_; (case F => k_asm); (case X => k_asm); (case N => k_asm); (case I => k_inst); (case D => k_is); (case S => k_is); k_whole)); intro so' h' F' N' l1; (try k_lt l1)))
local macro_rules | `(tactic| walk_at "call ref") => `(tactic| (k_here; (with_reducible show wpAny _ _ (call (Value.ref 380) _) _ _ _); (dsimp only [List.nil_append]); k_dflt (((refine' call_cls ?k1 ?k2 ?k3 ?k4 ?k5 ?k6 ?_); (case k1 => k_asm); (case k2 => k_asm); (case k3 => k_asm); (case k4 => k_is); (case k5 => k_is); (case k6 => k_is); k_whole; intro x' d' h' F' N' l1 l2; (try k_lt l1); (try k_lt2 l2); (try k_sweep); (refine' ks_code_super ?k1 ?k2 ?k3 ?k4 ?k5 ?kA ?kF ?kK ?k6 ?k7 ?k8 ?k9 ?kB ?_ ?c1 ?c2 ?c3 ?c4; (case kA => exact rfl); (case kF => exact rfl); (case kK => first | exact rfl | assumption); (case k1 => k_asm); (case k2 => k_asm); (case k3 => k_asm); (case k4 => k_asm); (case k5 => k_asm); (case k6 => k_is); (case k7 => k_is); (case k8 => k_room); (case k9 => exact binds_K (by k_in) rfl (by k_is) rfl rfl rfl); (case kB => exact locs rfl); (case c1 => decide); (case c2 => exact rfl); (case c3 => exact rfl); (case c4 => exact rfl); intro g' L' h' FG' F' N' B' X' T' l1; (try k_lt l1); (try dsimp only); (try k_lift B'); refine wpAt_of_wpAny ?_; (try k_fold))))))
local macro_rules | `(tactic| walk_at "eval Name") => `(tactic| (k_here; (with_reducible show wpAny _ _ (eval (Expr.Name (PySem.Str.ofString "super") _) _) _ _ _); ((k_dflt (refine' nameX_B ?F ?X ?T ?e ?v ?n ?_ ?a ?b; (case F => k_asm); (case X => k_asm); (case T => k_asm); (case a => rfl); (case b => rfl); (case e => k_is); (case v => first | boot_fast | boot_by_name | rfl | kernel_rfl); (case n => decide); k_whole)))))
local macro_rules | `(tactic| walk_at "call ref") => `(tactic| (k_here; (with_reducible show wpAny _ _ (call (Value.ref 104) [Value.str _ _]) _ _ _); k_dflt ((refine' strip_rule2 ?d1 ?d2 ?B ?F ?X ?N ?T ?K ?d ?u ?C ?ok ?_; (case d1 => assumption); (case d2 => assumption); (case B => k_asm); (case F => k_asm); (case X => k_asm); (case N => k_asm); (case T => k_asm); (case K => first | exact rfl | assumption); (case d => first | ((try simp only [depth_under_make, depth_under_kw, depth_in1, depth_deeper, depth_caller]); decide) | ((try simp only [depth_under_make, depth_under_kw, depth_in1, depth_deeper, depth_caller]); (try dsimp only [ktrTop]); have hR9 : recursionLimit = 1000 := rfl; omega)); (case u => (have hcL9 := cLine_is; (try simp only [units_in1, units_deeper, Around.mark_units, units_caller]); (try dsimp only [ktrTop]); omega)); (case C => first | assumption | exact codeHd); (case ok => assumption); k_whole)); intro t' h' tk' F' N'; (try dsimp only at N'); (try k_sweep)))
local macro_rules | `(tactic| walk_at "call ref") => `(tactic| (k_here; (with_reducible show wpAny _ _ (call (Value.ref 53) [Value.str (PySem.Str.ofString "/u") _]) _ _ _); k_dflt ((refine' unq ?B ?F ?X ?N ?T ?K ?d ?u ?_; (case B => k_asm); (case F => k_asm); (case X => k_asm); (case N => k_asm); (case T => k_asm); (case K => first | exact rfl | assumption); (case d => first | ((try simp only [depth_under_make, depth_under_kw, depth_in1, depth_deeper, depth_caller]); decide) | ((try simp only [depth_under_make, depth_under_kw, depth_in1, depth_deeper, depth_caller]); (try dsimp only [ktrTop]); have hR9 : recursionLimit = 1000 := rfl; omega)); (case u => (have hcL9 := cLine_is; (try simp only [units_in1, units_deeper, Around.mark_units, units_caller]); (try dsimp only [ktrTop]); omega)); k_whole)); intro t' h' tk' F' N'; (try k_sweep)))
local macro_rules | `(tactic| walk_at "call builtin:str.startswith") => `(tactic| (k_here; (with_reducible show wpAny _ _ (call (Value.builtin "str.startswith") [Value.str _ _, Value.ref _]) _ _ _); k_dflt (refine' starts_tup ?x ?v ?_; (case x => first | (refine' Fr.tup ?f (tupK ?X ?l); (case f => k_asm); (case X => k_asm); (case l => k_is)) | (refine' News.isTup ?f ?l; (case f => k_asm); (case l => k_mem))); (case v => first | exact PyProof.Rows.StrsAre.cons _ _ (PyProof.Rows.StrsAre.cons _ _ (PyProof.Rows.StrsAre.cons _ _ (PyProof.Rows.StrsAre.cons _ _ (PyProof.Rows.StrsAre.cons _ _ (PyProof.Rows.StrsAre.cons _ _ (PyProof.Rows.StrsAre.cons _ _ (PyProof.Rows.StrsAre.cons _ _ (PyProof.Rows.StrsAre.nil)))))))) | exact PyProof.Rows.StrsAre.cons _ _ (PyProof.Rows.StrsAre.cons _ _ (PyProof.Rows.StrsAre.cons _ _ (PyProof.Rows.StrsAre.cons _ _ (PyProof.Rows.StrsAre.nil)))) | exact PyProof.Rows.StrsAre.cons _ _ (PyProof.Rows.StrsAre.cons _ _ (PyProof.Rows.StrsAre.cons _ _ (PyProof.Rows.StrsAre.nil)))); k_whole)))
local macro_rules | `(tactic| walk_at "truthy") => `(tactic| (k_here; (with_reducible show wpAny _ _ (truthy _) _ _ _); (rename ((_ : Value) = Value.none ∨ _) => hTt); rcases hTt with hTt | ⟨tt, hTt⟩ <;> subst hTt))
local macro_rules | `(tactic| walk_at "getMethod ref") => `(tactic| (k_here; (with_reducible show wpAny _ _ (getMethod (Value.ref 172) _ _) _ _ _); k_dflt (refine' getM_pat (pat172 ?X) slot_fullm type_fullm ?_; (case X => k_in); k_whole)))
local macro_rules | `(tactic| walk_at "call builtin:re.Pattern.fullmatch") => `(tactic| (k_here; k_dflt ((refine' fullmatch_rule (N := 60) ?F ?N (pat172 ?X) ?x ?n ?r ?_; (case F => k_asm); (case N => k_asm); (case X => k_in); (case x => decide +kernel); (case n => decide); (case r => kernel_rfl); k_whole)); intro r' tp' m' h' F' N' l1 l2; (try k_lt l1); (try k_lt2 l2); (try k_sweep)))
local macro_rules | `(tactic| walk_at "truthy ref") => `(tactic| (k_here; k_dflt (refine' truthy_match (News.get ?N ?m) ?c ?_; (case N => k_asm); (case m => k_mem); (case c => exact rfl); k_whole)))
local macro_rules | `(tactic| walk_at "call ref") => `(tactic| (k_here; (with_reducible show wpAny _ _ (call (Value.ref 75) [Value.str _ _]) _ _ _); (first | (k_dflt (refine' safe_lit (T := Str.ofString "/u") ?e ?l ?a ?B ?F ?X ?N ?T ?K ?d ?u ?_; (case e => decide +kernel); (case l => decide +kernel); (case a => decide +kernel); (case B => k_asm); (case F => k_asm); (case X => k_asm); (case N => k_asm); (case T => k_asm); (case K => first | exact rfl | assumption); (case d => first | ((try simp only [depth_under_make, depth_under_kw, depth_in1, depth_deeper, depth_caller]); decide) | ((try simp only [depth_under_make, depth_under_kw, depth_in1, depth_deeper, depth_caller]); (try dsimp only [ktrTop]); have hR9 : recursionLimit = 1000 := rfl; omega)); (case u => (have hcL9 := cLine_is; (try simp only [units_in1, units_deeper, Around.mark_units, units_caller]); (try dsimp only [ktrTop]); omega)); k_whole); intro t' h' tk' F' N'; (try k_sweep)) | (k_dflt (refine' safe_lit (T := Str.ofString "t") ?e ?l ?a ?B ?F ?X ?N ?T ?K ?d ?u ?_; (case e => decide +kernel); (case l => decide +kernel); (case a => decide +kernel); (case B => k_asm); (case F => k_asm); (case X => k_asm); (case N => k_asm); (case T => k_asm); (case K => first | exact rfl | assumption); (case d => first | ((try simp only [depth_under_make, depth_under_kw, depth_in1, depth_deeper, depth_caller]); decide) | ((try simp only [depth_under_make, depth_under_kw, depth_in1, depth_deeper, depth_caller]); (try dsimp only [ktrTop]); have hR9 : recursionLimit = 1000 := rfl; omega)); (case u => (have hcL9 := cLine_is; (try simp only [units_in1, units_deeper, Around.mark_units, units_caller]); (try dsimp only [ktrTop]); omega)); k_whole); intro t' h' tk' F' N'; (try k_sweep)) | (k_dflt (refine' safe_text ?B ?F ?X ?N ?T ?K ?d ?u ?o ?_; (case B => k_asm); (case F => k_asm); (case X => k_asm); (case N => k_asm); (case T => k_asm); (case K => first | exact rfl | assumption); (case d => first | ((try simp only [depth_under_make, depth_under_kw, depth_in1, depth_deeper, depth_caller]); decide) | ((try simp only [depth_under_make, depth_under_kw, depth_in1, depth_deeper, depth_caller]); (try dsimp only [ktrTop]); have hR9 : recursionLimit = 1000 := rfl; omega)); (case u => (have hcL9 := cLine_is; (try simp only [units_in1, units_deeper, Around.mark_units, units_caller]); (try dsimp only [ktrTop]); omega)); (case o => exact tags_ok (alts_ok (by assumption))); k_whole); intro t' h' tk' hPl F' N'; (try k_sweep)))))
local macro_rules | `(tactic| walk_at "call builtin:str.join") => `(tactic| (k_here; first | (k_dflt ((refine' join2 ?l ?i ?a ?b ?_; (case l => (refine' News.isList ?n ?m; (case n => k_asm); (case m => k_mem))); (case i => exact PyProof.Rows.StrsAre.cons _ _ (PyProof.Rows.StrsAre.cons _ _ PyProof.Rows.StrsAre.nil)); (case a => first | decide +kernel | (simp only [Str.length_append, show (Str.ofString " alt=\"").length = 6 from by decide +kernel, show (Str.ofString "\"").length = 1 from by decide +kernel]; omega)); (case b => first | decide +kernel | (simp only [Str.length_append, show (Str.ofString " alt=\"").length = 6 from by decide +kernel, show (Str.ofString "\"").length = 1 from by decide +kernel]; omega)); k_whole)); intro t' k') | (k_dflt ((refine' join3 ?l ?i ?a ?b ?c ?_; (case l => (refine' News.isList ?n ?m; (case n => k_asm); (case m => k_mem))); (case i => exact PyProof.Rows.StrsAre.cons _ _ (PyProof.Rows.StrsAre.cons _ _ (PyProof.Rows.StrsAre.cons _ _ PyProof.Rows.StrsAre.nil))); (case a => first | decide +kernel | (simp only [Str.length_append, show (Str.ofString " alt=\"").length = 6 from by decide +kernel, show (Str.ofString "\"").length = 1 from by decide +kernel]; omega)); (case b => first | decide +kernel | (simp only [Str.length_append, show (Str.ofString " alt=\"").length = 6 from by decide +kernel, show (Str.ofString "\"").length = 1 from by decide +kernel]; omega)); (case c => first | decide +kernel | (simp only [Str.length_append, show (Str.ofString " alt=\"").length = 6 from by decide +kernel, show (Str.ofString "\"").length = 1 from by decide +kernel]; omega)); k_whole)); intro t' k')))
local macro_rules | `(tactic| k_room) => `(tactic| ((try simp only [depth_under_make, depth_under_kw, depth_in1, depth_deeper, depth_caller]); (try dsimp only [ktrTop]); have hR9 : recursionLimit = 1000 := rfl; omega))
section
variable {w : World} {p : Program} {loose : List Str} {mean : ExcName → Option Value} {mg mb : Str → Option Value} {news : List (Addr × Obj)} {g : Obj → List (Addr × Obj)}
  {dp un : Nat} {gd : Option (List Code)} {cn : Str} {cs : Scope} {a : Addr} {ccd : Value} {cl : List (Str × Addr)} {outer : List Env} {A₀ : Around} {base h₀ : Heap} {L : Addr} {m : Str → Option Value} {s : Shared} {Q E : Value → Shared → Prop}

def imgOut (title : Value) (T : Str) : Str := match title with
  | .none => Str.ofString "<img" ++ (Str.ofString " src=\"/u\"" ++ (Str.ofString " alt=\"" ++ plainF (tagsF (altsF T)) ++ Str.ofString "\"")) ++ Str.ofString " />"
  | _ => Str.ofString "<img" ++ (Str.ofString " src=\"/u\"" ++ (Str.ofString " alt=\"" ++ plainF (tagsF (altsF T)) ++ Str.ofString "\"") ++ Str.ofString " title=\"t\"") ++ Str.ofString " />"
set_option maxRecDepth 100000 in
set_option maxHeartbeats 8000000 in
theorem image_rule {b x dx md : Addr} {ob : Obj} {vs : Array Value} {t0 : Tok} (d1 : ob.data = .fields vs) (d2 : vs[1]? = some (.str lamQ t0)) {t1 t2 t3 tT tu : Tok} {title : Value} {T : Str} (ht : title = .none ∨ ∃ tt, title = .str "t" tt) (hT : TextOk T)
    (B : Below A₀ base outer h₀) (F : Fr h₀ L s.heap m) (X : (hd.heap_39 w.params).In h₀) (N : News h₀ L s.heap [(x, instObj 380 dx), (dx, rdict w t1 t2 t3 md), (b, ob), (99, lamTab b)]) (Tp : Top p loose mean mg mb h₀) (hK : cs.kind = .function)
    (hd : dp + 20 < recursionLimit) (hu : un + 300 < cLine) (C : CodeHd base 103 99) (l1 : 99 < b) (l2 : b < dx) (l3 : dx < x)
    (h : ∀ t' h' tk', Fr h₀ L h' m → News h₀ L h' [(99, lamTab b)] → Q (.str (imgOut title T) t') { s with heap := h', toks := tk' }) :
    wpAny (model PySem.Challenge.rw_br5020_01.row.prog w) (ktrTop dp un gd cn cs L a ccd cl outer) (call (.ref 278) [.ref x, .str T tT, .str "/u" tu, title]) Q E s := by
  replace l1 := ltN l1; replace l2 := ltN l2; replace l3 := ltN l3
  w_top off
  revert X; k_fill; intro X
  have hlen2 : (Str.ofString "/u").length = 2 := by decide +kernel
  refine wpAny_call ?_
  k_dflt (refine' code_def ?k1 ?k2 ?k3 ?k4 ?k5 ?kA ?kF ?kK ?k6 ?k7 ?k8 ?k9 ?kB ?_ ?c2 ?c3 ?c4 ?c5; (case kA => exact rfl); (case kF => exact rfl); (case kK => first | exact rfl | assumption); (case k1 => k_asm); (case k2 => k_asm); (case k3 => k_asm); (case k4 => k_asm); (case k5 => k_asm); (case k6 => k_is); (case k7 => k_is); (case k8 => ktr_room); (case k9 => first | exact BindsTo.of_eq rfl | exact binds_K (by k_in) rfl (by k_is) rfl rfl rfl); (case c5 => decide); (case kB => exact locs rfl); (case c2 => exact rfl); (case c3 => exact rfl); (case c4 => exact rfl); k_whole; intro g' L' h' FG' F' N' B' X' T'; (try dsimp only); (try k_lift B'); (try k_fold))
  k_steps
  all_goals first | (exact h _ _ _ (by k_asm) (kst_newsOf (by k_asm) (by with_unfolding_all kst_allIn)))
end
end Mine
end

section
open PySem PySem.W PySem.Calls PyProof.Rows
namespace Mine
theorem no_raise (args : List WData) (cls : ExcName) : PySem.Challenge.rw_br5020_01.row.claim.raises args cls = false := by
  kernel_rfl
theorem post_true (ns : List Int) : PySem.Challenge.rw_br5020_01.row.claim.post [ofPy (PyData.list (List.map PyData.int ns))] (.bool true) [ofPy (PyData.list (List.map PyData.int ns))] = true := by
  kernel_rfl
end Mine
end

section
open PySem PySem.W PySem.Calls PyProof.Rows
namespace Mine

theorem eq_same {prog : Program} {w : World} {A : Around} {E : Value → Shared → Prop} {s : Shared} {x y : Str} {t u : Tok} {Q : Value → Shared → Prop} (e : x = y) (h : Q (.bool true) s) : wpAny (model prog w) A (compareOp .Eq (.str x t) (.str y u)) Q E s :=
  eq_str (by rw [show (x == y) = true from beq_iff_eq.mpr e]; exact h)
theorem good_end {c : ClaimW} {cl : Str → Option Addr} {mean : ExcName → Option Value} {args : List WData} {s₁ s' : Shared} {L : Addr} {m : Str → Option Value} {h1 h : Heap} (F : Fr h1 L h m) (e : s₁.heap = h1 ∧ s'.heap = h) (hos : s'.os = s₁.os) (hg : s'.gens = #[]) (hn : ∀ cls, c.raises args cls = false) (hp : c.post args (.bool true) args = true) :
    GoodW c cl mean args s₁ (.ok (.ret (.bool true))) s' := by
  obtain ⟨rfl, rfl⟩ := e
  exact goodW_bool F hg hn hp hos
theorem grown_one {h₀ h : Heap} {L c' : Addr} (N : News h₀ L h [(99, lamTab c')]) : GrownAll [(103, 99)] h := ⟨GrownAt.of N (.head _), True.intro⟩
theorem lit_head : (Str.ofString "<img src=\"/u\" alt=\"").cps = (Str.ofString "<img").cps ++ ((Str.ofString " src=\"/u\"").cps ++ (Str.ofString " alt=\"").cps) := by decide +kernel
theorem lit_nilc : (Str.ofString "").cps = #[] := by decide +kernel
theorem out_none (T : Str) : imgOut .none T = Str.ofString "<img src=\"/u\" alt=\"" ++ plainF (tagsG (altsG T)) ++ Str.ofString "\"" ++ Str.ofString "" ++ Str.ofString " />" := by
  unfold imgOut
  dsimp only
  generalize plainF (tagsF (altsF T)) = P
  apply Str.ext'
  simp only [Str.cps_append, lit_head, lit_nilc, Array.append_assoc, Array.append_empty, Array.empty_append]
theorem out_some (T : Str) (tt : Tok) : imgOut (.str (Str.ofString "t") tt) T = Str.ofString "<img src=\"/u\" alt=\"" ++ plainF (tagsG (altsG T)) ++ Str.ofString "\"" ++ Str.ofString " title=\"t\"" ++ Str.ofString " />" := by
  unfold imgOut
  dsimp only
  generalize plainF (tagsF (altsF T)) = P
  apply Str.ext'
  simp only [Str.cps_append, lit_head, lit_nilc, Array.append_assoc, Array.append_empty, Array.empty_append]
section
variable {w : World} {p : Program} {loose : List Str} {mean : ExcName → Option Value} {mg mb : Str → Option Value}
  {dp un : Nat} {gd : Option (List Code)} {cn : Str} {cs : Scope} {a : Addr} {ccd : Value} {cl : List (Str × Addr)} {outer : List Env} {A₀ : Around} {base h₀ : Heap} {L : Addr} {m : Str → Option Value} {s : Shared} {Q E : Value → Shared → Prop} {news : List (Addr × Obj)}
theorem eqN {a b : Addr} (h : a = b) : (a : Nat) = (b : Nat) := h
theorem pickT6 {b l tl x dx c : Addr} {ox odx oc o9 : Obj} {P sd : Int} {tp ts tt : Tok} {n n' : Nat} {vs : List Value} {ns : List Int}
    (B : Below A₀ base outer h₀) (F : Fr h₀ L s.heap m) (X : (hd.heap_39 w.params).In h₀) (N : News h₀ L s.heap [(tl, listOf #[.none, .str "t" tt] n'), (x, ox), (dx, odx), (c, oc), (b, listOf #[.ref l, .int P tp, .int sd ts] n), (99, o9)]) (T : Top p loose mean mg mb h₀) (hK : cs.kind = .function)
    (hd : dp + 15 < recursionLimit) (hu : un + 150 < cLine) (hl : base.IsList l vs.toArray) (hi : IntsAre vs ns) (hn : ns.length ≤ 63)
    (l1 : 99 < b) (l2 : b < c) (l3 : c < dx) (l4 : dx < x) (l5 : x < tl) (hP : 0 ≤ P ∧ P ≤ 100) (hs : 0 ≤ sd ∧ sd < 2147483647)
    (h : ∀ r h' tk', (r = .none ∨ ∃ tt, r = .str "t" tt) → Fr h₀ L h' m → News h₀ L h' [(x, ox), (dx, odx), (c, oc), (99, o9)] → Q r { s with heap := h', toks := tk' }) :
    wpAny (model PySem.Challenge.rw_br5020_01.row.prog w) (ktrTop dp un gd cn cs L a ccd cl outer) (call (.ref 411) [.ref b, .ref tl]) Q E s := by
  replace l1 := ltN l1; replace l2 := ltN l2; replace l3 := ltN l3; replace l4 := ltN l4; replace l5 := ltN l5
  have N0 : News h₀ L s.heap ((b, listOf #[.ref l, .int P tp, .int sd ts] n) :: (tl, listOf #[.none, .str "t" tt] n') :: [(x, ox), (dx, odx), (c, oc), (99, o9)]) := by
    intro q hq
    refine N q ?_
    rcases List.mem_cons.mp hq with rfl | hq
    · exact .tail _ (.tail _ (.tail _ (.tail _ (.head _))))
    · rcases List.mem_cons.mp hq with rfl | hq
      · exact .head _
      · rcases List.mem_cons.mp hq with rfl | hq
        · exact .tail _ (.head _)
        · rcases List.mem_cons.mp hq with rfl | hq
          · exact .tail _ (.tail _ (.head _))
          · rcases List.mem_cons.mp hq with rfl | hq
            · exact .tail _ (.tail _ (.tail _ (.head _)))
            · rcases List.mem_cons.mp hq with rfl | hq
              · exact .tail _ (.tail _ (.tail _ (.tail _ (.tail _ (.head _)))))
              · cases hq
  have hb : ∀ q ∈ ((tl, listOf #[.none, .str "t" tt] n') :: [(x, ox), (dx, odx), (c, oc), (99, o9)]), q.1 ≠ b := by
    intro q hq
    simp only [List.mem_cons, List.not_mem_nil, or_false] at hq
    rcases hq with rfl | rfl | rfl | rfl | rfl
    · exact Nat.ne_of_gt (ltN (by dsimp only; omega))
    · exact Nat.ne_of_gt (ltN (by dsimp only; omega))
    · exact Nat.ne_of_gt (ltN (by dsimp only; omega))
    · exact Nat.ne_of_gt (ltN (by dsimp only; omega))
    · exact Nat.ne_of_lt (ltN (by dsimp only; omega))
  exact pickT_rule B F X N0 T hK hd hu hl hi hn hb hP hs fun r sd' tp' ts' h' tk' hr _ _ F' N' => h r h' tk' hr F' (fun q hq => N' q (.tail _ hq))
theorem plain_rule2 {T : Str} {t : Tok} 
    (B : Below A₀ base outer h₀) (F : Fr h₀ L s.heap m) (X : (hd.heap_39 w.params).In h₀) (N : News h₀ L s.heap news) (Tp : Top p loose mean mg mb h₀) (hK : cs.kind = .function)
    (hd : dp + 11 < recursionLimit) (hu : un + 90 < cLine) (hT : T.length ≤ 420)
    (h : ∀ t' h' tk', (plainF T).length ≤ 73674 → Fr h₀ L h' m → News h₀ L h' news → Q (.str (plainF T) t') { s with heap := h', toks := tk' }) :
    wpAny (model PySem.Challenge.rw_br5020_01.row.prog w) (ktrTop dp un gd cn cs L a ccd cl outer) (call (.ref 439) [.str T t]) Q E s :=
  plain_rule B F X N Tp hK hd hu hT fun t' h' tk' => h t' h' tk' (plain_len hT)
end
theorem loop_end {P k : Int} {sd : Int} {T r : Str} {pre : List Int} (hi : P = 1 + (pre.length : Int)) (hT : T.length ≤ 30 * pre.length) (hc : ∀ c ∈ T.cps.toList, c < 128 ∧ c ≠ 38) (hp : isPiece r) (h0 : 0 ≤ sd) (h1 : sd < 2147483647) :
  (P + 1 = 1 + ((pre ++ [k]).length : Int)) ∧ 0 ≤ sd ∧ sd < 2147483647 ∧ (T ++ r).length ≤ 30 * (pre ++ [k]).length ∧ ∀ c ∈ (T ++ r).cps.toList, c < 128 ∧ c ≠ 38 := by
  have hl : (pre ++ [k]).length = pre.length + 1 := by rw [List.length_append]; rfl
  refine ⟨by rw [hl]; omega, h0, h1, by rw [hl, Str.length_append]; have := hp.1; omega, fun c hc' => ?_⟩
  rw [Str.cps_append, Array.toList_append] at hc'
  rcases List.mem_append.mp hc' with q | q
  · exact hc c q
  · exact hp.2 c q
theorem loop_done {T : Str} {n : Nat} (hT : T.length ≤ 30 * (rangeKs 0 n).length) (hn : n ≤ 14) (hc : ∀ c ∈ T.cps.toList, c < 128 ∧ c ≠ 38) : TextOk T := by
  rw [rangeKs_length] at hT
  exact ⟨by omega, hc⟩
local macro_rules | `(tactic| walk_at "no such step 0") => `(tactic| fail)
local macro_rules | `(tactic| walk_at "no such step 1") => `(tactic| fail)
local macro_rules | `(tactic| walk_at "no such step 2") => `(tactic| fail)
local macro_rules | `(tactic| walk_at "no such step 3") => `(tactic| fail)
local macro_rules | `(tactic| walk_at "no such step 4") => `(tactic| fail)
local macro_rules | `(tactic| walk_at "no such step 5") => `(tactic| fail)
local macro_rules | `(tactic| walk_at "no such step 6") => `(tactic| fail)
local macro_rules | `(tactic| walk_at "no such step 7") => `(tactic| fail)
local macro_rules | `(tactic| walk_at "no such step 8") => `(tactic| fail)
local macro_rules | `(tactic| walk_at "call ref") => `(tactic| (k_here; (with_reducible show wpAny _ _ (call (Value.ref 404) [Value.ref _, Value.int _ _]) _ _ _); k_dflt (refine' draw_rule ?B ?F ?X ?N ?T ?K ?d ?u ?l ?i ?n ?U ?P ?s ?k ?_; (case B => k_asm); (case F => k_asm); (case X => k_asm); (case N => k_asm); (case T => k_asm); (case K => first | exact rfl | assumption); (case d => first | ((try simp only [depth_under_make, depth_under_kw, depth_in1, depth_deeper, depth_caller]); decide) | ((try simp only [depth_under_make, depth_under_kw, depth_in1, depth_deeper, depth_caller]); (try dsimp only [ktrTop]); have hR9 : recursionLimit = 1000 := rfl; omega)); (case u => (have hcL9 := cLine_is; (try simp only [units_in1, units_deeper, Around.mark_units, units_caller]); (try dsimp only [ktrTop]); omega)); (case l => k_asm); (case i => k_asm); (case n => omega); (case U => k_updF); (case P => omega); (case s => omega); (case k => omega); k_whole); intro r' tr' sd' tp' ts' h' tk' hr0 hr1 hs0 hs1 F' N'; (try dsimp only at N'); (try k_sweep)))
local macro_rules | `(tactic| walk_at "call ref") => `(tactic| (k_here; (with_reducible show wpAny _ _ (call (Value.ref 411) [Value.ref _, Value.ref 397]) _ _ _); k_dflt (refine' pickP_rule ?B ?F ?X ?N ?T ?K ?d ?u ?l ?i ?n ?U ?P ?s ?_; (case B => k_asm); (case F => k_asm); (case X => k_asm); (case N => k_asm); (case T => k_asm); (case K => first | exact rfl | assumption); (case d => first | ((try simp only [depth_under_make, depth_under_kw, depth_in1, depth_deeper, depth_caller]); decide) | ((try simp only [depth_under_make, depth_under_kw, depth_in1, depth_deeper, depth_caller]); (try dsimp only [ktrTop]); have hR9 : recursionLimit = 1000 := rfl; omega)); (case u => (have hcL9 := cLine_is; (try simp only [units_in1, units_deeper, Around.mark_units, units_caller]); (try dsimp only [ktrTop]); omega)); (case l => k_asm); (case i => k_asm); (case n => omega); (case U => k_updF); (case P => omega); (case s => omega); k_whole); intro r' tr' sd' tp' ts' h' tk' hpc hs0 hs1 F' N'; have hpl := hpc.1; (try dsimp only at N'); (try k_sweep)))
local macro_rules | `(tactic| walk_at "call ref") => `(tactic| (k_here; (with_reducible show wpAny _ _ (call (Value.ref 425) [Value.str _ _]) _ _ _); k_dflt (refine' alts_ctr ?ok ?B ?F ?X ?N ?T ?K ?d ?u ?_; (case B => k_asm); (case F => k_asm); (case X => k_asm); (case N => k_asm); (case T => k_asm); (case K => first | exact rfl | assumption); (case d => first | ((try simp only [depth_under_make, depth_under_kw, depth_in1, depth_deeper, depth_caller]); decide) | ((try simp only [depth_under_make, depth_under_kw, depth_in1, depth_deeper, depth_caller]); (try dsimp only [ktrTop]); have hR9 : recursionLimit = 1000 := rfl; omega)); (case u => (have hcL9 := cLine_is; (try simp only [units_in1, units_deeper, Around.mark_units, units_caller]); (try dsimp only [ktrTop]); omega)); (case ok => first | assumption | exact alts_ok (by assumption) | exact tags_ok (alts_ok (by assumption))); k_whole); intro t' h' tk' F' N'; (try k_sweep)))
local macro_rules | `(tactic| walk_at "call ref") => `(tactic| (k_here; (with_reducible show wpAny _ _ (call (Value.ref 432) [Value.str _ _]) _ _ _); k_dflt (refine' tags_ctr ?ok ?B ?F ?X ?N ?T ?K ?d ?u ?_; (case B => k_asm); (case F => k_asm); (case X => k_asm); (case N => k_asm); (case T => k_asm); (case K => first | exact rfl | assumption); (case d => first | ((try simp only [depth_under_make, depth_under_kw, depth_in1, depth_deeper, depth_caller]); decide) | ((try simp only [depth_under_make, depth_under_kw, depth_in1, depth_deeper, depth_caller]); (try dsimp only [ktrTop]); have hR9 : recursionLimit = 1000 := rfl; omega)); (case u => (have hcL9 := cLine_is; (try simp only [units_in1, units_deeper, Around.mark_units, units_caller]); (try dsimp only [ktrTop]); omega)); (case ok => exact (alts_ok (by assumption)).1); k_whole); intro t' h' tk' F' N'; (try k_sweep)))
local macro_rules | `(tactic| walk_at "call ref") => `(tactic| (k_here; (with_reducible show wpAny _ _ (call (Value.ref 439) [Value.str _ _]) _ _ _); k_dflt (refine' plain_rule2 ?B ?F ?X ?N ?T ?K ?d ?u ?ok ?_; (case B => k_asm); (case F => k_asm); (case X => k_asm); (case N => k_asm); (case T => k_asm); (case K => first | exact rfl | assumption); (case d => first | ((try simp only [depth_under_make, depth_under_kw, depth_in1, depth_deeper, depth_caller]); decide) | ((try simp only [depth_under_make, depth_under_kw, depth_in1, depth_deeper, depth_caller]); (try dsimp only [ktrTop]); have hR9 : recursionLimit = 1000 := rfl; omega)); (case u => (have hcL9 := cLine_is; (try simp only [units_in1, units_deeper, Around.mark_units, units_caller]); (try dsimp only [ktrTop]); omega)); (case ok => exact (tags_ok (alts_ok (by assumption))).1); k_whole); intro t' h' tk' hPl9 F' N'; (try k_sweep)))
local macro_rules | `(tactic| walk_at "call ref") => `(tactic| (k_here; (with_reducible show wpAny _ _ (call (Value.ref 104) [Value.str _ _]) _ _ _); k_dflt ((refine' strip_rule1 ?B ?F ?X ?N ?T ?K ?d ?u ?C ?U ?ok ?_; (case B => k_asm); (case F => k_asm); (case X => k_asm); (case N => k_asm); (case T => k_asm); (case K => first | exact rfl | assumption); (case d => first | ((try simp only [depth_under_make, depth_under_kw, depth_in1, depth_deeper, depth_caller]); decide) | ((try simp only [depth_under_make, depth_under_kw, depth_in1, depth_deeper, depth_caller]); (try dsimp only [ktrTop]); have hR9 : recursionLimit = 1000 := rfl; omega)); (case u => (have hcL9 := cLine_is; (try simp only [units_in1, units_deeper, Around.mark_units, units_caller]); (try dsimp only [ktrTop]); omega)); (case C => first | kn_code | assumption | exact codeHd); (case U => k_updF); (case ok => assumption); k_whole)); intro t' c' oc' vs' t0' h' tk' od1' od2' l1 F' N'; (try dsimp only at N'); (try k_lt l1)))
local macro_rules | `(tactic| walk_at "call ref") => `(tactic| (k_here; (with_reducible show wpAny _ _ (call (Value.ref 380) _) _ _ _); dsimp only [List.nil_append, List.append_nil]; k_dflt ((refine' rend_rule ?B ?F ?X ?N ?T ?K ?d ?u ?l1 ?l2 ?_; (case B => k_asm); (case F => k_asm); (case X => k_asm); (case N => k_asm); (case T => k_asm); (case K => first | exact rfl | assumption); (case d => first | ((try simp only [depth_under_make, depth_under_kw, depth_in1, depth_deeper, depth_caller]); decide) | ((try simp only [depth_under_make, depth_under_kw, depth_in1, depth_deeper, depth_caller]); (try dsimp only [ktrTop]); have hR9 : recursionLimit = 1000 := rfl; omega)); (case u => (have hcL9 := cLine_is; (try simp only [units_in1, units_deeper, Around.mark_units, units_caller]); (try dsimp only [ktrTop]); omega)); (case l1 => (refine ltN ?_; omega)); (case l2 => (refine ltN ?_; omega)); k_whole)); intro x' dx' md' t1' t2' t3' h' tk' l1 l2 F' N'; (replace l1 := ltN l1); (replace l2 := ltN l2)))
local macro_rules | `(tactic| walk_at "call ref") => `(tactic| (k_here; (with_reducible show wpAny _ _ (call (Value.ref 411) [Value.ref _, Value.ref _]) _ _ _); k_dflt ((refine' pickT6 ?B ?F ?X ?N ?T ?K ?d ?u ?l ?i ?n ?l1 ?l2 ?l3 ?l4 ?l5 ?P ?s ?_; (case B => k_asm); (case F => k_asm); (case X => k_asm); (case N => k_asm); (case T => k_asm); (case K => first | exact rfl | assumption); (case d => first | ((try simp only [depth_under_make, depth_under_kw, depth_in1, depth_deeper, depth_caller]); decide) | ((try simp only [depth_under_make, depth_under_kw, depth_in1, depth_deeper, depth_caller]); (try dsimp only [ktrTop]); have hR9 : recursionLimit = 1000 := rfl; omega)); (case u => (have hcL9 := cLine_is; (try simp only [units_in1, units_deeper, Around.mark_units, units_caller]); (try dsimp only [ktrTop]); omega)); (case l => k_asm); (case i => k_asm); (case n => omega); (case l1 => (refine ltN ?_; omega)); (case l2 => (refine ltN ?_; omega)); (case l3 => (refine ltN ?_; omega)); (case l4 => (refine ltN ?_; omega)); (case l5 => (refine ltN ?_; omega)); (case P => omega); (case s => omega); k_whole)); intro r' h' tk' hTt F' N'))
local macro_rules | `(tactic| walk_at "call ref") => `(tactic| (k_here; (with_reducible show wpAny _ _ (call (Value.ref 278) [Value.ref _, Value.str _ _, Value.str _ _, _]) _ _ _); k_dflt ((refine' image_rule ?d1 ?d2 ?t ?ok ?B ?F ?X ?N ?T ?K ?d ?u ?C ?l1 ?l2 ?l3 ?_; (case B => k_asm); (case F => k_asm); (case X => k_asm); (case N => k_asm); (case T => k_asm); (case K => first | exact rfl | assumption); (case d => first | ((try simp only [depth_under_make, depth_under_kw, depth_in1, depth_deeper, depth_caller]); decide) | ((try simp only [depth_under_make, depth_under_kw, depth_in1, depth_deeper, depth_caller]); (try dsimp only [ktrTop]); have hR9 : recursionLimit = 1000 := rfl; omega)); (case u => (have hcL9 := cLine_is; (try simp only [units_in1, units_deeper, Around.mark_units, units_caller]); (try dsimp only [ktrTop]); omega)); (case d1 => assumption); (case d2 => assumption); (case t => assumption); (case ok => assumption); (case C => first | kn_code | assumption | exact codeHd); (case l1 => (refine ltN ?_; omega)); (case l2 => (refine ltN ?_; omega)); (case l3 => (refine ltN ?_; omega)); k_whole)); intro t' h' tk' F' N'))

local macro_rules | `(tactic| walk_at "compareOp Eq str str") => `(tactic| (k_here; (with_reducible refine eq_same ?e9 ?_); (case e9 => (with_reducible first | exact out_none _ | exact out_some _ _)); (try dsimp only); (rename Fr _ _ _ _ => F9); (rename News _ _ _ _ => N9); (with_reducible refine And.intro ?a9 ?b9); (case b9 => (first | (with_reducible exact grown_one N9))); (case a9 => ((with_reducible refine good_end F9 ?h9 ?o9 ?g9 ?n9 ?p9); (case h9 => exact ⟨rfl, rfl⟩); (case o9 => exact rfl); (case g9 => (first | with_reducible assumption | assumption)); (case n9 => exact fun cls => no_raise _ cls); (case p9 => (with_reducible exact post_true _))))))
local macro_rules | `(tactic| walk_at "truthy") => `(tactic| (k_here; (with_reducible show wpAny _ _ (truthy _) _ _ _); (rename ((_ : Value) = Value.none ∨ _) => hTt); rcases hTt with hTt | ⟨tt, hTt⟩ <;> subst hTt))

local macro_rules | `(tactic| walk_at "pyIter ref") => `(tactic| (k_here; ((rename Fr _ _ _ _ => lF'); (rename News _ _ _ _ => lN'); (rename IsRange _ _ _ _ _ _ _ _ => rgX); (with_unfolding_all refine' kst_range (σ := Int × Tok × Int × Tok × Str × Tok) (fun c => [(_, W.listOf #[Value.ref _, .int c.1 c.2.1, .int c.2.2.1 c.2.2.2.1] 0), (99, tabObj #[])]) (fun c => [(Str.ofString "text", Value.str c.2.2.2.2.1 c.2.2.2.2.2)]) (fun _ => True) [] (fun pre c => c.1 = 1 + (pre.length : Int) ∧ 0 ≤ c.2.2.1 ∧ c.2.2.1 < 2147483647 ∧ c.2.2.2.2.1.length ≤ 30 * pre.length ∧ ∀ x ∈ c.2.2.2.2.1.cps.toList, x < 128 ∧ x ≠ 38) ⟨_, _, _, _, _, _⟩ (by rfl) (by first | exact rgX | assumption) (by exact small_one (by omega) (by omega) (by omega) (by omega)) (by exact rangeSize_nat _ _) lF' ?kn ?kf ?kk ?kp ?kt ?kd); (case kn => (with_unfolding_all exact lN')); (case kf => exact True.intro); (case kk => kst_all); (case kp => (dsimp only; exact ⟨by simp, by omega, by omega, by decide, by decide⟩)); (all_goals (try clear lF' lN')); (case' kt => (rintro ⟨P', tp', sd', ts', T', tT'⟩ pre' k' t' u' h' tk' own' hk' hlt' hoff' hf' ⟨hP1, hP2, hP3, hP4, hP5⟩ kFr kNews; (have kMark := kstMark); (try dsimp only [kstB] at kFr); (try dsimp only at kNews); (try dsimp only at hP1); (try dsimp only at hP2); (try dsimp only at hP3); (try dsimp only at hP4); (try dsimp only at hP5); (try simp only [List.map_cons, List.map_nil] at hoff'); (try simp only [List.nil_append, List.cons_append, List.append_nil] at kNews))); (case' kd => (rintro ⟨P', tp', sd', ts', T', tT'⟩ u' h' tk' hf' ⟨hP1, hP2, hP3, hP4, hP5⟩ kFr kNews; (have kMark := kstMark); (try dsimp only [kstB] at kFr); (try dsimp only at kNews); (try dsimp only at hP1); (try dsimp only at hP2); (try dsimp only at hP3); (try dsimp only at hP4); (try dsimp only at hP5); have hTxt := loop_done hP4 (by omega) hP5; rw [rangeKs_length] at hP1; (try simp only [List.nil_append, List.cons_append, List.append_nil] at kNews))); all_goals (try k_fold))))
set_option maxRecDepth 100000 in
set_option maxHeartbeats 8000000 in
theorem t0 : PySem.Challenge.rw_br5020_01.Holds := Mine.hd (by
  w_top off
  w_strict (
    k_with "state" => exact loop_end (by assumption) (by assumption) (by assumption) (by first | assumption | exact piece_getD (by decide +kernel)) (by assumption) (by assumption)
    k_go0; (all_goals try k_fold); k_steps))
end Mine
end

set_option maxRecDepth 100000 in
theorem PySem.Challenge.cw_br5020_01_holds : PySem.Challenge.rw_br5020_01.Holds :=
  Mine.t0
