import PyProof.Rows.All
import PyProof.RaisesAny
import PyProof.AssignAttr
import PyProof.AutoIntG3
import PyProof.ForAny
import PyProof.MeetsStr2
import PyProof.CallStr
import PyProof.Cells
import PyProof.EqKinds
import PyProof.NeKinds
import PyProof.ExcArgs
import PyProof.ExcBaseAll.Exception
import PyProof.ExcAttrAll.Exception
import PyProof.ExcInit
import PyProof.StationsW
import PyProof.ReprUnder
import PyProof.ExcStrAll.Exception
import PyProof.ExcStrCall
import PyProof.StrLawsIn
import PyProof.InstStoreFacts
import PyProof.ListMulRight
import PyProof.RulesAs
import PyProof.NsDelKeeps
import PyProof.Rows.TupIter
import PyProof.Rows.CellsFrame
import PyProof.Rows.StrNews2
import PyProof.Rows.RuleB_floordiv
import PyProof.Rows.StrMul
import PyProof.Rows.RuleIs2
import PyProof.StrLawsLast
import PyProof.Rows.StrStrike
import PyProof.Rows.MaxTwoN
import PyProof.Rows.Range3
import PyProof.Rows.SetFrom
import Wide.BytesFacts
import Wide.BytesRules
import Wide.More
import KE.KxBytes
import KE.BytesMake
import KE.KItem
import KE.LcSums
import KE.KBytesAny
import KE.KBytesCut
import KE.LcTurns
import KE.KLcFree
import KE.KState
import KE.KDictAny
import KE.KDictNew
import KE.KIsBytes
import KE.KSliceW
import KE.KSuper
import KE.KTryMore
import KE.KxDecode
import KE.KxPercentT
import KE.RegKTryMore
import Wide.FinOn
import OpenK.AllK
import Wide.All
import Lean
import PySem.Challenge.RW_kq0017_05
set_option genSizeOf false
set_option compiler.extract_closed false
set_option linter.all false
section
open PySem PySem.W PyProof.Rows
set_option Elab.async false
namespace Mine
set_option maxRecDepth 100000
set_option maxHeartbeats 8000000
open_top hd for PySem.Challenge.rw_kq0017_05
end Mine
end
section
open PySem PySem.W PySem.Calls PySem.Spec PyProof.Rows
set_option Elab.async false
set_option maxRecDepth 100000
set_option linter.unusedVariables false
namespace Mine
theorem of_gen {P : Prop} (h : ∀ G : Prop, (P → G) → G) : P := h P id

structure Fram (l : List Env) (frs0 frs : List (Addr × Obj)) : Prop where
  fs : TI.Frs l frs
  su : TI.SameUp frs0 frs
theorem Fram.up {l : List Env} {a b c : List (Addr × Obj)} (x : Fram l a b) (y : TI.SameUp b c) : Fram l a c := ⟨TI.Frs.up x.fs y, TI.SameUp.trans x.su y⟩
theorem sameUp_addrs : ∀ {a b : List (Addr × Obj)}, TI.SameUp a b → b.map (·.1) = a.map (·.1)
  | [], [], _ => rfl
  | [], _ :: _, h => h.elim
  | _ :: _, [], h => h.elim
  | p :: a, q :: b, h => by
    obtain ⟨h1, _, h3⟩ := h
    simp only [List.map_cons, h1, sameUp_addrs h3]

noncomputable abbrev Apt (as : List Addr) (frs : List (Addr × Obj)) : Prop := ∀ a ∈ as, a ∉ frs.map (·.1)
section
variable {prog : Program} {w : World} {A : Around} {s : Shared} {hb : Heap} {L : Addr} {m : Str → Option Value} {K : Frag} {p : Program} {loose : List Str} {mean : ExcName → Option Value} {mg mb : Str → Option Value}
  {env : Env} {outer : List Env} {σ frs : List (Addr × Obj)} {R : Result → Shared → Prop}
  {name qual : Str} {params : Arguments} {body : List Stmt} {scope : Scope} {dV kV doc pm cdv ct oc : Value} {an od : Option Addr} {osl : Array (Option Value)} {f : Addr} {args : Args} {binds : List (Str × Value)}

end
section
variable {prog : Program} {w : World} {A₀ : Around} {s' : Shared} {hb h : Heap} {L a e : Addr} {m : Str → Option Value} {name : Str} {scope : Scope} {cd : Value} {l : List Env} {frs0 frs new led : List (Addr × Obj)} {X : String} {Q : Unit → Shared → Prop} {E : Value → Shared → Prop}
end

noncomputable def tx (l : List Nat) : Str := ⟨l.toArray⟩
theorem tx_length (l : List Nat) : (tx l).length = l.length := by simp [tx, Str.length]
theorem tx_append (a b : List Nat) : tx a ++ tx b = tx (a ++ b) := by
  show Str.append (tx a) (tx b) = _
  simp [tx, Str.append]
theorem tx_inj {a b : List Nat} : tx a = tx b ↔ a = b := by
  constructor
  · intro h
    have := congrArg (fun z : Str => z.cps.toList) h
    simpa [tx] using this
  · intro h; rw [h]
theorem tx_beq (a b : List Nat) : (tx a == tx b) = decide (a = b) := by
  by_cases h : a = b
  · subst h; simp
  · rw [decide_eq_false h]
    exact beq_eq_false_iff_ne.mpr fun e => h (tx_inj.mp e)
theorem tx_get (l : List Nat) (i : Nat) : (tx l).cps[i]? = l[i]? := by simp [tx]

section
variable {prog : Program} {w : World} {A : Around} {E : Value → Shared → Prop} {s : Shared} {t u : Tok}
theorem str_item_T {value slice : Expr} {l : List Nat} {i : Int} {Q : Value → Shared → Prop} (hh : A.handled = none) (h0 : 0 ≤ i) (h63 : i < 9223372036854775808)
    (hin : ∀ c, l[i.toNat]? = some c → Q (.str (tx [c]) s.toks) { s with toks := s.toks + 1 })
    (hout : l[i.toNat]? = none → ∀ h' tk e, Heap.NewExc s.heap h' e "IndexError" → E (.ref e) { s with heap := h', toks := tk })
    (hs : subscripted slice false (.str (tx l) t) (.int i u) = operate [.str (tx l) t, .int i u] (getItem (.str (tx l) t) (.int i u)) := by with_unfolding_all rfl) :
    wpAny (model prog w) A (subscriptTail value slice (.str (tx l) t) (.int i u)) Q E s := by
  have hr : (decide (i < -(2 ^ 63 : Int)) || decide (i ≥ 2 ^ 63)) = false := by
    rw [Bool.or_eq_false_iff]
    exact ⟨decide_eq_false (by omega), decide_eq_false (by omega)⟩
  refine tail_any (typeIs_str s (tx l) t) F.slot_str_getitem.lookup ?_ hs
  cases hc : l[i.toNat]? with
  | some c =>
    have hlt : i.toNat < l.length := (List.getElem?_eq_some_iff.mp hc).1
    refine P.getItem_str hr (c := c) ?_ (hin c hc)
    have : seqIndex? i (tx l).length = some i.toNat := by
      rw [tx_length]
      unfold seqIndex?
      simp only [ge_iff_le]
      split <;> rename_i h1
      · omega
      · simp <;> omega
    rw [this]
    exact (tx_get l _).trans hc
  | none =>
    have hge : l.length ≤ i.toNat := List.getElem?_eq_none_iff.mp hc
    refine wpAny_getItem_slot (typeIs_str s (tx l) t) (by decide) F.slot_str_getitem ?_
    refine wpAny_call_entry F.slot_str_getitem (typeIs_str s (tx l) t) F.entry_str_getitem ?_ (F.args_str_getitem_2 _ _)
    have e : (seqIndex? i (tx l).length).bind ((tx l).cps[·]?) = none := by
      cases q : seqIndex? i (tx l).length with
      | none => rfl
      | some j =>
        rw [tx_length] at q
        unfold seqIndex? at q
        simp only [ge_iff_le] at q
        split at q <;> simp at q <;> omega
    show wpAny _ _ (if (decide (i < -(2 ^ 63 : Int)) || decide (i ≥ 2 ^ 63)) = true then _ else
          match (seqIndex? i (tx l).length).bind ((tx l).cps[·]?) with
          | some c => retStr ⟨#[c]⟩
          | none => (do rule "str.__getitem__.out-of-range"; raiseError "IndexError" "string index out of range")) _ _ _
    rw [hr, e]
    exact wpAny_bind (wpAny_rule (raiseErrorWords_exc excClass_IndexError hh (hout hc)))
end

section
variable {prog : Program} {w : World} {A : Around} {E : Value → Shared → Prop} {s : Shared} {t u : Tok}
theorem tx_iadd {a b : List Nat} {Q : Value → Shared → Prop} (hsz : a.length + b.length ≤ sizeLine) (h : ∀ t' k, Q (.str (tx (a ++ b)) t') { s with toks := k }) :
    wpAny (model prog w) A (inplaceOp .Add (.str (tx a) t) (.str (tx b) u)) Q E s :=
  SB.iadd (fun t' k => by rw [tx_append]; exact h t' k) (by rw [tx_length, tx_length]; exact hsz)
theorem tx_add {a b : List Nat} {Q : Value → Shared → Prop} (hsz : a.length + b.length ≤ sizeLine) (h : ∀ t' k, Q (.str (tx (a ++ b)) t') { s with toks := k }) :
    wpAny (model prog w) A (binaryOp .Add (.str (tx a) t) (.str (tx b) u)) Q E s :=
  SB.add (fun t' k => by rw [tx_append]; exact h t' k) (by rw [tx_length, tx_length]; exact hsz)
end

section
variable {prog : Program} {w : World} {A₀ : Around} {E : Value → Shared → Prop} {s' : Shared} {hb : Heap} {L a e : Addr} {m : Str → Option Value} {name : Str} {scope : Scope} {cd : Value} {K : Frag}
  {x : Str} {b₀ : Stmt} {suite : List Stmt} {pos np : Pos} {rest : List ExceptHandler} {Q : Flow → Shared → Prop} {news : List (Addr × Obj)} {X T' : String} {p : Program} {loose : List Str} {mean : ExcName → Option Value} {mg mb : Str → Option Value}
end

noncomputable def nxt (l : List Nat) (i : Nat) : Option (Nat × Option (List Nat)) := match l[i]? with
  | none => some (i, none)
  | some c => if c = 92 then (match l[i + 1]? with | none => none | some d => some (i + 2, some [c, d])) else some (i + 1, some [c])
theorem bs_tx : Str.ofString "\\" = tx [92] := by decide +kernel
theorem bs_beq (c : Nat) : (tx [c] == Str.ofString "\\") = decide (c = 92) := by
  rw [bs_tx, tx_beq]
  by_cases h : c = 92 <;> simp [h]
theorem nxt_end {l : List Nat} {i : Nat} (h : l[((i : Nat) : Int).toNat]? = none) : nxt l i = some (i, none) := by
  rw [Int.toNat_natCast] at h
  simp [nxt, h]
theorem nxt_one {l : List Nat} {i c : Nat} (h : l[((i : Nat) : Int).toNat]? = some c) (hc : (tx [c] == Str.ofString "\\") = false) : nxt l i = some (i + 1, some [c]) := by
  rw [Int.toNat_natCast] at h
  rw [bs_beq] at hc
  simp [nxt, h, of_decide_eq_false hc]
theorem nxt_two {l : List Nat} {i c d : Nat} (h : l[((i : Nat) : Int).toNat]? = some c) (hc : (tx [c] == Str.ofString "\\") = true) (h2 : l[((i : Nat) + 1 : Int).toNat]? = some d) : nxt l i = some (i + 2, some ([c] ++ [d])) := by
  rw [Int.toNat_natCast] at h
  rw [bs_beq] at hc
  have e : ((i : Nat) + 1 : Int).toNat = i + 1 := by omega
  rw [e] at h2
  have hc' := of_decide_eq_true hc
  subst hc'
  simp [nxt, h, h2]
theorem nxt_bad {l : List Nat} {i c : Nat} (h : l[((i : Nat) : Int).toNat]? = some c) (hc : (tx [c] == Str.ofString "\\") = true) (h2 : l[((i : Nat) + 1 : Int).toNat]? = none) : nxt l i = none := by
  rw [Int.toNat_natCast] at h
  rw [bs_beq] at hc
  have e : ((i : Nat) + 1 : Int).toNat = i + 1 := by omega
  rw [e] at h2
  have hc' := of_decide_eq_true hc
  subst hc'
  simp [nxt, h, h2]
theorem some_pair {α β : Type} {x : Option (α × β)} {a a' : α} {b b' : β} (h : x = some (a, b)) (h' : x = some (a', b')) : a = a' ∧ b = b' := by
  rw [h] at h'; cases h'; exact ⟨rfl, rfl⟩

section
variable {l : List Nat} {i j c d : Nat} {o : Option (List Nat)}
theorem step_end (hn : nxt l i = some (j, o)) (h : l[((i : Nat) : Int).toNat]? = none) : i = j ∧ none = o := some_pair (nxt_end h) hn
theorem step_one (hn : nxt l i = some (j, o)) (h : l[((i : Nat) : Int).toNat]? = some c) (hc : (tx [c] == Str.ofString "\\") = false) : i + 1 = j ∧ some [c] = o := some_pair (nxt_one h hc) hn
theorem step_two (hn : nxt l i = some (j, o)) (h : l[((i : Nat) : Int).toNat]? = some c) (hc : (tx [c] == Str.ofString "\\") = true) (h2 : l[((i : Nat) + 1 : Int).toNat]? = some d) : i + 2 = j ∧ some ([c] ++ [d]) = o := some_pair (nxt_two h hc h2) hn
theorem step_bad (hn : nxt l i = some (j, o)) (h : l[((i : Nat) : Int).toNat]? = some c) (hc : (tx [c] == Str.ofString "\\") = true) (h2 : l[((i : Nat) + 1 : Int).toNat]? = none) : False := by
  rw [nxt_bad h hc h2] at hn; cases hn
end

section
variable {d t : Addr} {o o' ot : Obj} {new new' frs frs' : List (Addr × Obj)} {hb h : Heap} {L : Addr}
theorem upd_mem {l l' : List (Addr × Obj)} (u : Upd d o o' l l') : ∀ p ∈ l', p = (d, o') ∨ (p ∈ l ∧ p.1 ≠ d) := by
  induction u with
  | head h => exact fun p hp => (List.mem_cons.mp hp).imp id fun hp => ⟨.tail _ hp, h p hp⟩
  | tail n r ih => exact fun p hp => (List.mem_cons.mp hp).elim (fun e => .inr ⟨e ▸ .head _, e ▸ n⟩) fun hp => (ih p hp).imp id fun q => ⟨.tail _ q.1, q.2⟩
end

section
variable {prog : Program} {w : World} {A : Around} {E : Value → Shared → Prop} {s : Shared} {t u : Tok}
theorem eq_tx {a b : List Nat} {Q : Value → Shared → Prop} (h : Q (.bool (decide (a = b))) s) : wpAny (model prog w) A (compareOp .Eq (.str (tx a) t) (.str (tx b) u)) Q E s :=
  P.eq_str (by
    have e : ((tx a).cps.toList == (tx b).cps.toList) = decide (a = b) := by
      show (a.toArray.toList == b.toArray.toList) = _
      rw [List.toList_toArray, List.toList_toArray]
      by_cases q : a = b <;> simp [q]
    rw [e]; exact h)
theorem len_tx {a : List Nat} {Q : Value → Shared → Prop} (hl : a.length ≤ 100000) (h : Q (.int (a.length : Int) (s.toks + 1)) { s with toks := s.toks + 1 + 1 }) : wpAny (model prog w) A (call (.builtin "len") [.str (tx a) t]) Q E s :=
  SBL.len (by rw [tx_length]; omega) (by rw [tx_length]; exact h)
end

end Mine
end
section
open PySem PySem.W PyProof.Rows PySem.Spec PySem.Calls
set_option Elab.async false
namespace Mine
set_option maxRecDepth 100000
section
open PySem.Builtin PySem.Builtin._codecs
theorem loop_l {α : Type} (b : Array UInt8) (f : Nat → Nat × Array Nat × α → Sem (ForInStep (Nat × Array Nat × α))) (st : α)
   (hf : ∀ x i (out : Array Nat), i < b.size → out.size ≤ b.size → f x ⟨i, out, st⟩ = pure (.yield ⟨i + 1, out.push (b.getD i 0).toNat, st⟩)) :
   ∀ (k j i : Nat), i + k = b.size → forIn (List.range' j k) (i, ((b.toList.take i).map (·.toNat)).toArray, st) f = pure (b.size, b.map (·.toNat), st) := by
  intro k
  induction k with
  | zero =>
    intro j i h
    have : i = b.size := by omega
    subst this
    have : ((b.toList.take b.size).map (·.toNat)).toArray = b.map (·.toNat) := by
      apply Array.ext' 
      simp [List.take_of_length_le]
    rw [this]
    rfl
  | succ k ih =>
    intro j i h
    rw [List.range'_succ, List.forIn_cons, hf _ _ _ (by omega) (by simp; omega), pure_bind]
    have := ih (j + 1) (i + 1) (by omega)
    rw [← this]
    have hi : i < b.size := by omega
    have : ((List.take i b.toList).map (·.toNat)).toArray.push (b.getD i 0).toNat = ((List.take (i + 1) b.toList).map (·.toNat)).toArray := by
      simp [List.take_add_one, hi]
    rw [this]
theorem lat_run (id : String) (b : Array UInt8) (hb : b.size ≤ sizeLine) : runDecoder id latin1Decoder none true b 0 [] = pure (b.map (·.toNat), b.size) := by
  unfold runDecoder
  simp only [Std.Legacy.Range.forIn_eq_forIn_range', Std.Legacy.Range.size]
  refine (congrArg (· >>= _) (loop_l b _ _ ?_ ((b.size - 0 + 1 - 1) / 1) 0 0 ?_)).trans ?_
  · intro x i out hi ho
    dsimp only
    rw [if_neg (by omega), if_neg (by omega)]
    show pure (ForInStep.yield (i + 1, out ++ [(b.getD i 0).toNat].toArray, _)) = _
    simp
  · simp
  · rfl
theorem entry_l (c : UInt8) (cs : List UInt8) (t k : Tok) : «bytes.decode» ⟨[.bytes (c :: cs).toArray t], [("encoding", .str (PySem.Str.ofString "latin1") k)]⟩ = (mkStr (PySem.Str.ofString "utf-8") >>= fun _ => mkStr (PySem.Str.ofString "latin1") >>= fun e => mkStr (PySem.Str.ofString "bytes.decode") >>= fun d =>
    call (.builtin "_codecs.decode.text") [.bytes (c :: cs).toArray t, e, .none, d] >>= fun v => ret v) := by kernel_rfl
theorem road_l {id : String} {b : Array UInt8} : _codecs.decodeRoad id b (PySem.Str.ofString "latin1") none [] = (_codecs.runDecoder id _codecs.latin1Decoder none true b 0 [] >>= fun r => mkStr ⟨r.1⟩) := by kernel_rfl
theorem args_l (b : Array UInt8) (t k : Tok) : argsOk "bytes.decode" ⟨[.bytes b t], [("encoding", .str (PySem.Str.ofString "latin1") k)]⟩ := by unfold argsOk; kernel_rfl
theorem typeCall_l (b : Array UInt8) (t k : Tok) : checkTypeCall "str" ⟨[.bytes b t, .str (Str.ofString "latin1") k], []⟩ = pure () := by kernel_rfl
theorem newCall_l (b : Array UInt8) (t k : Tok) : checkBuiltinCall "str.__new__" ⟨[.type "str", .bytes b t, .str (Str.ofString "latin1") k], []⟩ = pure () := by kernel_rfl
theorem init_l (obj a b : Value) : argsOk "object.__init__" ⟨[obj, a, b], []⟩ := by unfold argsOk; kernel_rfl
noncomputable def latOf (b : Array UInt8) : Str := ⟨b.map (·.toNat)⟩
theorem latOf_length (b : Array UInt8) : (latOf b).length = b.size := by show (b.map _).size = _; simp
section
variable {b : Array UInt8} {t : Tok}
theorem meets_text_l {t1 t2 : Tok} {d : PySem.Str} (hz : b.size ≤ sizeLine) :
    Meets («_codecs.decode.text» ⟨[.bytes b t, .str (PySem.Str.ofString "latin1") t1, .none, .str d t2], []⟩) (fun _ R s => R (.ok (.ret (.str (latOf b) s.toks))) { s with toks := s.toks + 1 }) := by
  refine .of_wp fun prog w A R s h => ?_
  show wpAny _ _ (Bytes.bytesLike _ (.bytes b t) >>= fun r => _) _ _ s
  refine wpAny_bind (wpAny_of_eq KBd.like_eq ?_)
  refine wpAny_bind (wpAny_of_eq KBd.held_eq ?_)
  show wpAny _ _ (_codecs.decodeRoad _ b (PySem.Str.ofString "latin1") none [] >>= fun v => _) _ _ s
  rw [road_l, lat_run _ _ hz]
  refine wpAny_bind (wpAny_bind (wpAny_pure ?_))
  exact wpAny_mkStr (wpAny_pure ⟨_, rfl, h⟩) (by show (latOf b).length ≤ _; rw [latOf_length]; exact hz)
theorem meets_decode_l {k : Tok} (hz : b.size ≤ sizeLine) :
    Meets («bytes.decode» ⟨[.bytes b t], [("encoding", .str (PySem.Str.ofString "latin1") k)]⟩) (fun _ R s => ∀ t' k', R (.ok (.ret (.str (latOf b) t'))) { s with toks := k' }) := by
  refine .of_wp fun prog w A R s h => ?_
  rcases b with ⟨bs⟩
  cases bs with
  | nil =>
    unfold «bytes.decode» Bytes.decodeM
    dsimp only
    refine wpAny_bind (wpAny_of_eq (a := [some (.str (PySem.Str.ofString "latin1") k), none]) (by kernel_rfl) ?_)
    dsimp only
    refine wpAny_bind (wpAny_of_eq (a := ()) (by kernel_rfl) ?_)
    refine wpAny_bind (wpAny_of_eq (a := ()) (by kernel_rfl) ?_)
    refine bm_if_false (by decide) ?_
    refine wpAny_bind (wpAny_pure ?_)
    refine bm_if_true rfl ?_
    refine wpAny_bind (wpAny_rule ?_)
    refine wpAny_bind (wpAny_mkStr ?_ (by decide))
    have e : Str.empty = latOf ⟨[]⟩ := by simp [latOf, Str.empty]
    exact wpAny_pure ⟨_, rfl, (by rw [e]; exact h s.toks (s.toks + 1))⟩
  | cons c cs =>
    rw [entry_l]
    refine wpAny_bind (wpAny_mkStr ?_ (by decide))
    refine wpAny_bind (wpAny_mkStr ?_ (by decide))
    refine wpAny_bind (wpAny_mkStr ?_ (by decide))
    exact wpAny_bind (call_function_meets KBd.kind_text KBd.plain_text KBd.entry_text (KBd.args_text _ _ _ _) (meets_text_l hz) (wpAny_pure ⟨_, rfl, h _ _⟩))
end
section
variable {prog : Program} {w : World} {A : Around} {E : Value → Shared → Prop} {s : Shared} {b : Array UInt8} {t k : Tok}
theorem callKw_meets {T : String} {name : Str} {id : String} {B : Builtin} {self : Value} {rest : List Value} {kw : List (Str × Value)} {S : PySem.Spec} {Q : Value → Shared → Prop} (slot : Slot T name id) (hT : s.TypeIs self T)
    (entry : entryFor table id = some B) (args : argsOk id ⟨self :: rest, kw⟩) (g : Meets (B ⟨self :: rest, kw⟩) S) (h : S A (wants Q E) s) :
    wpAny (model prog w) A (call (.builtin id) (self :: rest) kw) Q E s :=
  wpAny_call (codeAny_call_builtin slot.plain entry (slot.check _ _ _ _ _ _ _ _ hT args (g prog w A (wants Q E) s h)))
theorem meets_new_l (hz : b.size ≤ sizeLine) : Meets («str.__new__» ⟨[.type "str", .bytes b t, .str (Str.ofString "latin1") k], []⟩) (fun _ R s => ∀ t' k', R (.ok (.ret (.str (latOf b) t'))) { s with toks := k' }) := by
  refine .of_wp fun prog w A R s h => ?_
  unfold «str.__new__»
  dsimp only
  refine wpAny_bind (wpAny_of_eq (a := true) rfl ?_)
  refine bm_if_false rfl ?_
  refine wpAny_bind (wpAny_of_eq isSubtype_str_str ?_)
  refine bm_if_false rfl ?_
  refine bm_if_false rfl ?_
  refine wpAny_bind (wpAny_of_eq (a := [some (.bytes b t), some (.str (Str.ofString "latin1") k), none]) (by kernel_rfl) ?_)
  dsimp only
  refine wpAny_bind (wpAny_of_eq (a := some (Str.ofString "latin1")) (by kernel_rfl) ?_)
  refine wpAny_bind (wpAny_of_eq (a := none) (by kernel_rfl) ?_)
  refine bm_if_false rfl ?_
  refine wpAny_bind ?_
  refine wpAny_bind (wpAny_bind (wpAny_mkStr (wpAny_pure ?_) (by decide)))
  refine wpAny_bind (wpAny_pure ?_)
  refine wpAny_bind (wpAny_isInstance (typeIs_bytes _ _ _) F.bm_sub ?_)
  refine bm_if_true rfl ?_
  refine callKw_meets FB.slot_bytes_decode (typeIs_bytes _ _ _) FB.entry_bytes_decode (args_l _ _ _) (meets_decode_l hz) ?_
  intro t' k'
  refine bm_if_true rfl ?_
  exact wpAny_bind (wpAny_pure (wpAny_pure ⟨_, rfl, h _ _⟩))
theorem str_latin {Q : Value → Shared → Prop} (hz : b.size ≤ sizeLine) (h : ∀ t' k', Q (.str (latOf b) t') { s with toks := k' }) : wpAny (model prog w) A (call (.type "str") [.bytes b t, .str (Str.ofString "latin1") k]) Q E s :=
  callType_new F.called_str (by decide) (typeCall_l _ _ _) (newCall_l _ _ _) (fun obj => init_l obj _ _) F.entry_str_new
    (meets_new_l hz) fun t' k' => ⟨typeIs_str _ _ _, h _ _⟩
theorem latOf_tx (b : Array UInt8) {l : List Nat} (h : b.toList.map (·.toNat) = l) : latOf b = tx l := by subst h; simp only [latOf, tx]; congr 1; apply Array.ext'; simp
theorem str_latin_tx {Q : Value → Shared → Prop} {l : List Nat} (hb : b.toList.map (·.toNat) = l) (hz : l.length ≤ sizeLine) (h : ∀ t' k', Q (.str (tx l) t') { s with toks := k' }) : wpAny (model prog w) A (call (.type "str") [.bytes b t, .str (Str.ofString "latin1") k]) Q E s :=
  str_latin (by rw [← hb] at hz; simpa using hz) (by rw [latOf_tx b hb]; exact h)
end
end
end Mine
end
section
open PySem PySem.W PySem.Calls PySem.Spec PyProof.Rows
set_option Elab.async false
set_option maxRecDepth 100000
set_option linter.unusedVariables false
namespace Mine

theorem frames_call {A : Around} {C : Addr} {args : List Value} {l : List Env} (hA : A.frames = some l) : (A.under (.builtin "type.__call__" ⟨.ref C :: args, []⟩)).frames = some l := by
  obtain ⟨hd, d, fr, gs, u⟩ := A
  cases hA
  rfl
section
variable {prog : Program} {w : World} {A : Around} {E : Value → Shared → Prop} {s : Shared} {K : Frag} {C f : Addr} {hb : Heap} {L : Addr} {m : Str → Option Value} {p : Program} {loose : List Str} {mean : ExcName → Option Value} {mg mb : Str → Option Value}
  {env : Env} {outer : List Env}
end

end Mine
end
section
open PySem PySem.W PySem.Calls PySem.Spec PyProof.Rows
set_option Elab.async false
set_option maxRecDepth 100000
set_option linter.unusedVariables false
namespace Mine
section
variable {prog : Program} {w : World} {A : Around} {E : Value → Shared → Prop} {s : Shared} {h₀ : Heap} {L : Addr} {m : Str → Option Value} {env : Env} {elt iter : Expr} {x : Str} {px pos : Pos} {scope : Scope} {cl : List (Str × Addr)}
  {news : List (Addr × Obj)} {n : Nat} {P G : Nat → Value → Prop} {S : List (Addr × Obj) → Prop} {Fin : List Value → List (Addr × Obj) → Prop}

end
end Mine
end
section
open PySem PySem.W PySem.Calls PySem.Spec PyProof.Rows
set_option Elab.async false
set_option maxRecDepth 100000
set_option linter.unusedVariables false
namespace Mine

section
variable {prog : Program} {w : World} {A : Around} {E : Value → Shared → Prop} {Q : Flow → Shared → Prop} {s : Shared} {env : Env} {hb : Heap} {L : Addr} {outer : List Env} {frs0 frs : List (Addr × Obj)}

theorem fram0 : Fram [] [] [] := ⟨trivial, TI.SameUp.refl _⟩
end
end Mine
end
section
open PySem PySem.W PySem.Calls PySem.Spec PyProof.Rows
set_option Elab.async false
set_option maxRecDepth 100000
set_option linter.unusedVariables false
set_option pp.maxSteps 600
namespace Mine

theorem bytes_of (l : List Nat) (h : ∀ c ∈ l, c < 256) : (byteArr (l.map fun (c : Nat) => (c : Int))).toList.map (·.toNat) = l := by
  simp only [byteArr, List.map_map]
  conv => rhs; rw [← List.map_id l]
  refine List.map_congr_left fun c hc => ?_
  have := h c hc
  show ((c : Int).toNat.toUInt8).toNat = c
  simp
  omega

section
variable {prog : Program} {w : World} {A : Around} {E : Value → Shared → Prop} {s : Shared} {hb : Heap} {L D : Addr} {m : Str → Option Value} {led : List (Addr × Obj)} {ys : List Value} {l : List Nat}
end
section
variable {prog : Program} {w : World} {A : Around} {E : Value → Shared → Prop} {s : Shared} {env : Env}
end

section
variable {prog : Program} {w : World} {A : Around} {E : Value → Shared → Prop} {s : Shared} {hb : Heap} {L D : Addr} {m : Str → Option Value} {led : List (Addr × Obj)} {ys : List Value} {cs : List (List Nat)} {l : List Nat} {t : Tok}
end
section
variable {prog : Program} {w : World} {A : Around} {E : Value → Shared → Prop} {s : Shared}
end
section
variable {prog : Program} {w : World} {A : Around} {E : Value → Shared → Prop} {s : Shared} {t : Tok} {c : List Nat} {Q : Value → Shared → Prop}
end
end Mine
end
section
open PySem PySem.W PySem.Calls PySem.Spec PyProof.Rows
set_option Elab.async false
set_option maxRecDepth 100000
set_option linter.unusedVariables false
set_option pp.maxSteps 600
namespace Mine
section
open PySem.Builtin PySem.Builtin.Str
end
section
variable {prog : Program} {w : World} {A : Around} {E : Value → Shared → Prop} {s : Shared} {hb : Heap} {L : Addr} {m : Str → Option Value} {led : List (Addr × Obj)} {l : List Nat} {t : Tok} {value slice : Expr} {Q : Value → Shared → Prop}
end
end Mine
end
section
open PySem PySem.W PySem.Calls PySem.Spec PyProof.Rows
set_option Elab.async false
set_option maxRecDepth 100000
set_option linter.unusedVariables false
namespace Mine

inductive V where
  | none
  | bool (b : Bool)
  | int (i : Int)
  | str (l : List Nat)
  | bytes (l : List Nat)
  | ref (a : Addr)
  | cv (v : Value)

noncomputable def VR : V → Value → Prop
  | .none, c => c = Value.none
  | .bool b, c => c = .bool b
  | .int i, c => ∃ t, c = .int i t
  | .str l, c => ∃ t, c = .str (tx l) t
  | .bytes l, c => ∃ b t, c = .bytes b t ∧ b.toList.map (·.toNat) = l
  | .ref a, c => c = .ref a
  | .cv v, c => c = v

inductive VRs : List V → List Value → Prop
  | nil : VRs [] []
  | cons {v c vs cs} : VR v c → VRs vs cs → VRs (v :: vs) (c :: cs)
theorem VRs.length {vs : List V} {cs : List Value} (h : VRs vs cs) : vs.length = cs.length := by
  induction h with
  | nil => rfl
  | cons _ _ ih => exact congrArg Nat.succ ih
theorem VRs.append {vs vs' : List V} {cs cs' : List Value} (h : VRs vs cs) (h' : VRs vs' cs') : VRs (vs ++ vs') (cs ++ cs') := by
  induction h with
  | nil => exact h'
  | cons a _ ih => exact .cons a ih
theorem VRs.one {v : V} {c : Value} (h : VR v c) : VRs [v] [c] := .cons h .nil
theorem VRs.get' {vs : List V} {cs : List Value} (h : VRs vs cs) : ∀ (i : Nat) (c : Value), cs[i]? = some c → ∃ v, vs[i]? = some v ∧ VR v c := by
  induction h with
  | nil => exact fun i v h => absurd h (by rw [List.getElem?_nil]; exact nofun)
  | cons a _ ih =>
    intro i v h
    cases i with
    | zero => exact ⟨_, rfl, Option.some.inj h ▸ a⟩
    | succ i => exact ih i v h

inductive Ob where
  | list (vs : List V)
  | tup (vs : List V)
  | inst (C d : Addr)
  | dct (es : List (Str × V))
  | set (fz : Bool) (cs : List (List Nat))
  | fd (f : List Nat → V) (K : List Nat → Prop) (n : Nat)
  | exc (cls : Value) (d : Option Addr) (arg : Option V)
  | xnew (cls : Value) (d : Option Addr) (arg : V)
  | cell (v : V)
  | rng (a b : Int)
  | raw (o : Obj)

inductive ERs (P : Params) : List (Str × V) → List DictEntry → Prop
  | nil : ERs P [] []
  | cons {k v t c es cs} : VR v c → ERs P es cs → ERs P ((k, v) :: es) (⟨PyData.keyHash P k, .str k t, c⟩ :: cs)

structure SeAt (P : Params) (fz : Bool) (cs : List (List Nat)) (o : Obj) (prog : Program) (w : World) (es : Array (Int × Value)) (ep : Nat) (t : SetTable) : Prop where
  wp : w.params = P
  ho : o = { cls := .type (cond fz "frozenset" "set"), data := .set es ep t }
  he : ElemsOf (PySem.strKind prog w) es.toList
  hm : ∀ k, (∃ e ∈ es.toList, (PySem.strKind prog w).is k e.2 = true) ↔ ∃ l ∈ cs, k = tx l
  hn : es.size ≤ cs.length
  hf : t.fits es.size = true
noncomputable def SeR (P : Params) (fz : Bool) (cs : List (List Nat)) (o : Obj) : Prop := ∃ prog w es ep t, SeAt P fz cs o prog w es ep t
structure FdAt (P : Params) (f : List Nat → V) (K : List Nat → Prop) (n : Nat) (o : Obj) (prog : Program) (w : World) (kvs : List (Str × Value)) : Prop where
  wp : w.params = P
  d : o.IsDictOf (PySem.strKind prog w) kvs
  hn : kvs.length ≤ n
  hf : ∀ p ∈ kvs, ∃ l, p.1 = tx l ∧ VR (f l) p.2
  hk : ∀ l, K l → ∃ p ∈ kvs, p.1 = tx l
noncomputable def FdR (P : Params) (f : List Nat → V) (K : List Nat → Prop) (n : Nat) (o : Obj) : Prop := ∃ prog w kvs, FdAt P f K n o prog w kvs
noncomputable def obR (P : Params) : Ob → Obj → Prop
  | .list vs, o => ∃ cs n, o = W.listOf cs.toArray n ∧ VRs vs cs
  | .tup vs, o => o.cls = .type "tuple" ∧ ∃ cs n, o.data = .seq cs.toArray n ∧ VRs vs cs
  | .inst C d, o => o = instObj C d
  | .dct es, o => ∃ cs n, o = dictOf cs n ∧ ERs P es cs
  | .set fz cs, o => SeR P fz cs o
  | .fd f K n, o => FdR P f K n o
  | .exc cls d arg, o => o.cls = cls ∧ (∀ dd, d = some dd → o.dict = some dd) ∧ ∃ a vs, o.data = .fields (#[a] ++ vs) ∧ vs.size = 5 ∧ (∀ v, arg = some v → VR v a) ∧ (d = none → vs[1]? = some .none)
  | .xnew cls d arg, o => o.cls = cls ∧ o.dict = d ∧ ∃ a, o.data = .fields #[a, .none, .none, .none, .bool false, .none] ∧ VR arg a
  | .cell v, o => ∃ c, o.data = .cell (some c) ∧ VR v c
  | .rng a b, o => ∃ t1 t2 t3, o = { cls := .type "range", dict := none, data := .fields #[.int a t1, .int b t2, .int 1 t3], slots := #[] }
  | .raw o', o => o = o'

inductive ORs (P : Params) : List (Addr × Ob) → List (Addr × Obj) → Prop
  | nil : ORs P [] []
  | cons {a b o bs os} : obR P b o → ORs P bs os → ORs P ((a, b) :: bs) ((a, o) :: os)
theorem ORs.append {P : Params} {bs bs' : List (Addr × Ob)} {os os' : List (Addr × Obj)} (h : ORs P bs os) (h' : ORs P bs' os') : ORs P (bs ++ bs') (os ++ os') := by
  induction h with
  | nil => exact h'
  | cons a _ ih => exact .cons a ih
theorem ORs.split {P : Params} {bs bs' : List (Addr × Ob)} : ∀ {os : List (Addr × Obj)}, ORs P (bs ++ bs') os → ∃ o1 o2, os = o1 ++ o2 ∧ ORs P bs o1 ∧ ORs P bs' o2 := by
  induction bs with
  | nil => exact fun h => ⟨[], _, rfl, .nil, h⟩
  | cons b bs ih =>
    intro os h
    cases h with
    | cons a r =>
      obtain ⟨o1, o2, rfl, h1, h2⟩ := ih r
      exact ⟨_ :: o1, o2, rfl, .cons a h1, h2⟩
theorem ORs.mem {P : Params} {bs : List (Addr × Ob)} {os : List (Addr × Obj)} (q : ORs P bs os) {a : Addr} {b : Ob} : (a, b) ∈ bs → ∃ o, (a, o) ∈ os ∧ obR P b o := by
  induction q with
  | nil => exact fun h => absurd h List.not_mem_nil
  | cons x _ ih =>
    intro h
    rcases List.mem_cons.mp h with e | h
    · cases e; exact ⟨_, .head _, x⟩
    · exact (ih h).imp fun o h => ⟨.tail _ h.1, h.2⟩

noncomputable abbrev Loc := List (Option V)
noncomputable abbrev Obs := List (Addr × Ob)
noncomputable abbrev Nms := List (Str × NameKind)

inductive Has : Nms → Loc → Str → V → Prop
  | here {x v ns lo} : Has ((x, .local) :: ns) (some v :: lo) x v
  | there {x v p u ns lo} : Has ns lo x v → Has (p :: ns) (u :: lo) x v
inductive Put : Nms → Loc → Str → Option V → Loc → Prop
  | here {x v u ns lo} : Put ((x, .local) :: ns) (u :: lo) x v (v :: lo)
  | there {x v p u ns lo lo'} : Put ns lo x v lo' → Put (p :: ns) (u :: lo) x v (u :: lo')
theorem Has.mem {ns : Nms} {lo : Loc} {x : Str} {v : V} (h : Has ns lo x v) : (x, NameKind.local) ∈ ns := by
  induction h with
  | here => exact .head _
  | there _ ih => exact .tail _ ih
theorem Put.mem {ns : Nms} {lo lo' : Loc} {x : Str} {v : Option V} (h : Put ns lo x v lo') : (x, NameKind.local) ∈ ns := by
  induction h with
  | here => exact .head _
  | there _ ih => exact .tail _ ih
theorem lookup_of_mem {ns : Nms} {x : Str} (hn : (ns.map (·.1)).Nodup) (h : (x, NameKind.local) ∈ ns) : ns.lookup x = some .local := by
  induction ns with
  | nil => cases h
  | cons p r ih =>
    obtain ⟨y, k⟩ := p
    rw [List.map_cons, List.nodup_cons] at hn
    rcases List.mem_cons.mp h with e | h
    · cases e; simp [List.lookup]
    · have : x ≠ y := fun e => hn.1 (by rw [← e]; exact List.mem_map_of_mem (f := (·.1)) h)
      rw [List.lookup_cons]
      have e : (x == y) = false := by simpa using this
      rw [e]
      exact ih hn.2 h
theorem Has.inv {q : Str × NameKind} {w : Option V} {ns : Nms} {lo : Loc} {x : Str} {v : V} (h : Has (q :: ns) (w :: lo) x v) : (q.1 = x ∧ w = some v) ∨ Has ns lo x v := by
  cases h with
  | here => exact .inl ⟨rfl, rfl⟩
  | there h => exact .inr h
theorem Put.has {ns : Nms} {lo lo' : Loc} {x : Str} {v : Option V} (hn : (ns.map (·.1)).Nodup) (h : Put ns lo x v lo') {y : Str} {u : V} (g : Has ns lo' y u) : (y = x ∧ v = some u) ∨ (y ≠ x ∧ Has ns lo y u) := by
  induction h with
  | here =>
    rw [List.map_cons, List.nodup_cons] at hn
    rcases g.inv with ⟨e1, e2⟩ | g
    · exact .inl ⟨e1.symm, e2⟩
    · exact .inr ⟨fun e => hn.1 (by rw [← e]; exact List.mem_map_of_mem (f := (·.1)) g.mem), .there g⟩
  | there h ih =>
    rw [List.map_cons, List.nodup_cons] at hn
    cases g with
    | here => exact .inr ⟨fun e => hn.1 (by rw [e]; exact List.mem_map_of_mem (f := (·.1)) h.mem), .here⟩
    | there g => exact (ih hn.2 g).imp id fun q => ⟨q.1, .there q.2⟩

noncomputable def LR (ns : Nms) (lo : Loc) (m : Str → Option Value) : Prop := ∀ x v, Has ns lo x v → ∃ c, m x = some c ∧ VR v c

set_option genInjectivity false in
structure G where
  prog : Program
  w : World
  K : Frag
  hb : Heap
  p : Program
  loose : List Str
  mean : ExcName → Option Value
  mg : Str → Option Value
  mb : Str → Option Value
  os0 : OsState
  gens0 : Array GenState
structure G.Ok (g : G) : Prop where
  X : g.K.In g.hb
  T : Top g.p g.loose g.mean g.mg g.mb g.hb
noncomputable abbrev G.M (g : G) : Model := model g.prog g.w

inductive InN : Nms → Str → NameKind → Prop
  | here {x k ns} : InN ((x, k) :: ns) x k
  | there {x k p ns} : InN ns x k → InN (p :: ns) x k
theorem InN.mem {ns : Nms} {x : Str} {k : NameKind} (h : InN ns x k) : (x, k) ∈ ns := by
  induction h with
  | here => exact .head _
  | there _ ih => exact .tail _ ih
theorem InN.lookup {ns : Nms} {x : Str} {k : NameKind} (h : InN ns x k) (hn : (ns.map (·.1)).Nodup) : ns.lookup x = some k := by
  induction h with
  | here => simp [List.lookup]
  | @there x k p ns h ih =>
    obtain ⟨y, k'⟩ := p
    rw [List.map_cons, List.nodup_cons] at hn
    have : x ≠ y := fun e => hn.1 (by rw [← e]; exact List.mem_map_of_mem (f := (·.1)) h.mem)
    rw [List.lookup_cons]
    have e : (x == y) = false := by simpa using this
    rw [e]
    exact ih hn.2

set_option genInjectivity false in
structure Cx where
  g : G
  B : Around
  env : Env
  fenv : Env
  ns : Nms
  outer : List Env
  frs0 : List (Addr × Obj)
  rest : List (Addr × Obj)
  cv : Option (List (Str × V))
  d : Nat
noncomputable abbrev Cx.L (c : Cx) : Addr := c.fenv.locals

structure Cx.Ok (c : Cx) : Prop where
  g : c.g.Ok
  fr : c.B.frames = some (c.fenv :: c.outer)
  fns : c.fenv.scope.names = c.ns
  nd : (c.ns.map (·.1)).Nodup
  fframe : c.fenv.frame = some c.fenv.locals
  fkind : c.fenv.scope.kind = .function
  frame : c.env.frame = c.fenv.frame
  kind : c.env.scope.kind = .function
  glob : c.env.globals = mainGlobals
  blt : c.env.builtins = builtinsNs
  nd' : (c.env.scope.names.map (·.1)).Nodup
  room : c.B.depth + c.d < recursionLimit
  un : c.B.units + 4 * c.d + 100 < cLine
  fn : c.cv = none → c.env = c.fenv
  cm : ∀ kv, c.cv = some kv → ∃ oC m, (c.env.locals, oC) ∈ c.rest ∧ LCg.NsObj oC m ∧ ∀ p ∈ kv, ∃ v, m p.1 = some v ∧ VR p.2 v
  fv : ∀ x, c.env.scope.names.lookup x = some .cell → ∀ a, c.fenv.cells.lookup x = some a → c.env.cells.lookup x = some a

noncomputable def Og (s s' : Shared) : Prop := s'.os = s.os ∧ s'.gens = s.gens
theorem Og.tr {s s' : Shared} {a : OsState} {b : Array GenState} (h : Og s s') (x : s.os = a ∧ s.gens = b) : s'.os = a ∧ s'.gens = b := ⟨h.1.trans x.1, h.2.trans x.2⟩
structure NowAt (c : Cx) (z : List (Addr × Obj)) (lo : Loc) (ob : Obs) (s : Shared) (m : Str → Option Value) (os frs : List (Addr × Obj)) : Prop where
  F : Fr c.g.hb c.L s.heap m
  lr : LR c.ns lo m
  rs : ORs c.g.w.params ob os
  N : News c.g.hb c.L s.heap (os ++ ((c.rest ++ z) ++ frs))
  nd : ((os ++ (c.rest ++ z)).map (·.1)).Nodup
  fm : Fram c.outer c.frs0 frs
  ap : Apt ((os ++ (c.rest ++ z)).map (·.1)) c.frs0
  og : s.os = c.g.os0 ∧ s.gens = c.g.gens0
noncomputable def Now (c : Cx) (z : List (Addr × Obj)) (lo : Loc) (ob : Obs) (s : Shared) : Prop := ∃ m os frs, NowAt c z lo ob s m os frs

noncomputable def TbOk (c : Cx) (as : List Addr) (h : Heap) (a : Addr) : Prop := ∃ oe vs, h.get? a = some oe ∧ oe.data = .fields vs ∧
  (vs[1]? = some .none ∨ ∃ b ot ts, vs[1]? = some (.ref b) ∧ h.get? b = some ot ∧ ot.data = .fields ts ∧ 3 < ts.size ∧ b ≠ c.L ∧ c.g.hb.get? b = none ∧ b ∉ as)
noncomputable def Exc (c : Cx) (z : List (Addr × Obj)) (a : Addr) (lo : Loc) (ob : Obs) (s : Shared) : Prop := (∃ cls d arg, (a, Ob.exc cls d arg) ∈ ob) ∧ ∃ m os frs, NowAt c z lo ob s m os frs ∧ TbOk c ((os ++ ((c.rest ++ z) ++ frs)).map (·.1)) s.heap a

noncomputable abbrev QT (β : Type) := β → Loc → Obs → Prop
noncomputable def LQ {α β : Type} (c : Cx) (z : List (Addr × Obj)) (rel : β → α → Prop) (Q : QT β) : α → Shared → Prop := fun a s => ∃ b lo ob, rel b a ∧ Now c z lo ob s ∧ Q b lo ob
noncomputable def LX (c : Cx) (z : List (Addr × Obj)) (X : QT Addr) : Value → Shared → Prop := fun e s => ∃ a lo ob, e = .ref a ∧ Exc c z a lo ob s ∧ X a lo ob

noncomputable def W {α β : Type} (c : Cx) (rel : β → α → Prop) (t : Sem α) (Q : QT β) (X : QT Addr) (lo : Loc) (ob : Obs) : Prop :=
  ∀ z s, Now c z lo ob s → wpAny c.g.M c.B t (LQ c z rel Q) (LX c z X) s

section
variable {α β γ δ : Type} {c : Cx} {rel : β → α → Prop} {rel' : δ → γ → Prop} {t : Sem α} {Q Q' : QT β} {X X' : QT Addr} {lo : Loc} {ob : Obs}
theorem LQ.elim {z : List (Addr × Obj)} {a : α} {s : Shared} {P : Prop} (h : LQ c z rel Q a s) (k : ∀ b lo ob, rel b a → Now c z lo ob s → Q b lo ob → P) : P :=
  Exists.elim h fun b h => Exists.elim h fun lo h => Exists.elim h fun ob h => k b lo ob h.1 h.2.1 h.2.2
theorem LX.elim {z : List (Addr × Obj)} {e : Value} {s : Shared} {P : Prop} (h : LX c z X e s) (k : ∀ a lo ob, e = .ref a → Exc c z a lo ob s → X a lo ob → P) : P :=
  Exists.elim h fun b h => Exists.elim h fun lo h => Exists.elim h fun ob h => k b lo ob h.1 h.2.1 h.2.2
theorem thenQ {M : Model} {A : Around} {z : List (Addr × Obj)} {s : Shared} {R : α → Shared → Prop} {E : Value → Shared → Prop} (h : wpAny M A t (LQ c z rel Q) E s) (k : ∀ a s' b lo ob, rel b a → Now c z lo ob s' → Q b lo ob → R a s') : wpAny M A t R E s :=
  wpAny_mono h (fun a s' q => q.elim (k a s')) fun _ _ x => x
theorem W.mono (h : W c rel t Q X lo ob) (hQ : ∀ b lo ob, Q b lo ob → Q' b lo ob) (hX : ∀ b lo ob, X b lo ob → X' b lo ob) : W c rel t Q' X' lo ob := fun z s n =>
  wpAny_mono (h z s n) (fun a s' q => q.elim fun b lo ob h1 h2 h3 => ⟨b, lo, ob, h1, h2, hQ _ _ _ h3⟩) fun e s' q => q.elim fun a lo ob h1 h2 h3 => ⟨a, lo, ob, h1, h2, hX _ _ _ h3⟩
end

theorem NowAt.toks {c : Cx} {z : List (Addr × Obj)} {lo : Loc} {ob : Obs} {s : Shared} {m : Str → Option Value} {os frs : List (Addr × Obj)} (n : NowAt c z lo ob s m os frs) {s' : Shared} (e : s'.heap = s.heap) (hog : Og s s' := by exact ⟨rfl, rfl⟩) : NowAt c z lo ob s' m os frs :=
  ⟨e ▸ n.F, n.lr, n.rs, e ▸ n.N, n.nd, n.fm, n.ap, hog.tr n.og⟩
theorem Now.toks {c : Cx} {z : List (Addr × Obj)} {lo : Loc} {ob : Obs} {s : Shared} (n : Now c z lo ob s) {s' : Shared} (e : s'.heap = s.heap) (hog : Og s s' := by exact ⟨rfl, rfl⟩) : Now c z lo ob s' := by
  obtain ⟨m, os, frs, n⟩ := n
  exact ⟨m, os, frs, n.toks e hog⟩

end Mine
end
section
open PySem PySem.W PySem.Calls PySem.Spec PyProof.Rows
set_option Elab.async false
set_option maxRecDepth 100000
set_option linter.unusedVariables false
namespace Mine

noncomputable abbrev BR : Bool → Bool → Prop := fun b a => a = b
noncomputable abbrev UR : Unit → Unit → Prop := fun _ _ => True
inductive AF where
  | next | brk | cont
  | ret (v : V)
noncomputable def FR : AF → Flow → Prop
  | .next, f => f = .next
  | .brk, f => f = .brk
  | .cont, f => f = .cont
  | .ret v, f => ∃ c, f = .ret c ∧ VR v c

noncomputable def Op1 (c : Cx) (f : Value → Sem Value) (a : V) (Q : QT V) (X : QT Addr) (lo : Loc) (ob : Obs) : Prop := ∀ ca, VR a ca → W c VR (f ca) Q X lo ob
noncomputable def Op2 (c : Cx) (f : Value → Value → Sem Value) (a b : V) (Q : QT V) (X : QT Addr) (lo : Loc) (ob : Obs) : Prop := ∀ ca cb, VR a ca → VR b cb → W c VR (f ca cb) Q X lo ob
noncomputable abbrev Bin (c : Cx) (op : Operator) := Op2 c (binaryOp op)
noncomputable abbrev Inp (c : Cx) (op : Operator) := Op2 c (inplaceOp op)
noncomputable abbrev Cmp (c : Cx) (op : CmpOp) := Op2 c (compareOp op)
noncomputable abbrev Una (c : Cx) (op : UnaryOp) := Op1 c (unaryOp op)
noncomputable def Tru (c : Cx) (a : V) (Q : QT Bool) (X : QT Addr) (lo : Loc) (ob : Obs) : Prop := ∀ ca, VR a ca → W c BR (truthy ca) Q X lo ob
noncomputable def Cal (c : Cx) (f : V) (as : List V) (Q : QT V) (X : QT Addr) (lo : Loc) (ob : Obs) : Prop := ∀ cf cas, VR f cf → VRs as cas → W c VR (call cf cas) Q X lo ob
noncomputable def Sub2 (c : Cx) (value slice : Expr) (a b : V) (Q : QT V) (X : QT Addr) (lo : Loc) (ob : Obs) : Prop := ∀ ca cb, VR a ca → VR b cb → W c VR (subscriptTail value slice ca cb) Q X lo ob
noncomputable def Br (b : Bool) (P P' : Prop) : Prop := (b = true → P) ∧ (b = false → P')

section
variable {c : Cx} {lo : Loc} {ob : Obs} {X : QT Addr} {Q : QT V}
theorem LQ.mk {α β : Type} {z : List (Addr × Obj)} {rel : β → α → Prop} {Q : QT β} {a : α} {b : β} {s : Shared} (hr : rel b a) (n : Now c z lo ob s) (h : Q b lo ob) : LQ c z rel Q a s := ⟨b, lo, ob, hr, n, h⟩

theorem W_none {k : Nat} {p : Pos} (h : Q .none lo ob) : W c VR (eval (.Constant .none k p) c.env) Q X lo ob := fun z s n => (wpAny_pure (LQ.mk (rel := VR) (b := V.none) rfl n h) : wpAny _ _ (pure Value.none) _ _ _)
theorem W_bool {b : Bool} {k : Nat} {p : Pos} (h : Q (.bool b) lo ob) : W c VR (eval (.Constant (.bool b) k p) c.env) Q X lo ob := fun z s n => (wpAny_pure (LQ.mk (rel := VR) (b := V.bool b) rfl n h) : wpAny _ _ (pure (Value.bool b)) _ _ _)
theorem W_int {i : Int} {k : Nat} {p : Pos} (h : Q (.int i) lo ob) : W c VR (eval (.Constant (.int i) k p) c.env) Q X lo ob := fun z s n => (wpAny_mkInt (LQ.mk (rel := VR) (b := V.int i) ⟨_, rfl⟩ (n.toks rfl) h) : wpAny _ _ (mkInt i) _ _ _)
theorem W_str {x : Str} {l : List Nat} {k : Nat} {p : Pos} (e : x = tx l) (h : Q (.str l) lo ob) : W c VR (eval (.Constant (.str x) k p) c.env) Q X lo ob := fun z s n => by
  subst e
  exact (wpAny_mkText (LQ.mk (rel := VR) (b := V.str l) ⟨_, rfl⟩ (n.toks rfl) h) : wpAny _ _ (mkText (tx l)) _ _ _)
theorem Now.K {z : List (Addr × Obj)} {s : Shared} (ok : c.Ok) (n : Now c z lo ob s) : c.g.K.In s.heap := by
  refine of_gen fun _ kg => ?_
  obtain ⟨m, os, frs, n⟩ := n
  refine kg ?_
  exact ok.g.X.keeps n.F.keep

theorem W_local {x : Str} {v : V} {p : Pos} {ns : Nms} (ok : c.Ok) (hv : c.cv = none) (hns : c.ns = ns) (hx : Has ns lo x v) (h : Q v lo ob) (hd : (x == ("__debug__" : Str)) = false := by decide) : W c VR (eval (.Name x p) c.env) Q X lo ob := fun z s n => by
  subst hns
  refine of_gen fun _ kg => ?_
  obtain ⟨m, os, frs, n'⟩ := n
  obtain ⟨cv, hm, hr⟩ := n'.lr x v hx
  refine kg ?_
  have e := ok.fn hv
  refine wpAny_Name (wpAny_loadName_local (m := m) ok.kind ?_ ?_ hm (LQ.mk hr ⟨m, os, frs, n'⟩ h)) hd
  · rw [e]
    show c.fenv.scope.names.lookup x = _
    rw [ok.fns]
    exact lookup_of_mem ok.nd hx.mem
  · rw [e]; exact n'.F.ns
theorem W_comp {x : Str} {v : V} {p : Pos} {kv : List (Str × V)} {ns : Nms} (ok : c.Ok) (hv : c.cv = some kv) (hns : c.env.scope.names = ns) (hk : InN ns x .local) (hx : (x, v) ∈ kv) (h : Q v lo ob) (hd : (x == ("__debug__" : Str)) = false := by decide) : W c VR (eval (.Name x p) c.env) Q X lo ob := fun z s n => by
  subst hns
  refine of_gen fun _ kg => ?_
  obtain ⟨m, os, frs, n'⟩ := n
  obtain ⟨oC, m2, h1, h2, h3⟩ := ok.cm kv hv
  obtain ⟨cv, hm, hr⟩ := h3 _ hx
  refine kg ?_
  have hC := (n'.N _ (List.mem_append_right _ (List.mem_append_left _ (List.mem_append_left _ h1)))).1
  exact wpAny_Name (wpAny_loadName_local (m := m2) ok.kind (hk.lookup ok.nd') (h2.ns hC) hm (LQ.mk hr ⟨m, os, frs, n'⟩ h)) hd
theorem W_glob {x : Str} {v : Value} {p : Pos} {ns : Nms} (ok : c.Ok) (hns : c.env.scope.names = ns) (hk : InN ns x .globalImplicit) (hx : nsIn c.g.K mainGlobals x = some (some v)) {u : V} (hu : VR u v) (h : Q u lo ob) (hd : (x == ("__debug__" : Str)) = false := by decide) : W c VR (eval (.Name x p) c.env) Q X lo ob := fun z s n => by
  subst hns
  refine of_gen fun _ kg => ?_
  obtain ⟨m, os, frs, n'⟩ := n
  refine kg ?_
  refine Calls.Name_function_global ok.kind (hk.lookup ok.nd') (Calls.loadGlobal_global (mg := c.g.mg) ?_ (mg_of ok.g.X ok.g.T.g hx) (LQ.mk hu ⟨m, os, frs, n'⟩ h)) hd
  rw [ok.glob]; exact ok.g.T.g.keeps n'.F.keep
theorem W_blt {x : Str} {v : Value} {p : Pos} {ns : Nms} (ok : c.Ok) (hns : c.env.scope.names = ns) (hk : InN ns x .globalImplicit) (hx : nsIn c.g.K mainGlobals x = some none) (hb : bootBuiltins x = some v) {u : V} (hu : VR u v) (h : Q u lo ob) (hn : x ≠ "__name__" := by decide) (hd : (x == ("__debug__" : Str)) = false := by decide) : W c VR (eval (.Name x p) c.env) Q X lo ob := fun z s n => by
  subst hns
  refine of_gen fun _ kg => ?_
  obtain ⟨m, os, frs, n'⟩ := n
  refine kg ?_
  refine Calls.Name_function_global ok.kind (hk.lookup ok.nd') (Calls.loadGlobal_builtin (mg := c.g.mg) (mb := c.g.mb) ?_ (mg_none_of ok.g.X ok.g.T.g hx) ?_ ((ok.g.T.builtins x hn).trans hb) (LQ.mk hu ⟨m, os, frs, n'⟩ h)) hd
  · rw [ok.glob]; exact ok.g.T.g.keeps n'.F.keep
  · rw [ok.blt]; exact ok.g.T.b.keeps n'.F.keep

theorem W_BinOp {l r : Expr} {op : Operator} {p : Pos} (h : W c VR (eval l c.env) (fun a lo ob => W c VR (eval r c.env) (fun b lo ob => Bin c op a b Q X lo ob) X lo ob) X lo ob) : W c VR (eval (.BinOp l op r p) c.env) Q X lo ob := fun z s n =>
  wpAny_BinOp (thenQ (h z s n) fun ca s' a lo ob ha n h => thenQ (h z s' n) fun cb s' b lo ob hb n h => h ca cb ha hb z s' n)
theorem W_Unary {x : Expr} {op : UnaryOp} {p : Pos} (h : W c VR (eval x c.env) (fun a lo ob => Una c op a Q X lo ob) X lo ob) : W c VR (eval (.UnaryOp op x p) c.env) Q X lo ob := fun z s n =>
  (wpAny_bind (thenQ (h z s n) fun ca s' a lo ob ha n h => wpAny_bind (wpAny_standAt (wpAny_holding (h ca ha z s' n)))) : wpAny _ _ (eval x c.env >>= fun v => standAt p >>= fun _ => holding [v] (unaryOp op v)) _ _ _)

noncomputable abbrev Tst (c : Cx) (e : Expr) (Q : QT Bool) (X : QT Addr) (lo : Loc) (ob : Obs) : Prop := W c BR (isTrue e c.env (eval e c.env)) Q X lo ob
theorem W_IfExp {t a b : Expr} {p : Pos} (h : Tst c t (fun v lo ob => Br v (W c VR (eval a c.env) Q X lo ob) (W c VR (eval b c.env) Q X lo ob)) X lo ob) : W c VR (eval (.IfExp t a b p) c.env) Q X lo ob := fun z s n => by
  show wpAny _ _ (isTrue t c.env (eval t c.env) >>= fun v => if v = true then eval a c.env else eval b c.env) _ _ _
  refine wpAny_bind (thenQ (h z s n) fun cv s' v lo ob hv n h => ?_)
  subst hv
  cases cv
  · exact h.2 rfl z s' n
  · exact h.1 rfl z s' n
variable {QB : QT Bool}
theorem T_Compare {l r : Expr} {op : CmpOp} {p : Pos} (h : W c VR (eval l c.env) (fun a lo ob => W c VR (eval r c.env) (fun b lo ob => Cmp c op a b (fun v lo ob => Tru c v QB X lo ob) X lo ob) X lo ob) X lo ob) (hm : behindInMarks op r = false := by with_unfolding_all rfl) : Tst c (.Compare l [op] [r] p) QB X lo ob := fun z s n =>
  wpAny_isTrue_Compare1 (thenQ (h z s n) fun ca s' a lo ob ha n h => thenQ (h z s' n) fun cb s' b lo ob hb n h => thenQ (h ca cb ha hb z s' n) fun cv s' v lo ob hv n h => h cv hv z s' n) hm
theorem T_Not {x : Expr} {p : Pos} (h : Tst c x (fun b lo ob => QB (!b) lo ob) X lo ob) : Tst c (.UnaryOp .Not x p) QB X lo ob := fun z s n =>
  wpAny_isTrue_Not (thenQ (h z s n) fun cv s' v lo ob hv n h => by subst hv; exact ⟨_, lo, ob, rfl, n, h⟩)
theorem T_plain {e : Expr} (he : isTrue e c.env (eval e c.env) = (do let v ← eval e c.env; standAt e.pos; holding [v] (truthy v)) := by rfl) (h : W c VR (eval e c.env) (fun v lo ob => Tru c v QB X lo ob) X lo ob) : Tst c e QB X lo ob := fun z s n => by
  rw [he]
  exact wpAny_bind (thenQ (h z s n) fun ca s' a lo ob ha n h => wpAny_bind (wpAny_standAt (wpAny_holding (h ca ha z s' n))))
noncomputable def TstAll (c : Cx) (op : BoolOp) : List Expr → QT Bool → QT Addr → Loc → Obs → Prop
  | [], Q, _, lo, ob => Q (op == .And) lo ob
  | e :: r, Q, X, lo, ob => Tst c e (fun v lo ob => Br v (if op == .And then TstAll c op r Q X lo ob else Q true lo ob) (if op == .And then Q false lo ob else TstAll c op r Q X lo ob)) X lo ob
theorem T_all {op : BoolOp} : ∀ {es : List Expr} {lo : Loc} {ob : Obs}, TstAll c op es QB X lo ob → W c BR (allTrue op es c.env) QB X lo ob
  | [], lo, ob, h => fun z s n => (wpAny_pure (LQ.mk (rel := BR) (b := (op == .And)) rfl n h) : wpAny _ _ (pure (op == .And)) _ _ _)
  | e :: r, lo, ob, h => fun z s n => by
    show wpAny _ _ (isTrue e c.env (eval e c.env) >>= fun v => match op, v with | .And, false => pure false | .Or, true => pure true | _, _ => allTrue op r c.env) _ _ _
    refine wpAny_bind (thenQ (h z s n) fun cv s' v lo ob hv n h => ?_)
    subst hv
    cases op <;> cases cv
    · exact wpAny_pure (LQ.mk (rel := BR) (b := false) rfl n (h.2 rfl))
    · exact T_all (h.1 rfl) z s' n
    · exact T_all (h.2 rfl) z s' n
    · exact wpAny_pure (LQ.mk (rel := BR) (b := true) rfl n (h.1 rfl))
theorem T_BoolOp {op : BoolOp} {es : List Expr} {p : Pos} (h : TstAll c op es QB X lo ob) : Tst c (.BoolOp op es p) QB X lo ob := T_all h

noncomputable def Args (c : Cx) : List Expr → (List V → Loc → Obs → Prop) → QT Addr → Loc → Obs → Prop
  | [], Q, _, lo, ob => Q [] lo ob
  | e :: r, Q, X, lo, ob => W c VR (eval e c.env) (fun v lo ob => Args c r (fun vs lo ob => Q (v :: vs) lo ob) X lo ob) X lo ob
noncomputable def noStar : List Expr → Bool
  | [] => true
  | .Starred _ _ :: _ => false
  | _ :: r => noStar r
theorem starEach_of : ∀ {es : List Expr} {env : Env}, noStar es = true → starEach es env = es.map fun e => (false, eval e env)
  | [], _, _ => rfl
  | e :: r, env, h => by
    cases e <;> first | (cases h; done) | (show _ :: starEach r env = _; rw [starEach_of (by exact h)]; rfl)
theorem spliced_of {p : Pos} : ∀ {es : List Expr} {lo : Loc} {ob : Obs} {QS : QT (List V)}, Args c es QS X lo ob → W c VRs (spliced (backTo p (es.map fun e => (false, eval e c.env)))) QS X lo ob
  | [], lo, ob, QS, h => fun z s n => (wpAny_pure (LQ.mk (rel := VRs) (b := []) VRs.nil n h) : wpAny _ _ (pure []) _ _ _)
  | e :: r, lo, ob, QS, h => fun z s n => by
    refine Calls.spliced_cons (thenQ (h z s n) fun ca s' a lo ob ha n h => ?_)
    exact thenQ (spliced_of h z s' n) fun cs s' vs lo ob hvs n h => ⟨_, lo, ob, .cons ha hvs, n, h⟩
end
end Mine
end
section
open PySem PySem.W PySem.Calls PySem.Spec PyProof.Rows
set_option Elab.async false
set_option maxRecDepth 100000
set_option linter.unusedVariables false
namespace Mine

inductive OUpd (a : Addr) (b b' : Ob) : Obs → Obs → Prop
  | head {r} : OUpd a b b' ((a, b) :: r) ((a, b') :: r)
  | tail {p r r'} : OUpd a b b' r r' → OUpd a b b' (p :: r) (p :: r')

theorem upd_app {a : Addr} {o o' : Obj} : ∀ {l l' t : List (Addr × Obj)}, (∀ p ∈ t, p.1 ≠ a) → Upd a o o' l l' → Upd a o o' (l ++ t) (l' ++ t)
  | _, _, _, ht, .head h => .head fun p hp => (List.mem_append.mp hp).elim (h p) (ht p)
  | _, _, _, ht, .tail h r => .tail h (upd_app ht r)
theorem nodup_ne {a : Addr} {r : List Addr} (h : (a :: r).Nodup) : ∀ b ∈ r, b ≠ a := fun b hb e => (List.nodup_cons.mp h).1 (e ▸ hb)
theorem ORs.upd {P : Params} {a : Addr} {b b' : Ob} {ob ob' : Obs} {os : List (Addr × Obj)} (r : ORs P ob os) (u : OUpd a b b' ob ob') : (os.map (·.1)).Nodup →
    ∃ o, obR P b o ∧ (a, o) ∈ os ∧ ∀ o', obR P b' o' → ∃ os', Upd a o o' os os' ∧ ORs P ob' os' ∧ os'.map (·.1) = os.map (·.1) := by
  induction u generalizing os with
  | head =>
    cases r with
    | cons h r => exact fun hn => ⟨_, h, .head _, fun o' ho' => ⟨_, .head fun p hp => nodup_ne hn _ (List.mem_map_of_mem hp), .cons ho' r, rfl⟩⟩
  | tail u ih =>
    cases r with
    | cons h r =>
      exact fun hn => (ih r (List.nodup_cons.mp hn).2).imp fun o q => ⟨q.1, .tail _ q.2.1, fun o' ho' => (q.2.2 o' ho').elim fun os' t => ⟨_, .tail (fun e2 => nodup_ne hn a (List.mem_map_of_mem (f := (·.1)) q.2.1) e2.symm) t.1, .cons h t.2.1, congrArg (List.cons _) t.2.2⟩⟩

section
variable {c : Cx} {z : List (Addr × Obj)} {lo : Loc} {ob : Obs} {s : Shared} {m : Str → Option Value} {os frs : List (Addr × Obj)}
theorem NowAt.frs_lt (n : NowAt c z lo ob s m os frs) : ∀ p ∈ os ++ ((c.rest ++ z) ++ frs), p.1 < s.heap.objs.size := fun p hp => Heap.lt_size (n.N p hp).1
theorem NowAt.apt (n : NowAt c z lo ob s m os frs) : ∀ p ∈ os ++ (c.rest ++ z), ∀ q ∈ frs, q.1 ≠ p.1 := fun p hp q hq e => by
  refine n.ap p.1 (List.mem_map_of_mem (f := (·.1)) hp) ?_
  rw [← sameUp_addrs n.fm.su, ← e]
  exact List.mem_map_of_mem (f := (·.1)) hq
theorem NowAt.go (n : NowAt c z lo ob s m os frs) {s' : Shared} (F : Fr c.g.hb c.L s'.heap m) (N : News c.g.hb c.L s'.heap (os ++ ((c.rest ++ z) ++ frs))) (hog : Og s s' := by exact ⟨rfl, rfl⟩) : NowAt c z lo ob s' m os frs := ⟨F, n.lr, n.rs, N, n.nd, n.fm, n.ap, hog.tr n.og⟩
theorem NowAt.add (n : NowAt c z lo ob s m os frs) {s' : Shared} {D : Addr} {o : Obj} {b : Ob} (F : Fr c.g.hb c.L s'.heap m) (N : News c.g.hb c.L s'.heap ((D, o) :: (os ++ ((c.rest ++ z) ++ frs)))) (hb : obR c.g.w.params b o)
    (hD : ∀ p ∈ os ++ ((c.rest ++ z) ++ frs), p.1 ≠ D) (hog : Og s s' := by exact ⟨rfl, rfl⟩) : NowAt c z lo ((D, b) :: ob) s' m ((D, o) :: os) frs := by
  refine ⟨F, n.lr, .cons hb n.rs, N, ?_, n.fm, ?_, hog.tr n.og⟩
  · rw [List.cons_append, List.map_cons, List.nodup_cons]
    refine ⟨fun hm => ?_, n.nd⟩
    refine of_gen fun _ kg => ?_
    obtain ⟨p, hp, e⟩ := List.mem_map.mp hm
    refine kg ?_
    exact hD p (by rw [← List.append_assoc]; exact List.mem_append_left _ hp) e
  · intro a ha hm
    rw [List.cons_append, List.map_cons] at ha
    rcases List.mem_cons.mp ha with rfl | ha
    · rw [← sameUp_addrs n.fm.su] at hm
      refine of_gen fun _ kg => ?_
      obtain ⟨p, hp, e⟩ := List.mem_map.mp hm
      refine kg ?_
      exact hD p (List.mem_append_right _ (List.mem_append_right _ hp)) e
    · exact n.ap a ha hm
theorem NowAt.push (n : NowAt c z lo ob s m os frs) {s' : Shared} {o : Obj} {b : Ob} (hb : obR c.g.w.params b o) (e : s'.heap = s.heap.push o) (hf : o.isFreed = false := by rfl) (hog : Og s s' := by exact ⟨rfl, rfl⟩) : NowAt c z lo ((s.heap.objs.size, b) :: ob) s' m ((s.heap.objs.size, o) :: os) frs := by
  refine n.add (by rw [e]; exact n.F.push _) (by rw [e]; exact n.N.push n.F _ hf) hb (fun p hp => Nat.ne_of_lt (n.frs_lt p hp)) hog
theorem nd_left {α β : Type} {a b : List (α × β)} (h : ((a ++ b).map (·.1)).Nodup) : (a.map (·.1)).Nodup := by
  rw [List.map_append] at h
  exact (List.nodup_append.mp h).1
theorem NowAt.upd (n : NowAt c z lo ob s m os frs) {a : Addr} {b b' : Ob} {ob' : Obs} (u : OUpd a b b' ob ob') :
    ∃ o, obR c.g.w.params b o ∧ (a, o) ∈ os ∧ ∀ o', obR c.g.w.params b' o' → ∃ os', Upd a o o' (os ++ ((c.rest ++ z) ++ frs)) (os' ++ ((c.rest ++ z) ++ frs)) ∧
      ∀ s' : Shared, Og s s' → Fr c.g.hb c.L s'.heap m → News c.g.hb c.L s'.heap (os' ++ ((c.rest ++ z) ++ frs)) → NowAt c z lo ob' s' m os' frs := by
  refine of_gen fun _ kg => ?_
  obtain ⟨o, h1, hm, h2⟩ := n.rs.upd u (nd_left n.nd)
  refine kg ?_
  refine ⟨o, h1, hm, fun o' ho' => ?_⟩
  refine of_gen fun _ kg => ?_
  obtain ⟨os', u', r', e⟩ := h2 o' ho'
  refine kg ?_
  have e2 : (os' ++ (c.rest ++ z)).map (·.1) = (os ++ (c.rest ++ z)).map (·.1) := by rw [List.map_append, e, ← List.map_append]
  refine ⟨os', upd_app (fun p hp => ?_) u', fun s' hog F N => ⟨F, n.lr, r', N, by rw [e2]; exact n.nd, n.fm, by rw [e2]; exact n.ap, hog.tr n.og⟩⟩
  rcases List.mem_append.mp hp with hp | hp
  · have := n.nd
    rw [List.map_append, List.nodup_append] at this
    exact fun q => this.2.2 a (List.mem_map_of_mem (f := (·.1)) hm) p.1 (List.mem_map_of_mem (f := (·.1)) hp) q.symm
  · exact n.apt (a, o) (List.mem_append_left _ hm) p hp
theorem NowAt.mem (n : NowAt c z lo ob s m os frs) {a : Addr} {b : Ob} (h : (a, b) ∈ ob) : ∃ o, (a, o) ∈ os ∧ (a, o) ∈ os ++ ((c.rest ++ z) ++ frs) ∧ s.heap.get? a = some o ∧ obR c.g.w.params b o := by
  refine of_gen fun _ kg => ?_
  obtain ⟨o, h1, h2⟩ := n.rs.mem h
  refine kg ?_
  have h3 := List.mem_append_left ((c.rest ++ z) ++ frs) h1
  exact ⟨o, h1, h3, (n.N _ h3).1, h2⟩
end


section
variable {c : Cx} {z : List (Addr × Obj)} {lo : Loc} {ob : Obs} {Q : QT V} {s : Shared}
theorem LQ.none (n : Now c z lo ob s) (h : Q .none lo ob) : LQ c z VR Q Value.none s := ⟨V.none, lo, ob, rfl, n, h⟩
theorem LQ.bool {b : Bool} (n : Now c z lo ob s) (h : Q (.bool b) lo ob) : LQ c z VR Q (.bool b) s := ⟨V.bool b, lo, ob, rfl, n, h⟩
theorem LQ.bool' {b b' : Bool} (e : b' = b) (n : Now c z lo ob s) (h : Q (.bool b) lo ob) : LQ c z VR Q (.bool b') s := ⟨V.bool b, lo, ob, by rw [e]; rfl, n, h⟩
theorem LQ.int {i : Int} {t : Tok} (n : Now c z lo ob s) (h : Q (.int i) lo ob) : LQ c z VR Q (.int i t) s := ⟨V.int i, lo, ob, ⟨_, rfl⟩, n, h⟩
theorem LQ.str {l : List Nat} {t : Tok} (n : Now c z lo ob s) (h : Q (.str l) lo ob) : LQ c z VR Q (.str (tx l) t) s := ⟨V.str l, lo, ob, ⟨_, rfl⟩, n, h⟩
theorem LQ.bytes {l : List Nat} {b : Array UInt8} {t : Tok} (e : b.toList.map (·.toNat) = l) (n : Now c z lo ob s) (h : Q (.bytes l) lo ob) : LQ c z VR Q (.bytes b t) s := ⟨V.bytes l, lo, ob, ⟨_, _, rfl, e⟩, n, h⟩
theorem LQ.b {b : Bool} {Q : QT Bool} (n : Now c z lo ob s) (h : Q b lo ob) : LQ c z BR Q b s := ⟨b, lo, ob, rfl, n, h⟩
theorem LQ.b' {b b' : Bool} {Q : QT Bool} (e : b' = b) (n : Now c z lo ob s) (h : Q b lo ob) : LQ c z BR Q b' s := ⟨b, lo, ob, e, n, h⟩
end
section
variable {c : Cx} {lo : Loc} {ob : Obs} {X : QT Addr} {Q : QT V} {i j : Int} {a b : List Nat}
/- ints -/
theorem add_ints (h : Q (.int (i + j)) lo ob) : Bin c .Add (.int i) (.int j) Q X lo ob := by rintro _ _ ⟨t, rfl⟩ ⟨u, rfl⟩ z s n; exact PyProof.Rows.add_int (LQ.int (n.toks rfl) h)
theorem sub_ints (h : Q (.int (i - j)) lo ob) : Bin c .Sub (.int i) (.int j) Q X lo ob := by rintro _ _ ⟨t, rfl⟩ ⟨u, rfl⟩ z s n; exact PyProof.Rows.sub_int (LQ.int (n.toks rfl) h)
theorem mod_ints (hj : j ≠ 0) (h : Q (.int (i.fmod j)) lo ob) : Bin c .Mod (.int i) (.int j) Q X lo ob := by rintro _ _ ⟨t, rfl⟩ ⟨u, rfl⟩ z s n; exact PyProof.Rows.mod_int' hj (LQ.int (n.toks rfl) h)
theorem iadd_ints (h : Q (.int (i + j)) lo ob) : Inp c .Add (.int i) (.int j) Q X lo ob := by rintro _ _ ⟨t, rfl⟩ ⟨u, rfl⟩ z s n; exact PyProof.Rows.iadd_int (LQ.int (n.toks rfl) h)
theorem lt_ints (h : Q (.bool (decide (i < j))) lo ob) : Cmp c .Lt (.int i) (.int j) Q X lo ob := by rintro _ _ ⟨t, rfl⟩ ⟨u, rfl⟩ z s n; exact PyProof.Rows.lt_int (LQ.bool (n.toks rfl) h)
theorem eq_ints (h : Q (.bool (decide (i = j))) lo ob) : Cmp c .Eq (.int i) (.int j) Q X lo ob := by
  rintro _ _ ⟨t, rfl⟩ ⟨u, rfl⟩ z s n
  exact PyProof.Rows.eq_int (LQ.bool' (by by_cases q : i = j <;> simp [q]) (n.toks rfl) h)
theorem ne_ints (h : Q (.bool (decide (i ≠ j))) lo ob) : Cmp c .NotEq (.int i) (.int j) Q X lo ob := by
  rintro _ _ ⟨t, rfl⟩ ⟨u, rfl⟩ z s n
  exact PyProof.Rows.ne_int (LQ.bool' (by by_cases q : i = j <;> simp [q]) (n.toks rfl) h)
theorem neg_int (h : Q (.int (-i)) lo ob) : Una c .USub (.int i) Q X lo ob := by rintro _ ⟨t, rfl⟩ z s n; exact P.neg_int (LQ.int (n.toks rfl) h)
/- texts -/
theorem add_strs (hz : a.length + b.length ≤ 1000000) (h : Q (.str (a ++ b)) lo ob) : Bin c .Add (.str a) (.str b) Q X lo ob := by
  rintro _ _ ⟨t, rfl⟩ ⟨u, rfl⟩ z s n; exact tx_add (by rw [sizeLine_eq]; omega) fun t k => LQ.str (n.toks rfl) h
theorem iadd_strs (hz : a.length + b.length ≤ 1000000) (h : Q (.str (a ++ b)) lo ob) : Inp c .Add (.str a) (.str b) Q X lo ob := by
  rintro _ _ ⟨t, rfl⟩ ⟨u, rfl⟩ z s n; exact tx_iadd (by rw [sizeLine_eq]; omega) fun t k => LQ.str (n.toks rfl) h
theorem eq_strs (h : Q (.bool (decide (a = b))) lo ob) : Cmp c .Eq (.str a) (.str b) Q X lo ob := by rintro _ _ ⟨t, rfl⟩ ⟨u, rfl⟩ z s n; exact eq_tx (LQ.bool n h)
theorem isnot_none_none (h : Q (.bool false) lo ob) : Cmp c .IsNot .none .none Q X lo ob := by rintro _ _ rfl rfl z s n; exact wpAny_isNot_self (by rfl) (LQ.bool n h)
theorem isnot_str_none' (h : Q (.bool true) lo ob) : Cmp c .IsNot (.str a) .none Q X lo ob := by rintro _ _ ⟨t, rfl⟩ rfl z s n; exact isnot_str_none (LQ.bool n h)
/- truth -/
theorem tru_bool {b : Bool} {Q : QT Bool} (h : Q b lo ob) : Tru c (.bool b) Q X lo ob := by rintro _ rfl z s n; exact wpAny_truthy_bool (LQ.b n h)
theorem tru_int {Q : QT Bool} (h : Q (decide (i ≠ 0)) lo ob) : Tru c (.int i) Q X lo ob := by
  rintro _ ⟨t, rfl⟩ z s n
  exact P.truthy_int (LQ.b' (by by_cases q : i = 0 <;> simp [q]) n h)
end
end Mine
end
section
open PySem PySem.W PySem.Calls PySem.Spec PyProof.Rows
set_option Elab.async false
set_option maxRecDepth 100000
set_option linter.unusedVariables false
namespace Mine

noncomputable def Sto (c : Cx) (x : Str) (v : V) (Q : Loc → Obs → Prop) (X : QT Addr) (lo : Loc) (ob : Obs) : Prop := ∀ cv, VR v cv → W c UR (storeName c.env x cv) (fun _ => Q) X lo ob
noncomputable def Then (c : Cx) (r : List Stmt) (Q : QT AF) (X : QT Addr) : QT AF := fun f lo ob => match f with
  | .next => W c FR (execs r c.env) Q X lo ob
  | f => Q f lo ob

section
variable {c : Cx} {lo lo' : Loc} {ob : Obs} {X : QT Addr} {Q : QT AF} {r : List Stmt}
theorem NowAt.set {z : List (Addr × Obj)} {s : Shared} {m : Str → Option Value} {os frs : List (Addr × Obj)} (n : NowAt c z lo ob s m os frs) {x : Str} {v : Option V} {cv : Option Value} {h' : Heap} {tk : Nat} (ok : c.Ok) (p : Put c.ns lo x v lo')
    (hv : ∀ u, v = some u → ∃ cu, cv = some cu ∧ VR u cu) (hn : h'.Ns c.L (fun y => if y = x then cv else m y)) (hs : Heap.SameBut c.L s.heap h') : Now c z lo' ob { s with heap := h', toks := tk } := by
  refine ⟨_, os, frs, ⟨n.F.set hn hs, fun y u hy => ?_, n.rs, n.N.set hs, n.nd, n.fm, n.ap, n.og⟩⟩
  rcases p.has ok.nd hy with ⟨rfl, hu⟩ | ⟨hne, h⟩
  · obtain ⟨cu, e, hr⟩ := hv u hu
    exact ⟨cu, by rw [if_pos rfl]; exact e, hr⟩
  · obtain ⟨cu, e, hr⟩ := n.lr y u h
    exact ⟨cu, by rw [if_neg hne]; exact e, hr⟩
theorem Sto_local {x : Str} {v : V} {ns : Nms} {Q : Loc → Obs → Prop} (ok : c.Ok) (hv : c.cv = none) (hns : c.ns = ns) (p : Put ns lo x (some v) lo') (h : Q lo' ob) : Sto c x v Q X lo ob := by
  subst hns
  rintro cv hr z s
  intro hgr28_0
  refine of_gen fun _ kg => ?_
  obtain ⟨m, os, frs, n⟩ := hgr28_0
  refine kg ?_
  have e := ok.fn hv
  refine wpAny_storeName_local (m := m) ?_ ?_ (fun h' hn hs => ⟨(), lo', ob, trivial, n.set ok p (fun u hu => ⟨cv, rfl, by cases hu; exact hr⟩) (by rw [e] at hn; exact hn) (by rw [e] at hs; exact hs), h⟩) ?_
  · rw [e]
    show c.fenv.scope.names.lookup x = _
    rw [ok.fns]
    exact lookup_of_mem ok.nd p.mem
  · rw [e]; exact n.F.ns
  · rw [ok.kind]; rfl

noncomputable def Asg (c : Cx) (tg : Expr) (v : V) (Q : Loc → Obs → Prop) (X : QT Addr) (lo : Loc) (ob : Obs) : Prop := ∀ cv, VR v cv → W c UR (assign tg c.env cv) (fun _ => Q) X lo ob
theorem asg_name {x : Str} {px : Pos} {v : V} {Q : Loc → Obs → Prop} (h : Sto c x v Q X lo ob) : Asg c (.Name x px) v Q X lo ob := fun cv hv z s n => wpAny_assign_Name (h cv hv z s n)
theorem S_nil (h : Q .next lo ob) : W c FR (execs [] c.env) Q X lo ob := fun z s n => wpAny_execs_nil ⟨AF.next, lo, ob, rfl, n, h⟩
theorem S_cons {st : Stmt} (h : W c FR (exec st c.env) (Then c r Q X) X lo ob) : W c FR (execs (st :: r) c.env) Q X lo ob := fun z s n =>
  wpAny_execs_cons (thenQ (h z s n) fun f s' g lo ob hf n h => by
    cases g with
    | next => cases hf; exact h z s' n
    | brk => cases hf; exact ⟨AF.brk, lo, ob, rfl, n, h⟩
    | cont => cases hf; exact ⟨AF.cont, lo, ob, rfl, n, h⟩
    | ret v => obtain ⟨cv, rfl, hr⟩ := hf; exact ⟨AF.ret v, lo, ob, ⟨cv, rfl, hr⟩, n, h⟩)
theorem then_next (h : W c FR (execs r c.env) Q X lo ob) : Then c r Q X .next lo ob := h
theorem then_ret {v : V} (h : Q (.ret v) lo ob) : Then c r Q X (.ret v) lo ob := h
theorem then_brk (h : Q .brk lo ob) : Then c r Q X .brk lo ob := h
theorem S_Assign {x : Str} {px pos : Pos} {e : Expr} (h : W c VR (eval e c.env) (fun v lo ob => Sto c x v (Q .next) X lo ob) X lo ob)
    (hs : swapsWith e (some (.Name x px)) pos.line c.env = pure false := by rfl) : W c FR (exec (.Assign [.Name x px] e pos) c.env) Q X lo ob := fun z s n =>
  wpAny_Assign_Name (thenQ (h z s n) fun ca s' a lo ob ha n h => thenQ (h ca ha z s' n) fun _ s' _ lo ob _ n h => ⟨AF.next, lo, ob, rfl, n, h⟩) hs
theorem S_Aug {x : Str} {px pos : Pos} {op : Operator} {e : Expr} {ns : Nms} {old : V} (ok : c.Ok) (hv : c.cv = none) (hns : c.ns = ns) (hx : Has ns lo x old) (h : W c VR (eval e c.env) (fun v lo ob => Inp c op old v (fun u lo ob => Sto c x u (Q .next) X lo ob) X lo ob) X lo ob) :
    W c FR (exec (.AugAssign (.Name x px) op e pos) c.env) Q X lo ob := fun z s n => by
  subst hns
  refine of_gen fun _ kg => ?_
  obtain ⟨m, os, frs, n'⟩ := n
  obtain ⟨co, hm, hr⟩ := n'.lr x old hx
  refine kg ?_
  have e := ok.fn hv
  refine wpAny_AugAssign_Name (wpAny_loadName_local (m := m) ok.kind ?_ ?_ hm ?_)
  · rw [e]
    show c.fenv.scope.names.lookup x = _
    rw [ok.fns]
    exact lookup_of_mem ok.nd hx.mem
  · rw [e]; exact n'.F.ns
  · exact thenQ (h z s ⟨m, os, frs, n'⟩) fun ca s' a lo ob ha n h => thenQ (h co ca hr ha z s' n) fun cu s' u lo ob hu n h => thenQ (h cu hu z s' n) fun _ s' _ lo ob _ n h => ⟨AF.next, lo, ob, rfl, n, h⟩
theorem S_If {t : Expr} {a b : List Stmt} {pos : Pos} (h : Tst c t (fun v lo ob => Br v (W c FR (execs a c.env) Q X lo ob) (W c FR (execs b c.env) Q X lo ob)) X lo ob) : W c FR (exec (.If t a b pos) c.env) Q X lo ob := fun z s n =>
  wpAny_If (thenQ (h z s n) fun cv s' v lo ob hv n h => by
    subst hv
    cases cv
    · exact h.2 rfl z s' n
    · exact h.1 rfl z s' n)
theorem S_Return {e : Expr} {pos : Pos} (h : W c VR (eval e c.env) (fun v lo ob => Q (.ret v) lo ob) X lo ob) : W c FR (exec (.Return (some e) pos) c.env) Q X lo ob := fun z s n =>
  wpAny_Return_some (thenQ (h z s n) fun ca s' a lo ob ha n h => ⟨AF.ret a, lo, ob, ⟨ca, rfl, ha⟩, n, h⟩)
theorem S_Return0 {pos : Pos} (h : Q (.ret .none) lo ob) : W c FR (exec (.Return none pos) c.env) Q X lo ob := fun z s n => wpAny_Return_none ⟨AF.ret V.none, lo, ob, ⟨_, rfl, rfl⟩, n, h⟩
theorem S_Break {pos : Pos} (h : Q .brk lo ob) : W c FR (exec (.Break pos) c.env) Q X lo ob := fun z s n => (wpAny_bind (wpAny_standAt (wpAny_pure ⟨AF.brk, lo, ob, rfl, n, h⟩)) : wpAny _ _ (standAt pos >>= fun _ => pure Flow.brk) _ _ _)
theorem inter (ok : c.Ok) : interactive c.env = false := by
  unfold interactive
  rw [ok.kind]; rfl

end
end Mine
end
section
open PySem PySem.W PySem.Calls PySem.Spec PyProof.Rows
set_option Elab.async false
set_option maxRecDepth 100000
set_option linter.unusedVariables false
namespace Mine

theorem ORs.perm {P : Params} {ob ob2 : Obs} (p : ob.Perm ob2) : ∀ {os : List (Addr × Obj)}, ORs P ob os → ∃ os2, ORs P ob2 os2 ∧ os.Perm os2 := by
  induction p with
  | nil => intro os h; cases h; exact ⟨[], .nil, .nil⟩
  | cons x _ ih =>
    intro os h
    cases h with
    | cons a r =>
      obtain ⟨o2, h2, p2⟩ := ih r
      exact ⟨_, .cons a h2, .cons _ p2⟩
  | swap x y l =>
    intro os h
    cases h with
    | cons a r => cases r with
      | cons b r => exact ⟨_, .cons b (.cons a r), .swap _ _ _⟩
  | trans _ _ ih1 ih2 =>
    intro os h
    obtain ⟨o2, h2, p2⟩ := ih1 h
    obtain ⟨o3, h3, p3⟩ := ih2 h2
    exact ⟨o3, h3, p2.trans p3⟩

section
variable {c : Cx} {z z' : List (Addr × Obj)} {lo : Loc} {ob ob2 : Obs} {s : Shared} {m : Str → Option Value} {os os2 frs : List (Addr × Obj)}
theorem NowAt.re (n : NowAt c z lo ob s m os frs) (h : ORs c.g.w.params ob2 os2) (p : (os ++ (c.rest ++ z)).Perm (os2 ++ (c.rest ++ z'))) : NowAt c z' lo ob2 s m os2 frs := by
  refine ⟨n.F, n.lr, h, fun q hq => n.N q ?_, (p.map _).nodup_iff.mp n.nd, n.fm, fun a ha => n.ap a ((p.map _).mem_iff.mpr ha), n.og⟩
  rw [← List.append_assoc] at hq ⊢
  rcases List.mem_append.mp hq with hq | hq
  · exact List.mem_append_left _ (p.mem_iff.mpr hq)
  · exact List.mem_append_right _ hq
theorem NowAt.perm (n : NowAt c z lo ob s m os frs) (p : ob.Perm ob2) : ∃ os2, NowAt c z lo ob2 s m os2 frs ∧ os.Perm os2 := by
  obtain ⟨os2, h2, p2⟩ := n.rs.perm p
  exact ⟨os2, n.re h2 (p2.append_right _), p2⟩
theorem Now.perm (n : Now c z lo ob s) (p : ob.Perm ob2) : Now c z lo ob2 s := by
  obtain ⟨m, os, frs, n⟩ := n
  obtain ⟨os2, n2, _⟩ := n.perm p
  exact ⟨m, os2, frs, n2⟩
theorem perm_mid {α : Type} (a b r z : List α) : (a ++ b ++ (r ++ z)).Perm (a ++ (r ++ (b ++ z))) := by
  rw [List.append_assoc]
  refine List.Perm.append_left _ ?_
  rw [← List.append_assoc, ← List.append_assoc]
  exact List.Perm.append_right _ List.perm_append_comm
theorem NowAt.out {oth : Obs} (n : NowAt c z lo (ob ++ oth) s m os frs) : ∃ o1 o2, ORs c.g.w.params oth o2 ∧ os = o1 ++ o2 ∧ NowAt c (o2 ++ z) lo ob s m o1 frs := by
  obtain ⟨o1, o2, rfl, h1, h2⟩ := n.rs.split
  exact ⟨o1, o2, h2, rfl, n.re h1 (perm_mid _ _ _ _)⟩
theorem NowAt.back {oth : Obs} {o2 : List (Addr × Obj)} (h : ORs c.g.w.params oth o2) (n : NowAt c (o2 ++ z) lo ob s m os frs) : NowAt c z lo (ob ++ oth) s m (os ++ o2) frs :=
  n.re (n.rs.append h) (perm_mid _ _ _ _).symm
theorem NowAt.drop (n : NowAt c z lo ob s m os frs) (h : ORs c.g.w.params ob2 os2) (p : List.Sublist (os2 ++ (c.rest ++ z')) (os ++ (c.rest ++ z))) : NowAt c z' lo ob2 s m os2 frs := by
  refine ⟨n.F, n.lr, h, fun q hq => n.N q ?_, n.nd.sublist (p.map _), n.fm, fun a ha => n.ap a ((p.map _).mem ha), n.og⟩
  rw [← List.append_assoc] at hq ⊢
  rcases List.mem_append.mp hq with hq | hq
  · exact List.mem_append_left _ (p.mem hq)
  · exact List.mem_append_right _ hq
theorem NowAt.less {a : List (Addr × Obj)} (n : NowAt c (a ++ z) lo ob s m os frs) : NowAt c z lo ob s m os frs :=
  n.drop n.rs (List.Sublist.append_left (List.Sublist.append_left (List.sublist_append_right _ _) _) _)
theorem Now.less {a : List (Addr × Obj)} (n : Now c (a ++ z) lo ob s) : Now c z lo ob s := by
  obtain ⟨m, os, frs, n⟩ := n
  exact ⟨m, os, frs, n.less⟩
theorem Now.at {p : Addr × Obj} (n : Now c z lo ob s) (h : p ∈ z) : s.heap.get? p.1 = some p.2 := by
  refine of_gen fun _ kg => ?_
  obtain ⟨m, os, frs, n⟩ := n
  refine kg ?_
  exact (n.N p (List.mem_append_right _ (List.mem_append_left _ (List.mem_append_right _ h)))).1
theorem TbOk.sub {as as' : List Addr} {h : Heap} {a : Addr} (t : TbOk c as h a) (hs : ∀ b ∈ as', b ∈ as) : TbOk c as' h a := by
  refine of_gen fun _ kg => ?_
  obtain ⟨oe, vs, h1, h2, h3⟩ := t
  refine kg ?_
  refine ⟨oe, vs, h1, h2, h3.imp id ?_⟩
  intro hgr74_0
  refine of_gen fun _ kg => ?_
  obtain ⟨b, ot, ts, e1, e2, e3, e4, e5, e6, e7⟩ := hgr74_0
  refine kg ?_
  exact ⟨b, ot, ts, e1, e2, e3, e4, e5, e6, fun hm => e7 (hs _ hm)⟩
theorem mem_sub4 {α β : Type} {a b r z y f : List (α × β)} (h : ∀ x ∈ z, x ∈ y) : ∀ x ∈ (a ++ ((r ++ z) ++ f)).map (·.1), x ∈ (a ++ ((r ++ y) ++ f)).map (·.1) := by
  intro x hx
  simp only [List.map_append, List.mem_append, List.mem_map] at hx ⊢
  rcases hx with h1 | (h1 | ⟨q, h1, rfl⟩) | h1
  · exact .inl h1
  · exact .inr (.inl (.inl h1))
  · exact .inr (.inl (.inr ⟨q, h _ h1, rfl⟩))
  · exact .inr (.inr h1)
theorem Exc.less {a : List (Addr × Obj)} {e : Addr} (n : Exc c (a ++ z) e lo ob s) : Exc c z e lo ob s := by
  refine of_gen fun _ kg => ?_
  obtain ⟨he, m, os, frs, n, t⟩ := n
  refine kg ?_
  refine ⟨he, m, os, frs, n.less, t.sub (mem_sub4 (b := []) fun x hx => List.mem_append_right _ hx)⟩
end

inductive Pick (p : Addr × Ob) : Obs → Obs → Prop
  | head {r} : Pick p (p :: r) r
  | tail {q r r'} : Pick p r r' → Pick p (q :: r) (q :: r')
inductive Picks : Obs → Obs → Obs → Prop
  | nil {f} : Picks f [] f
  | cons {p f f' s o} : Pick p f f' → Picks f' s o → Picks f (p :: s) o
theorem Pick.perm {p : Addr × Ob} {f f' : Obs} (h : Pick p f f') : f.Perm (p :: f') := by
  induction h with
  | head => exact .refl _
  | tail _ ih => exact (List.Perm.cons _ ih).trans (.swap _ _ _)
theorem Picks.perm {f s o : Obs} (h : Picks f s o) : f.Perm (s ++ o) := by
  induction h with
  | nil => exact .refl _
  | cons h _ ih => exact h.perm.trans (.cons _ ih)

section
variable {α β : Type} {c : Cx} {rel : β → α → Prop} {t : Sem α} {Q Q' : QT β} {X X' : QT Addr} {lo : Loc} {ob small oth : Obs}
end
end Mine
end
section
open PySem PySem.W PySem.Calls PySem.Spec PyProof.Rows
set_option Elab.async false
set_option maxRecDepth 100000
set_option linter.unusedVariables false
namespace Mine

inductive LoS : Loc → Loc → Prop
  | nil : LoS [] []
  | keep {x a b} : LoS a b → LoS (x :: a) (x :: b)
  | drop {x a b} : LoS a b → LoS (x :: a) (none :: b)
theorem LoS.has {a b : Loc} (h : LoS a b) : ∀ {ns : Nms} {x : Str} {v : V}, Has ns b x v → Has ns a x v := by
  induction h with
  | nil => intro ns x v g; cases g
  | keep _ ih => intro ns x v g; cases g with
    | here => exact .here
    | there g => exact .there (ih g)
  | drop _ ih => intro ns x v g; cases g with
    | there g => exact .there (ih g)
theorem LoS.refl : ∀ {a : Loc}, LoS a a
  | [] => .nil
  | _ :: _ => .keep LoS.refl
noncomputable def Wkn (P : Loc → Obs → Prop) (lo : Loc) (ob : Obs) : Prop := ∃ lo2 ob2 d, LoS lo lo2 ∧ Picks ob ob2 d ∧ P lo2 ob2
theorem Picks.all : ∀ {f : Obs}, Picks f f []
  | [] => .nil
  | _ :: _ => .cons .head Picks.all
theorem Wkn.of {P : Loc → Obs → Prop} {lo : Loc} {ob : Obs} (h : P lo ob) : Wkn P lo ob := ⟨lo, ob, [], .refl, .all, h⟩

section
variable {c : Cx} {z : List (Addr × Obj)} {lo lo2 : Loc} {ob ob2 d : Obs} {s : Shared}
theorem Now.loc (n : Now c z lo ob s) (h : LoS lo lo2) : Now c z lo2 ob s := by
  obtain ⟨m, os, frs, n⟩ := n
  exact ⟨m, os, frs, n.F, fun x v hx => n.lr x v (h.has hx), n.rs, n.N, n.nd, n.fm, n.ap, n.og⟩
theorem Now.forget (n : Now c z lo ob s) (p : Picks ob ob2 d) : Now c z lo ob2 s := by
  obtain ⟨m, os, frs, n⟩ := n.perm p.perm
  obtain ⟨o1, o2, _, rfl, n1⟩ := n.out
  exact ⟨m, o1, frs, n1.less⟩
theorem Now.wkn {P : Loc → Obs → Prop} (n : Now c z lo ob s) (h : Wkn P lo ob) : ∃ lo2 ob2, Now c z lo2 ob2 s ∧ P lo2 ob2 := by
  obtain ⟨lo2, ob2, d, h1, h2, h3⟩ := h
  exact ⟨lo2, ob2, (n.loc h1).forget h2, h3⟩
end
section
variable {α β : Type} {c : Cx} {rel : β → α → Prop} {t : Sem α} {Q : QT β} {X : QT Addr} {lo lo2 : Loc} {ob ob2 d : Obs}
theorem W.wkn (h : Wkn (W c rel t Q X) lo ob) : W c rel t Q X lo ob := fun z s n => by
  obtain ⟨lo2, ob2, n2, h⟩ := n.wkn h
  exact h z s n2
end

noncomputable def Passes (c : Cx) (X : QT Addr) : Prop := ∀ z, PassesOwn c.g.M c.B c.env (LX c z X)
theorem passes_never {c : Cx} : Passes c (fun _ _ _ => False) := fun _ _ _ q => q.elim fun _ _ _ _ _ h => h.elim

section
variable {c : Cx} {lo : Loc} {ob : Obs} {X : QT Addr} {Q : QT AF}
noncomputable def WhileQ (c : Cx) (I : Nat → Loc → Obs → Prop) (n : Nat) (Q : QT AF) : QT AF := fun f lo ob => match f with
  | .brk => Q .next lo ob
  | .ret v => Q (.ret v) lo ob
  | _ => Wkn (fun lo ob => ∃ k, k < n ∧ I k lo ob) lo ob
theorem S_While {t : Expr} {body : List Stmt} {pos : Pos} (I : Nat → Loc → Obs → Prop) (hE : Passes c X) (h0 : Wkn (fun lo ob => ∃ n, I n lo ob) lo ob)
    (turn : ∀ n lo ob, I n lo ob → Tst c t (fun b lo ob => Br b (W c FR (execs body c.env) (WhileQ c I n Q) X lo ob) (Q .next lo ob)) X lo ob) : W c FR (exec (.While t body [] pos) c.env) Q X lo ob := by
  intro z s n
  obtain ⟨lo1, ob1, n1, n₀, h1⟩ := n.wkn h0
  refine wpAny_While (codeAny_whileLoop (fun k s' => ∃ lo ob, I k lo ob ∧ Now c z lo ob s') (fun k s' hI => ?_) n₀ ⟨lo1, ob1, h1, n1⟩)
  obtain ⟨lo2, ob2, h2, n2⟩ := hI
  refine wpAny_mono (turn k lo2 ob2 h2 z s' n2) (fun b s₂ hb => ?_) (hE z)
  obtain ⟨b', lo3, ob3, rfl, n3, h3⟩ := hb
  cases b with
  | false =>
    simp only [Bool.false_eq_true, if_false]
    exact wpAny_execs_nil ⟨AF.next, lo3, ob3, rfl, n3, h3.2 rfl⟩
  | true =>
    simp only [if_true]
    refine wpAny_mono (h3.1 rfl z s₂ n3) (fun f s₃ hf => ?_) (hE z)
    obtain ⟨g, lo4, ob4, hg, n4, h4⟩ := hf
    cases g with
    | next => cases hg; obtain ⟨lo5, ob5, n5, j, hj, h5⟩ := n4.wkn h4; exact ⟨j, hj, lo5, ob5, h5, n5⟩
    | cont => cases hg; obtain ⟨lo5, ob5, n5, j, hj, h5⟩ := n4.wkn h4; exact ⟨j, hj, lo5, ob5, h5, n5⟩
    | brk => cases hg; exact ⟨AF.next, lo4, ob4, rfl, n4, h4⟩
    | ret v => obtain ⟨cv, rfl, hr⟩ := hg; exact ⟨AF.ret v, lo4, ob4, ⟨cv, rfl, hr⟩, n4, h4⟩

noncomputable def ForW (c : Cx) (tg : Expr) (body : List Stmt) (Q : QT AF) (X : QT Addr) : List V → Loc → Obs → Prop
  | [], lo, ob => Q .next lo ob
  | v :: vs, lo, ob => Asg c tg v (fun lo ob => W c FR (execs body c.env) (fun f lo ob => match f with
      | .brk => Q .next lo ob
      | .ret v => Q (.ret v) lo ob
      | _ => Wkn (ForW c tg body Q X vs) lo ob) X lo ob) X lo ob
noncomputable def GoesOn (c : Cx) (tg : Expr) (I : Addr) (St : Nat → Heap → Prop) : Prop := ∀ i v (s : Shared) (Q : Unit → Shared → Prop) (E : Value → Shared → Prop), St (i + 1) s.heap → Q () s → wpAny c.g.M c.B (letOwnedTupleGo tg (.ref I) v) Q E s
theorem own_go {M : Model} {A : Around} {E : Value → Shared → Prop} {s : Shared} {tg : Expr} {I a : Addr} {o : Obj} {T : String} {Q : Unit → Shared → Prop} (ho : s.heap.get? I = some o) (hc : o.cls = .type T) (hT : ["enumerate", "zip", "dict_itemiterator", "dict_reverseitemiterator", "odict_iterator", "itertools.zip_longest", "itertools.pairwise"].contains T = false) (hQ : Q () s) {t : Sem Unit} {f : Obj → Sem Unit}
    (ht : t = (load I >>= f)) (hf : ∀ d w l, f ⟨.type T, d, w, l⟩ = pure ()) : wpAny M A t Q E s := by
  rw [ht]
  refine wpAny_bind (wpAny_load ho ?_)
  obtain ⟨oc, od, w, l⟩ := o
  obtain rfl : oc = _ := hc
  rw [hf]
  exact wpAny_pure hQ
theorem goesOn_cls {c : Cx} {tg : Expr} {I : Addr} {St : Nat → Heap → Prop} {T : String} (hst : ∀ i h, St i h → ∃ o, h.get? I = some o ∧ o.cls = .type T) (hT : ["enumerate", "zip", "dict_itemiterator", "dict_reverseitemiterator", "odict_iterator", "itertools.zip_longest", "itertools.pairwise"].contains T = false := by decide) : GoesOn c tg I St := by
  intro i v s Q E st hQ
  obtain ⟨o, ho, hc⟩ := hst _ _ st
  cases tg with
  | Tuple e k p =>
    cases v with
    | ref a =>
      refine own_go (t := letOwnedTupleGo (.Tuple e k p) (.ref I) (.ref a)) (a := a) (tg := .Tuple e k p) ho hc hT hQ rfl fun d w l => ?_
      cases w with
      | fields vs => exact if_neg (by rw [hT]; exact Bool.false_ne_true)
      | _ => rfl
    | _ => exact wpAny_pure hQ
  | List e k =>
    cases v with
    | ref a =>
      refine own_go (t := letOwnedTupleGo (.List e k) (.ref I) (.ref a)) (a := a) (tg := .List e k) ho hc hT hQ rfl fun d w l => ?_
      cases w with
      | fields vs => exact if_neg (by rw [hT]; exact Bool.false_ne_true)
      | _ => rfl
    | _ => exact wpAny_pure hQ
  | _ => exact wpAny_pure hQ
structure IterOK (c : Cx) (z : List (Addr × Obj)) (items : List V) (I : Addr) (St : Nat → Heap → Prop) : Prop where
  wk : ∃ fp P, Walks c.g.prog c.g.w c.B I fp [I] items.length P St ∧ (∀ i v, i < items.length → P i v → ∃ u, items[i]? = some u ∧ VR u v) ∧ (∀ b ∈ fp, b = I ∨ (∃ o, (b, o) ∈ z) ∨ ∃ o, c.g.hb.get? b = some o)
  has : ∀ i h, St i h → ∃ o, h.get? I = some o

theorem Now.swapI {z : List (Addr × Obj)} {s s' : Shared} {I : Addr} {oI oI' : Obj} (n : Now c ((I, oI) :: z) lo ob s) (hk : ∀ b o, b ∉ [I] → s.heap.get? b = some o → s'.heap.get? b = some o) (hI : s'.heap.get? I = some oI') (hog : Og s s' := by exact ⟨rfl, rfl⟩) : Now c ((I, oI') :: z) lo ob s' := by
  obtain ⟨m, os, frs, n⟩ := n
  have hz := n.N (I, oI) (List.mem_append_right _ (List.mem_append_left _ (List.mem_append_right _ (.head _))))
  have e : (os ++ (c.rest ++ (I, oI') :: z)).map (·.1) = (os ++ (c.rest ++ (I, oI) :: z)).map (·.1) := by simp
  have hne : ∀ p ∈ os ++ (c.rest ++ z), p.1 ≠ I := by
    have hnd := n.nd
    have p : (os ++ (c.rest ++ (I, oI) :: z)).Perm ((I, oI) :: (os ++ (c.rest ++ z))) := by
      rw [← List.append_assoc, ← List.append_assoc]
      exact List.perm_middle
    have := (p.map (·.1)).nodup_iff.mp hnd
    rw [List.map_cons] at this
    exact fun q hq => nodup_ne this _ (List.mem_map_of_mem hq)
  have hfr : ∀ p ∈ frs, p.1 ≠ I := n.apt (I, oI) (List.mem_append_right _ (List.mem_append_right _ (.head _)))
  have hL : c.L ≠ I := Ne.symm hz.2.1
  refine ⟨m, os, frs, ⟨⟨n.F.ns.at' fun o e => hk _ o (by simpa using hL) e, fun b o e => hk b o (fun hm => ?_) (n.F.keep b o e), n.F.above⟩, n.lr, n.rs, fun p hp => ?_, e ▸ n.nd, n.fm, e ▸ n.ap, hog.tr n.og⟩⟩
  · rw [List.mem_singleton.mp hm, hz.2.2] at e; cases e
  · have old : ∀ p, p.1 ≠ I → p ∈ os ++ ((c.rest ++ (I, oI) :: z) ++ frs) → s'.heap.get? p.1 = some p.2 ∧ p.1 ≠ c.L ∧ c.g.hb.get? p.1 = none := fun p h1 h2 => ⟨hk _ _ (by simpa using h1) (n.N p h2).1, (n.N p h2).2⟩
    simp only [List.mem_append, List.mem_cons] at hp
    rcases hp with h | (h | rfl | h) | h
    · exact old p (hne p (by simp [h])) (by simp [h])
    · exact old p (hne p (by simp [h])) (by simp [h])
    · exact ⟨hI, hz.2⟩
    · exact old p (hne p (by simp [h])) (by simp [h])
    · exact old p (hfr p h) (by simp [h])
theorem IterOK.keep {z : List (Addr × Obj)} {items : List V} {I : Addr} {oI : Obj} {St : Nat → Heap → Prop} (K : IterOK c z items I St) {lo' : Loc} {ob' : Obs} {s s' : Shared} {i : Nat} (n : Now c ((I, oI) :: z) lo ob s) (n' : Now c ((I, oI) :: z) lo' ob' s') (h : St i s.heap) : St i s'.heap := by
  obtain ⟨⟨fp, P, wk, _, hf⟩, _⟩ := K
  refine wk.frame i _ _ h fun b hb o e => ?_
  rcases hf b hb with rfl | ⟨o', ho'⟩ | ⟨o', ho'⟩
  · have h1 : s.heap.get? b = some oI := n.at (p := (b, oI)) (.head _)
    have h2 : s'.heap.get? b = some oI := n'.at (p := (b, oI)) (.head _)
    rw [h1] at e; cases e; exact h2
  · have h1 : s.heap.get? b = some o' := n.at (p := (b, o')) (.tail _ ho')
    have h2 : s'.heap.get? b = some o' := n'.at (p := (b, o')) (.tail _ ho')
    rw [h1] at e; cases e; exact h2
  · obtain ⟨_, _, _, n1⟩ := n
    obtain ⟨_, _, _, n2⟩ := n'
    have h1 := n1.F.keep b o' ho'
    rw [h1] at e; cases e; exact n2.F.keep _ _ ho'

theorem Now.dropI {z : List (Addr × Obj)} {s s' : Shared} {I : Addr} {oI : Obj} (n : Now c ((I, oI) :: z) lo ob s) (hk : ∀ b o, b ∉ [I] → s.heap.get? b = some o → s'.heap.get? b = some o) (hog : Og s s' := by exact ⟨rfl, rfl⟩) : Now c z lo ob s' := by
  obtain ⟨m, os, frs, n1⟩ := n
  have hz := n1.N (I, oI) (List.mem_append_right _ (List.mem_append_left _ (List.mem_append_right _ (.head _))))
  have n2 := NowAt.less (a := [(I, oI)]) n1
  have hne : ∀ p ∈ os ++ (c.rest ++ z), p.1 ≠ I := by
    have p : (os ++ (c.rest ++ (I, oI) :: z)).Perm ((I, oI) :: (os ++ (c.rest ++ z))) := by
      rw [← List.append_assoc, ← List.append_assoc]
      exact List.perm_middle
    have := (p.map (·.1)).nodup_iff.mp n1.nd
    rw [List.map_cons] at this
    exact fun q hq => nodup_ne this _ (List.mem_map_of_mem hq)
  have hfr : ∀ p ∈ frs, p.1 ≠ I := n1.apt (I, oI) (List.mem_append_right _ (List.mem_append_right _ (.head _)))
  have hL : c.L ≠ I := Ne.symm hz.2.1
  refine ⟨m, os, frs, ⟨⟨n2.F.ns.at' fun o e => hk _ o (by simpa using hL) e, fun b o e => hk b o (fun hm => ?_) (n2.F.keep b o e), n2.F.above⟩, n2.lr, n2.rs, fun p hp => ⟨hk _ _ ?_ (n2.N p hp).1, (n2.N p hp).2⟩, n2.nd, n2.fm, n2.ap, hog.tr n2.og⟩⟩
  · rw [List.mem_singleton.mp hm, hz.2.2] at e; cases e
  · rw [List.mem_singleton]
    simp only [List.mem_append] at hp
    rcases hp with h | (h | h) | h
    · exact hne p (by simp [h])
    · exact hne p (by simp [h])
    · exact hne p (by simp [h])
    · exact hfr p h

inductive ForI (c : Cx) (z : List (Addr × Obj)) (tg : Expr) (body : List Stmt) (Q : QT AF) (X : QT Addr) (items : List V) (St : Nat → Heap → Prop) (I : Addr) : Nat → Shared → Prop
  | mk {i : Nat} {lo : Loc} {ob : Obs} {oI : Obj} {s : Shared} (hi : i ≤ items.length) (st : St i s.heap) (n : Now c ((I, oI) :: z) lo ob s) (h : ForW c tg body Q X (items.drop i) lo ob) : ForI c z tg body Q X items St I (items.length + 1 - i) s
theorem for_loop {tg : Expr} {body : List Stmt} {z : List (Addr × Obj)} {items : List V} {I : Addr} {oI : Obj} {St : Nat → Heap → Prop} (K : IterOK c z items I St) (hgo : GoesOn c tg I St) (hE : Passes c X) {s : Shared}
    (hst : St 0 s.heap) (n : Now c ((I, oI) :: z) lo ob s) (h : ForW c tg body Q X items lo ob) :
    codeAny c.g.M c.B (.forLoop tg (.ref I) body [] c.env) (fun r s' => match r with | .ok f => LQ c z FR Q f s' | .error e => cameBackBy c.g.M c.B c.env (LX c z X) e s') s := by
  obtain ⟨fp, P, wk, hP, hf⟩ := K.wk
  have hX : ∀ {oI : Obj} e s', LX c ((I, oI) :: z) X e s' → LX c z X e s' := fun e s' q => q.elim fun a lo ob he hx hX => ⟨a, lo, ob, he, Exc.less (a := [_]) hx, hX⟩
  have hX2 : ∀ {oI : Obj} e s', LX c ((I, oI) :: z) X e s' → notedBy c.g.M c.B c.env (fun e s' => cameBackBy c.g.M c.B c.env (LX c z X) e s') e s' := fun e s' hx => hE z e s' (hX e s' hx)
  refine codeAny_forLoop_any (ForI c z tg body Q X items St I) ?_ (items.length + 1) (.mk (i := 0) (Nat.zero_le _) hst n h)
  rintro k s1 @⟨i, lo1, ob1, oI1, _, hi, st1, n1, h1⟩
  by_cases hlt : i < items.length
  · refine wk.item i s1 _ _ hlt st1 fun v h' tk hPv st2 hk => ?_
    obtain ⟨u, hu, hr⟩ := hP i v hlt hPv
    obtain ⟨oI2, hI2⟩ := K.has _ _ st2
    have n2 : Now c ((I, oI2) :: z) lo1 ob1 { s1 with heap := h', toks := tk } := n1.swapI hk hI2
    have e : items.drop i = u :: items.drop (i + 1) := by
      rw [List.drop_eq_getElem_cons hlt]
      congr 1
      rw [List.getElem?_eq_getElem hlt] at hu
      exact Option.some.inj hu
    rw [e] at h1
    refine hgo _ _ _ _ _ st2 ?_
    refine (wpAny_mono (h1 v hr _ _ n2) (fun _ s3 q => q.elim fun _ lo3 ob3 _ n3 h3 => ?_) hX2)
    have st3 := K.keep n2 n3 st2
    refine wpAny_mono (h3 _ s3 n3) (fun f s4 q => q.elim fun g lo4 ob4 hg n4 h4 => ?_) hX2
    have st4 := K.keep n3 n4 st3
    cases g with
    | next => cases hg; obtain ⟨lo5, ob5, n5, h5⟩ := n4.wkn h4; exact ⟨_, Nat.sub_lt_sub_left (Nat.lt_succ_of_lt hlt) (Nat.lt_succ_self i), .mk hlt st4 n5 h5⟩
    | cont => cases hg; obtain ⟨lo5, ob5, n5, h5⟩ := n4.wkn h4; exact ⟨_, Nat.sub_lt_sub_left (Nat.lt_succ_of_lt hlt) (Nat.lt_succ_self i), .mk hlt st4 n5 h5⟩
    | brk => cases hg; exact ⟨AF.next, lo4, ob4, rfl, Now.less (a := [_]) n4, h4⟩
    | ret v => obtain ⟨cv, rfl, hr⟩ := hg; exact ⟨AF.ret v, lo4, ob4, ⟨cv, rfl, hr⟩, Now.less (a := [_]) n4, h4⟩
  · have e : i = items.length := Nat.le_antisymm hi (Nat.not_lt.mp hlt)
    subst e
    rw [List.drop_length] at h1
    refine wk.done s1 _ _ st1 fun h' tk hk => wpAny_execs_nil ?_
    exact ⟨AF.next, lo1, ob1, rfl, n1.dropI (s' := { s1 with heap := h', toks := tk }) hk, h1⟩
end
end Mine
end
section
open PySem PySem.W PySem.Calls PySem.Spec PyProof.Rows
set_option Elab.async false
set_option maxRecDepth 100000
set_option linter.unusedVariables false
namespace Mine

noncomputable def ForIn (c : Cx) (v : V) (tg : Expr) (body : List Stmt) (Q : QT AF) (X : QT Addr) (lo : Loc) (ob : Obs) : Prop :=
  ∀ z s cv, VR v cv → Now c z lo ob s → wpAny c.g.M c.B (pyIter cv) (fun it s₂ => codeAny c.g.M c.B (.forLoop tg it body [] c.env) (fun r s' => match r with | .ok f => LQ c z FR Q f s' | .error e => cameBackBy c.g.M c.B c.env (LX c z X) e s') s₂) (LX c z X) s

section
variable {c : Cx} {lo : Loc} {ob oth : Obs} {X : QT Addr} {Q : QT AF} {tg : Expr} {body : List Stmt} {a : Addr} {vs : List V}
theorem S_For {iter : Expr} {pos : Pos} (h : W c VR (eval iter c.env) (fun v lo ob => ForIn c v tg body Q X lo ob) X lo ob) (hs : ∀ x, foldedSetIterable iter c.env x = pure x := by intro _; rfl) :
    W c FR (exec (.For tg iter body [] pos) c.env) Q X lo ob := fun z s n =>
  wpAny_For (thenQ (h z s n) fun cv s' v lo ob hv n h => h z s' cv hv n) hs

theorem NowAt.pushI {z : List (Addr × Obj)} {s : Shared} {m : Str → Option Value} {os frs : List (Addr × Obj)} (n : NowAt c z lo ob s m os frs) {o : Obj} (hf : o.isFreed = false := by rfl) : Now c ((s.heap.objs.size, o) :: z) lo ob { s with heap := s.heap.push o } := by
  have n2 : NowAt c z lo ((s.heap.objs.size, Ob.raw o) :: ob) { s with heap := s.heap.push o } m ((s.heap.objs.size, o) :: os) frs := n.push (b := .raw o) rfl rfl hf
  obtain ⟨o1, o2, h2, e, n3⟩ := (n2.re (ob2 := ob ++ [(s.heap.objs.size, Ob.raw o)]) (os2 := os ++ [(s.heap.objs.size, o)]) (z' := z) (n.rs.append (.cons rfl .nil)) (by
    rw [List.append_assoc]
    exact (List.perm_middle (l₁ := os)).symm)).out
  cases h2 with
  | cons h2 h3 =>
    cases h3
    obtain ⟨e1, e2⟩ := List.append_inj' e rfl
    cases e2
    cases h2
    exact ⟨m, o1, frs, n3⟩

theorem back_LQ {z o2 : List (Addr × Obj)} {src : Obs} (h2 : ORs c.g.w.params src o2) {f : Flow} {s : Shared} (h : LQ c (o2 ++ z) FR (fun f lo ob => Q f lo (ob ++ src)) f s) : LQ c z FR Q f s := by
  obtain ⟨b, lo, ob, hr, ⟨m, os, frs, n⟩, hq⟩ := h
  exact ⟨b, lo, _, hr, ⟨m, _, frs, n.back h2⟩, hq⟩
theorem back_LX {z o2 : List (Addr × Obj)} {src : Obs} (h2 : ORs c.g.w.params src o2) {e : Value} {s : Shared} (h : LX c (o2 ++ z) (fun a lo ob => X a lo (ob ++ src)) e s) : LX c z X e s := by
  refine of_gen fun _ kg => ?_
  obtain ⟨a, lo, ob, rfl, ⟨⟨k, d, r, hm⟩, m, os, frs, n, t⟩, hq⟩ := h
  refine kg ?_
  refine ⟨a, lo, _, rfl, ⟨⟨k, d, r, List.mem_append_left _ hm⟩, m, _, frs, n.back h2, t.sub fun b hb => ?_⟩, hq⟩
  simp only [List.map_append, List.mem_append] at hb ⊢
  rcases hb with (h | h) | (h | h) | h
  · exact .inl h
  · exact .inr (.inl (.inr (.inl h)))
  · exact .inr (.inl (.inl h))
  · exact .inr (.inl (.inr (.inr h)))
  · exact .inr (.inr h)
theorem cameBack_mono {M : Model} {A : Around} {env : Env} {E E' : Value → Shared → Prop} (h : ∀ e s, E e s → E' e s) {e : Value} {s : Shared} (x : cameBackBy M A env E e s) : cameBackBy M A env E' e s :=
  wpAny_mono x (fun _ s' y => h _ _ y) fun _ s' y => h _ _ y

theorem For_list (hh : c.B.handled = none) (hE : Passes c (fun e lo ob => X e lo (ob ++ [(a, .list vs)]))) (p : Picks ob [(a, .list vs)] oth) (h : Wkn (ForW c tg body (fun f lo ob => Q f lo (ob ++ [(a, .list vs)])) (fun e lo ob => X e lo (ob ++ [(a, .list vs)])) vs) lo oth) :
    ForIn c (.ref a) tg body Q X lo ob := by
  rintro z s _ rfl n
  refine of_gen fun _ kg => ?_
  obtain ⟨m, os, frs, n⟩ := n.perm (p.perm.trans List.perm_append_comm)
  obtain ⟨o1, o2, h2, rfl, n1⟩ := n.out
  refine kg ?_
  cases h2 with
  | cons h2 h3 =>
    rename_i o os'
    cases h3
    refine of_gen fun _ kg => ?_
    obtain ⟨cs, k, rfl, hr⟩ := h2
    refine kg ?_
    have ha : s.heap.get? a = some (W.listOf cs.toArray k) := Now.at ⟨m, o1, frs, n1⟩ (p := (a, W.listOf cs.toArray k)) (.head _)
    have hl : s.heap.IsList a cs.toArray := ⟨_, ha, rfl, _, rfl⟩
    have hlt := Heap.lt_size ha
    refine wpAny_pyIter_list hl ?_
    have n2 := n1.pushI (o := { cls := .type "list_iterator", data := .fields #[.ref a, .int 0 0] })
    refine of_gen fun _ kg => ?_
    obtain ⟨lo2, ob2, n3, h3⟩ := n2.wkn h
    refine kg ?_
    refine codeAny_mono (for_loop (St := fun i h => h.IsListIter s.heap.objs.size a i ∧ h.IsList a cs.toArray) ⟨⟨[s.heap.objs.size, a], fun i v => cs.toArray[i]? = some v, ?_, ?_, ?_⟩, ?_⟩ (goesOn_cls (T := "list_iterator") fun i h st => by obtain ⟨⟨o, ho, hc, _⟩, _⟩ := st; exact ⟨o, ho, hc⟩) hE ⟨⟨_, Heap.get?_push_size _ rfl, rfl, rfl⟩, hl.push _⟩ n3 h3) ?_
    · have := Walks.list (prog := c.g.prog) (w := c.g.w) hh s.heap.objs.size a (Nat.ne_of_lt hlt) cs.toArray
      rw [show vs.length = cs.toArray.size from by simp [hr.length]]
      exact this
    · intro i v hi hv
      obtain ⟨u, hu, hr'⟩ := hr.get' i v (by simpa using hv)
      exact ⟨u, hu, hr'⟩
    · intro b hb
      rcases List.mem_cons.mp hb with e | hb
      · exact .inl e
      · rw [List.mem_singleton.mp hb]; exact .inr (.inl ⟨_, .head _⟩)
    · rintro i h ⟨⟨o, ho, _⟩, _⟩; exact ⟨o, ho⟩
    · intro r s' hq
      have h2 : ORs c.g.w.params [(a, Ob.list vs)] [(a, W.listOf cs.toArray k)] := .cons ⟨cs, k, rfl, hr⟩ .nil
      cases r with
      | ok f => exact back_LQ h2 hq
      | error e => exact cameBack_mono (fun e s x => back_LX h2 x) hq
theorem For_tup (hh : c.B.handled = none) (hE : Passes c (fun e lo ob => X e lo (ob ++ [(a, .tup vs)]))) (p : Picks ob [(a, .tup vs)] oth) (h : Wkn (ForW c tg body (fun f lo ob => Q f lo (ob ++ [(a, .tup vs)])) (fun e lo ob => X e lo (ob ++ [(a, .tup vs)])) vs) lo oth) :
    ForIn c (.ref a) tg body Q X lo ob := by
  rintro z s _ rfl n
  refine of_gen fun _ kg => ?_
  obtain ⟨m, os, frs, n⟩ := n.perm (p.perm.trans List.perm_append_comm)
  obtain ⟨o1, o2, h2, rfl, n1⟩ := n.out
  refine kg ?_
  have h2' := h2
  cases h2 with
  | cons h2 h3 =>
    rename_i o os'
    cases h3
    refine of_gen fun _ kg => ?_
    obtain ⟨hc, cs, k, hd, hr⟩ := h2
    refine kg ?_
    have ha : s.heap.get? a = some o := Now.at ⟨m, o1, frs, n1⟩ (p := (a, o)) (.head _)
    have hl : s.heap.IsTuple a cs.toArray := ⟨_, ha, hc, _, hd⟩
    have hlt := Heap.lt_size ha
    refine wpAny_pyIter_tuple hl ?_
    have n2 := n1.pushI (o := { cls := .type "tuple_iterator", data := .fields #[.ref a, .int 0 0] })
    refine of_gen fun _ kg => ?_
    obtain ⟨lo2, ob2, n3, h3⟩ := n2.wkn h
    refine kg ?_
    refine codeAny_mono (for_loop (St := fun i h => h.IsTupleIter s.heap.objs.size a i ∧ h.IsTuple a cs.toArray) ⟨⟨[s.heap.objs.size, a], fun i v => cs.toArray[i]? = some v, ?_, ?_, ?_⟩, ?_⟩ (goesOn_cls (T := "tuple_iterator") fun i h st => by obtain ⟨⟨o, ho, hc, _⟩, _⟩ := st; exact ⟨o, ho, hc⟩) hE ⟨⟨_, Heap.get?_push_size _ rfl, rfl, rfl⟩, hl.push _⟩ n3 h3) ?_
    · have := Walks.tuple (prog := c.g.prog) (w := c.g.w) hh s.heap.objs.size a (Nat.ne_of_lt hlt) cs.toArray
      rw [show vs.length = cs.toArray.size from by simp [hr.length]]
      exact this
    · intro i v hi hv
      obtain ⟨u, hu, hr'⟩ := hr.get' i v (by simpa using hv)
      exact ⟨u, hu, hr'⟩
    · intro b hb
      rcases List.mem_cons.mp hb with e | hb
      · exact .inl e
      · rw [List.mem_singleton.mp hb]; exact .inr (.inl ⟨_, .head _⟩)
    · rintro i h ⟨⟨o, ho, _⟩, _⟩; exact ⟨o, ho⟩
    · intro r s' hq
      cases r with
      | ok f => exact back_LQ h2' hq
      | error e => exact cameBack_mono (fun e s x => back_LX h2' x) hq

theorem For_range {p q : Int} {n : Nat} (hh : c.B.handled = none) (hE : Passes c X) (hp : Picks ob [(a, .rng p q)] oth) (hsm : Builtin.Range.small p q 1 = true) (hn : Builtin.Range.rangeSize p q 1 = ((n : Nat) : Int)) (h : Wkn (ForW c tg body Q X ((List.range n).map fun (i : Nat) => V.int (p + (i : Int)))) lo oth) :
    ForIn c (.ref a) tg body Q X lo ob := by
  rintro z s _ rfl n0
  refine of_gen fun _ kg => ?_
  obtain ⟨m, os, frs, n1⟩ := n0.perm hp.perm
  obtain ⟨o, _, _, ha, t1, t2, t3, rfl⟩ := n1.mem (a := a) (b := .rng p q) (.head _)
  refine kg ?_
  have nn : Now c z lo oth s := by
    obtain ⟨m, os, frs, n⟩ := Now.perm ⟨m, os, frs, n1⟩ List.perm_append_comm
    obtain ⟨o1, o2, _, rfl, n1⟩ := n.out
    exact ⟨m, o1, frs, n1.less⟩
  refine of_gen fun _ kg => ?_
  obtain ⟨lo2, ob2, n2, h2⟩ := nn.wkn h
  obtain ⟨m, os, frs, n2⟩ := n2
  refine kg ?_
  refine wpAny_pyIter_range ha hsm ?_
  refine for_loop (St := fun i h => IsRangeIter h s.heap.objs.size (p + (i : Nat) * 1) ((n : Int) - (i : Nat)) 1) ⟨⟨[s.heap.objs.size], fun i v => ∃ t, v = .int (p + (i : Int)) t, ?_, ?_, ?_⟩, ?_⟩ (goesOn_cls (T := "range_iterator") fun i h st => ⟨_, st, rfl⟩) hE (by show IsRangeIter _ _ _ _ _; rw [hn]; simpa using Heap.get?_push_size _ rfl) n2.pushI h2
  · have := LCg.range_walks (prog := c.g.prog) (w := c.g.w) (A := c.B) (I := s.heap.objs.size) hh p n
    simpa using this
  · rintro i v hi ⟨t, rfl⟩
    exact ⟨.int (p + (i : Int)), by simp at hi; simp [hi], t, rfl⟩
  · intro b hb
    exact .inl (List.mem_singleton.mp hb)
  · intro i h st
    exact ⟨_, st⟩
theorem For_str {l : List Nat} (hh : c.B.handled = none) (hE : Passes c X) (h : Wkn (ForW c tg body Q X (l.map fun k => V.str [k])) lo ob) : ForIn c (.str l) tg body Q X lo ob := by
  rintro z s _ ⟨t, rfl⟩ n
  refine of_gen fun _ kg => ?_
  obtain ⟨lo2, ob2, n2, h2⟩ := n.wkn h
  obtain ⟨m, os, frs, n2⟩ := n2
  refine kg ?_
  have go : ∀ (T : String) (hT : ["enumerate", "zip", "dict_itemiterator", "dict_reverseitemiterator", "odict_iterator", "itertools.zip_longest", "itertools.pairwise"].contains T = false), Walks c.g.prog c.g.w c.B s.heap.objs.size [s.heap.objs.size] [s.heap.objs.size] (tx l).cps.size (SignAt (tx l)) (fun i h => h.IsStrIter s.heap.objs.size T (tx l) t i) → ∀ o : Obj, o.isFreed = false → (s.heap.push o).IsStrIter s.heap.objs.size T (tx l) t 0 →
      codeAny c.g.M c.B (.forLoop tg (.ref s.heap.objs.size) body [] c.env) (fun r s' => match r with | .ok f => LQ c z FR Q f s' | .error e => cameBackBy c.g.M c.B c.env (LX c z X) e s') { s with heap := s.heap.push o } := by
    intro T hT wk o hf hst
    refine for_loop (St := fun i h => h.IsStrIter s.heap.objs.size T (tx l) t i) ⟨⟨_, _, by simpa [tx] using wk, ?_, fun b hb => .inl (List.mem_singleton.mp hb)⟩, fun i h st => by obtain ⟨o, e, _⟩ := st; exact ⟨o, e⟩⟩ (goesOn_cls (T := T) (fun i h st => by obtain ⟨o, e, hc, _⟩ := st; exact ⟨o, e, hc⟩) hT) hE hst (n2.pushI hf) h2
    rintro i v hi
    intro hgr185_0
    refine of_gen fun _ kg => ?_
    obtain ⟨k, u, hk, rfl⟩ := hgr185_0
    refine kg ?_
    refine ⟨.str [k], ?_, u, rfl⟩
    have hk' : l[i]? = some k := by simpa [tx] using hk
    simp [hk']
  cases ha : (tx l).cps.all (· < 128)
  · exact wpAny_pyIter_wide ha (go "str_iterator" (by decide) (Walks.strWide hh _ (tx l) t) _ rfl ⟨_, Heap.get?_push_size _ rfl, rfl, rfl⟩)
  · exact wpAny_pyIter_ascii ha (go "str_ascii_iterator" (by decide) (Walks.strAscii hh _ (tx l) t) _ rfl ⟨_, Heap.get?_push_size _ rfl, rfl, rfl⟩)
end
section
variable {c : Cx} {lo : Loc} {ob : Obs} {X : QT Addr} {Q : QT V}
theorem range_1 {q : Int} (h : ∀ a, Q (.ref a) lo ((a, .rng 0 q) :: ob)) : Cal c (.cv (.type "range")) [.int q] Q X lo ob := by
  rintro _ _ rfl hv
  cases hv with
  | cons h1 h2 =>
    cases h2
    obtain ⟨t, rfl⟩ := h1
    rintro z s
    intro hgr201_0
    refine of_gen fun _ kg => ?_
    obtain ⟨m, os, frs, n⟩ := hgr201_0
    refine kg ?_
    exact call_range_1 ⟨.ref s.heap.objs.size, lo, _, rfl, ⟨m, _, frs, n.push (b := .rng 0 q) ⟨_, _, _, rfl⟩ rfl⟩, h _⟩
end
end Mine
end
section
open PySem PySem.W PySem.Calls PySem.Spec PyProof.Rows
set_option Elab.async false
set_option maxRecDepth 100000
set_option linter.unusedVariables false
namespace Mine

noncomputable def Kp (c : Cx) (f : V) : Prop := ∀ cf, VR f cf → ∀ h, c.g.K.In h → ∃ k, (k = Keeper.frame ∨ k = Keeper.machine ∨ k = Keeper.boundFrame) ∧ Looks c.g.M h (keeperOf cf) k
theorem kp_ref {c : Cx} {a : Addr} (hk : keepIn c.g.K (.ref a) = true) : Kp c (.ref a) := by rintro _ rfl h X; exact keeps_K hk h X
theorem kp_blt {c : Cx} {id : String} : Kp c (.cv (.builtin id)) := by rintro _ rfl h X; exact ⟨.machine, .inr (.inl rfl), Looks.now⟩
theorem kp_type {c : Cx} {id : String} : Kp c (.cv (.type id)) := by rintro _ rfl h X; exact ⟨.machine, .inr (.inl rfl), Looks.now⟩

section
variable {c : Cx} {lo : Loc} {ob : Obs} {X : QT Addr} {Q : QT V}
theorem backTo_any {p : Pos} {env : Env} : ∀ {es : List Expr}, noStar es = true → (backTo p (starEach es env)).any (·.1) = false
  | [], _ => rfl
  | e :: r, h => by
    rw [starEach_of h]
    simp [backTo]
theorem evalArgs_of {p : Pos} {es : List Expr} {f : Value} {QS : QT (List V)} (hs : noStar es = true) (h : Args c es QS X lo ob) :
    W c (fun (vs : List V) (a : PySem.Args) => VRs vs a.pos ∧ a.kw = []) (evalArgs f true (backTo p (starEach es c.env)) []) QS X lo ob := fun z s n => by
  rw [starEach_of hs]
  cases es with
  | nil => exact PyProof.Rows.evalArgs_none ⟨[], lo, ob, ⟨.nil, rfl⟩, n, h⟩
  | cons e r => exact Calls.evalArgs_plain (thenQ (spliced_of h z s n) fun cs s' vs lo ob hv n hq => ⟨vs, lo, ob, ⟨hv, rfl⟩, n, hq⟩)
theorem callWith_abs {p : Pos} {es : List Expr} {f : V} {cf : Value} {first : List V} {cfirst : List Value} (ok : c.Ok) (hf : VR f cf) (hfs : VRs first cfirst) (hk : Kp c f) (hs : noStar es = true)
    (h : Args c es (fun vs lo ob => Cal c f (first ++ vs) Q X lo ob) X lo ob) : W c VR (callWith p cf cfirst (backTo p (starEach es c.env)) []) Q X lo ob := fun z s n => by
  refine callWith_of (P := c.g.K.In) (by rw [backTo_any hs]; rfl) (hk cf hf) ?_
  refine thenQ (evalArgs_of hs h z s n) fun a s' vs lo ob hv n hq => ⟨n.K ok, ?_⟩
  rw [hv.2]
  exact hq cf _ hf (hfs.append hv.1) z s' n
theorem W_Call {func : Expr} {es : List Expr} {p : Pos} (ok : c.Ok) (hs : noStar es = true) (h : W c VR (eval func c.env) (fun f lo ob => Kp c f ∧ Args c es (fun vs lo ob => Cal c f vs Q X lo ob) X lo ob) X lo ob)
    (he : eval (.Call func es [] p) c.env = (do callWith p (← eval func c.env) [] (backTo p (starEach es c.env)) (backToKw p (keywordEach [] c.env))) := by rfl) : W c VR (eval (.Call func es [] p) c.env) Q X lo ob := fun z s n =>
  Call_ (thenQ (h z s n) fun cf s' f lo ob hf n h => callWith_abs (first := []) ok hf .nil h.1 hs h.2 z s' n) he

noncomputable abbrev MR : V × List V → Value × List Value → Prop := fun b a => VR b.1 a.1 ∧ VRs b.2 a.2
noncomputable def GetM (c : Cx) (v : V) (name : Str) (Q : V → List V → Loc → Obs → Prop) (X : QT Addr) (lo : Loc) (ob : Obs) : Prop := ∀ cv pl, VR v cv → W c MR (getMethod cv name pl) (fun b lo ob => Q b.1 b.2 lo ob) X lo ob
theorem W_Method {o : Expr} {name : Str} {es : List Expr} {p ap : Pos} {pl : Sem Bool} (ok : c.Ok) (hs : noStar es = true) (h : W c VR (eval o c.env) (fun v lo ob => GetM c v name (fun f first lo ob => Kp c f ∧ Args c es (fun vs lo ob => Cal c f (first ++ vs) Q X lo ob) X lo ob) X lo ob) X lo ob)
    (he : eval (.Call (.Attribute o name ap) es [] p) c.env = (do
      let ov ← eval o c.env
      standAt ap.atName
      let (f, first) ← holding [ov] (getMethod ov name pl)
      callWith p f first (backTo p (starEach es c.env)) []) := by rfl) : W c VR (eval (.Call (.Attribute o name ap) es [] p) c.env) Q X lo ob := fun z s n =>
  MethodCall_ (thenQ (h z s n) fun cv s' v lo ob hv n h => thenQ (h cv pl hv z s' n) fun fx s' b lo ob hb n h => callWith_abs ok hb.1 hb.2 h.1 hs h.2 z s' n) he

noncomputable def GetA (c : Cx) (v : V) (name : Str) (Q : QT V) (X : QT Addr) (lo : Loc) (ob : Obs) : Prop := ∀ cv, VR v cv → W c VR (getAttr cv name true) Q X lo ob
theorem W_Attr {e : Expr} {name : Str} {p : Pos} (h : W c VR (eval e c.env) (fun v lo ob => GetA c v name Q X lo ob) X lo ob)
    (he : eval (.Attribute e name p) c.env = (do
      let o ← eval e c.env
      standAt p.atName
      let r ← holding [o] (getAttr o name true)
      letTemporaryGo e o r
      pure r) := by with_unfolding_all rfl)
    (hl : ∀ o r, letTemporaryGo e o r = pure () := by intro _ _; rfl) : W c VR (eval (.Attribute e name p) c.env) Q X lo ob := fun z s n => by
  rw [he]
  refine wpAny_bind (thenQ (h z s n) fun cv s' v lo ob hv n h => wpAny_bind (wpAny_standAt (wpAny_bind (wpAny_holding (wpAny_mono (h cv hv z s' n) (fun cu s' hu => ?_) fun _ _ x => x)))))
  rw [hl]
  exact wpAny_bind (wpAny_pure (wpAny_pure hu))

/- an object's dict -/
theorem isStr_str (k name : Str) (t : Tok) : (Value.str k t).isStr name = (k == name) := rfl
inductive Ent : List (Str × V) → Str → V → Prop
  | here {k v r} : Ent ((k, v) :: r) k v
  | there {k k' v u r} : k' ≠ k → Ent r k v → Ent ((k', u) :: r) k v
inductive NoEnt : List (Str × V) → Str → Prop
  | nil {k} : NoEnt [] k
  | cons {k k' u r} : k' ≠ k → NoEnt r k → NoEnt ((k', u) :: r) k
inductive EPut : List (Str × V) → Str → V → List (Str × V) → Prop
  | nil {k v} : EPut [] k v [(k, v)]
  | here {k v u r} : EPut ((k, u) :: r) k v ((k, v) :: r)
  | there {k k' v u r r'} : k' ≠ k → EPut r k v r' → EPut ((k', u) :: r) k v ((k', u) :: r')
theorem ERs.noRef {P : Params} {es : List (Str × V)} {cs : List DictEntry} (h : ERs P es cs) : cs.any (·.refKey) = false := by
  induction h with
  | nil => rfl
  | cons _ _ ih => rw [List.any_cons, ih]; rfl
theorem ERs.get {P : Params} {name : Str} {v : V} {es : List (Str × V)} {cs : List DictEntry} (h : Ent es name v) (e : ERs P es cs) : ∃ cv, getL name cs = some (some cv) ∧ VR v cv := by
  induction h generalizing cs with
  | here =>
    cases e with
    | cons hv r =>
      refine ⟨_, ?_, hv⟩
      unfold getL
      rw [List.find?_cons, isStr_str]
      simp
  | there hne _ ih =>
    cases e with
    | cons hv r =>
      refine of_gen fun _ kg => ?_
      obtain ⟨cv, h1, h2⟩ := ih r
      refine kg ?_
      refine ⟨cv, ?_, h2⟩
      unfold getL at h1 ⊢
      rw [List.find?_cons, isStr_str, beq_eq_false_iff_ne.mpr hne]
      rw [List.any_cons]
      exact h1
theorem ERs.no {P : Params} {name : Str} {es : List (Str × V)} {cs : List DictEntry} (h : NoEnt es name) (e : ERs P es cs) : getL name cs = some none := by
  have hf : cs.find? (·.key.isStr name) = none := by
    induction h generalizing cs with
    | nil => cases e; rfl
    | cons hne _ ih =>
      cases e with
      | cons hv r => rw [List.find?_cons, isStr_str, beq_eq_false_iff_ne.mpr hne]; exact ih r
  unfold getL
  rw [hf, e.noRef]
  rfl
theorem ERs.put {P : Params} {name : Str} {v : V} {es es' : List (Str × V)} (h : EPut es name v es') {cs : List DictEntry} (e : ERs P es cs) {cv : Value} (hv : VR v cv) (t : Tok) : ERs P es' (putL name (PyData.keyHash P name) (.str name t) cv cs) := by
  induction h generalizing cs with
  | nil => cases e; exact .cons hv .nil
  | here => cases e with
    | cons _ r => unfold putL; rw [isStr_str]; simp only [beq_self_eq_true, if_true]; exact .cons hv r
  | there hne _ ih => cases e with
    | cons hu r => unfold putL; rw [isStr_str, beq_eq_false_iff_ne.mpr hne]; exact .cons hu (ih r hv)
theorem ERs.length {P : Params} {es : List (Str × V)} {cs : List DictEntry} (h : ERs P es cs) : cs.length = es.length := by
  induction h with
  | nil => rfl
  | cons _ _ ih => exact congrArg Nat.succ ih
theorem getL_some {P : Params} {name : Str} : ∀ {es : List (Str × V)} {cs : List DictEntry}, ERs P es cs → (getL name cs).isSome = true := by
  intro es cs e
  unfold getL
  rw [e.noRef]
  split <;> rfl

theorem InstAt.of {z : List (Addr × Obj)} {s : Shared} {x C d : Addr} {es : List (Str × V)} (n : Now c z lo ob s) (h1 : (x, .inst C d) ∈ ob) (h2 : (d, .dct es) ∈ ob) : ∃ cs k, InstAt s.heap x (instObj C d) C (some (dictOf cs k)) ∧ ERs c.g.w.params es cs := by
  refine of_gen fun _ kg => ?_
  obtain ⟨m, os, frs, n⟩ := n
  obtain ⟨o1, _, _, g1, e1⟩ := n.mem h1
  obtain ⟨o2, _, _, g2, cs, k, e2, hr⟩ := n.mem h2
  refine kg ?_
  cases e1
  subst e2
  exact ⟨cs, k, ⟨g1, rfl, rfl, g2⟩, hr⟩
theorem getm_inst {x C d f : Addr} {es : List (Str × V)} {name : Str} {Q : V → List V → Loc → Obs → Prop} (ok : c.Ok) (h1 : (x, .inst C d) ∈ ob) (h2 : (d, .dct es) ∈ ob) (hg : plainGet c.g.K C name = true) (hf : findIn c.g.K (.ref C) name = some (some (.ref f))) (ht : isFn c.g.K (.ref f) = true) (hl : NoEnt es name)
    (h : Q (.ref f) [.ref x] lo ob) : GetM c (.ref x) name Q X lo ob := by
  rintro _ pl rfl z s n
  refine of_gen fun _ kg => ?_
  obtain ⟨cs, k, I, hr⟩ := InstAt.of n h1 h2
  refine kg ?_
  have n0 := n
  refine of_gen fun _ kg => ?_
  obtain ⟨m, os, frs, n⟩ := n
  refine kg ?_
  exact method_inst n.F ok.g.X I hg hf ht (hr.no hl) ⟨(.ref f, [.ref x]), lo, ob, ⟨rfl, .one rfl⟩, n0, h⟩
noncomputable def handedV : V → Bool
  | .cv v => handedIn v
  | .ref a => handedIn (.ref a)
  | _ => true
theorem handed_of {v : V} {cv : Value} (h : VR v cv) (hh : handedV v = true) : handedIn cv = true := by
  cases v with
  | none => cases h; rfl
  | bool b => cases h; rfl
  | int i => obtain ⟨t, rfl⟩ := h; rfl
  | str l => obtain ⟨t, rfl⟩ := h; rfl
  | bytes l => obtain ⟨b, t, rfl, _⟩ := h; rfl
  | ref a => cases h; exact hh
  | cv v => cases h; exact hh
theorem geta_own {x C d : Addr} {es : List (Str × V)} {name : Str} {v : V} {attr : Option Value} (ok : c.Ok) (h1 : (x, .inst C d) ∈ ob) (h2 : (d, .dct es) ∈ ob) (hg : plainGet c.g.K C name = true) (hh : hasDictIn c.g.K C = true) (ha : findIn c.g.K (.ref C) name = some attr) (hn : noGet c.g.K attr = true) (hl : Ent es name v) (hv : handedV v = true)
    (h : Q v lo ob) : GetA c (.ref x) name Q X lo ob := by
  rintro _ rfl z s n
  refine of_gen fun _ kg => ?_
  obtain ⟨cs, k, I, hr⟩ := InstAt.of n h1 h2
  refine kg ?_
  have n0 := n
  refine of_gen fun _ kg => ?_
  obtain ⟨m, os, frs, n⟩ := n
  obtain ⟨cv, e, hcv⟩ := hr.get hl
  refine kg ?_
  exact get_own n.F ok.g.X I hg hh ha hn e (handed_of hcv hv) (LQ.mk hcv (n0.toks rfl) h)
end
end Mine
end
section
open PySem PySem.W PySem.Calls PySem.Spec PyProof.Rows
set_option Elab.async false
set_option maxRecDepth 100000
set_option linter.unusedVariables false
namespace Mine

noncomputable abbrev callee (c : Cx) (A : Around) (env : Env) (L : Addr) (oL : Obj) (frs : List (Addr × Obj)) (d : Nat) : Cx :=
  { g := c.g, B := A.deeper env, env := env, fenv := env, ns := env.scope.names, outer := c.fenv :: c.outer, frs0 := (L, oL) :: frs, rest := [], cv := none, d := d }

noncomputable def LeavesOK (X : QT Addr) (X' : Addr → Obs → Prop) : Prop := ∀ (c : Cx) (A : Around) (env : Env) (oL : Obj) (frs : List (Addr × Obj)) (d : Nat) (m : Str → Option Value) (z : List (Addr × Obj)) (lo : Loc) (e : Value) (s : Shared),
  c.Ok → (callee c A env c.L oL frs d).Ok → Fram c.outer c.frs0 frs → LR c.ns lo m → (∃ es ep, oL.data = .dict es ep ∧ StrKeys es ∧ ∀ name, nsFind es name = m name) → c.g.hb.objs.size ≤ c.L → (∀ p ∈ frs, p.1 ≠ c.L) →
  LX (callee c A env c.L oL frs d) (c.rest ++ z) X e s →
  wpAny c.g.M (A.deeper env) (leaving env e) (fun _ s' => ∃ a ob, e = .ref a ∧ Exc c z a lo ob s' ∧ X' a ob) (fun e' s' => ∃ a ob, e' = .ref a ∧ Exc c z a lo ob s' ∧ X' a ob) s
theorem leaves_never {X' : Addr → Obs → Prop} : LeavesOK (fun _ _ _ => False) X' := by
  rintro c A env oL frs d m z lo e s _ _ _ _ _ _ _
  intro hgr17_0
  refine of_gen fun _ kg => ?_
  obtain ⟨_, _, _, _, _, h⟩ := hgr17_0
  refine kg ?_
  exact h.elim

noncomputable def FnR (c : Cx) (z : List (Addr × Obj)) (lo : Loc) (Q : V → Obs → Prop) (X : Addr → Obs → Prop) : Result → Shared → Prop := fun r s => match r with
  | .ok (.ret v) => ∃ u ob, VR u v ∧ Now c z lo ob s ∧ Q u ob
  | .ok _ => False
  | .error e => ∃ a ob, e = .ref a ∧ Exc c z a lo ob s ∧ X a ob
noncomputable def FnH (g : G) (f : Addr) (args : List V) (d : Nat) (H : Option Value → Prop) (Q : V → Obs → Prop) (X : Addr → Obs → Prop) (ob : Obs) : Prop :=
  ∀ (c : Cx) (A : Around), c.Ok → c.g = g → A.frames = some (c.fenv :: c.outer) → A.depth + d < recursionLimit → A.units + 4 * d + 100 < cLine → H A.handled → ∀ cas, VRs args cas → ∀ z lo s, Now c z lo ob s → codeAny g.M A (.call (.ref f) ⟨cas, []⟩) (FnR c z lo Q X) s
noncomputable def Hq (hq : Bool) (o : Option Value) : Prop := hq = false → o = none
noncomputable def FnC (g : G) (f : Addr) (args : List V) (d : Nat) (hq : Bool) (Q : V → Obs → Prop) (X : Addr → Obs → Prop) (ob : Obs) : Prop := FnH g f args d (Hq hq) Q X ob

section
variable {c : Cx} {lo : Loc} {ob : Obs} {X : QT Addr} {Q : QT V}
theorem cal_fn {f : Addr} {args : List V} {d : Nat} {hq : Bool} {QF : V → Obs → Prop} {XF : Addr → Obs → Prop} (ok : c.Ok) (F : FnC c.g f args d hq QF XF ob) (hd : d ≤ c.d) (hh : hq = true ∨ c.B.handled = none) (hQ : ∀ v ob, QF v ob → Q v lo ob) (hX : ∀ a ob, XF a ob → X a lo ob) : Cal c (.ref f) args Q X lo ob := by
  rintro _ cas rfl hv z s n
  refine wpAny_call (codeAny_mono (F c c.B ok rfl ok.fr (by have := ok.room; omega) (by have := ok.un; omega) (fun h => hh.resolve_left (by rw [h]; simp)) cas hv z lo s n) fun r s' hr => ?_)
  match r with
  | .ok (.ret v) => obtain ⟨u, ob, hu, n, hq⟩ := hr; exact ⟨u, lo, ob, hu, n, hQ _ _ hq⟩
  | .ok .next => exact hr.elim
  | .ok .brk => exact hr.elim
  | .ok .cont => exact hr.elim
  | .error e => obtain ⟨a, ob, rfl, n, hq⟩ := hr; exact ⟨a, lo, ob, rfl, n, hX _ _ hq⟩
theorem FnH.mono {g : G} {f : Addr} {args : List V} {d : Nat} {H : Option Value → Prop} {Q Q' : V → Obs → Prop} {X X' : Addr → Obs → Prop} (F : FnH g f args d H Q X ob) (hQ : ∀ v ob, Q v ob → Q' v ob) (hX : ∀ a ob, X a ob → X' a ob) : FnH g f args d H Q' X' ob := by
  intro c A ok hg hf hd hu hh cas hv z lo s n
  refine codeAny_mono (F c A ok hg hf hd hu hh cas hv z lo s n) fun r s' hr => ?_
  match r with
  | .ok (.ret v) => obtain ⟨u, ob, hu, n, hq⟩ := hr; exact ⟨u, ob, hu, n, hQ _ _ hq⟩
  | .ok .next => exact hr.elim
  | .ok .brk => exact hr.elim
  | .ok .cont => exact hr.elim
  | .error e => obtain ⟨a, ob, rfl, n, hq⟩ := hr; exact ⟨a, ob, rfl, n, hX _ _ hq⟩
theorem FnH.frame {g : G} {f : Addr} {args : List V} {d : Nat} {H : Option Value → Prop} {Q : V → Obs → Prop} {X : Addr → Obs → Prop} {small oth : Obs} (p : Picks ob small oth) (F : FnH g f args d H (fun v ob => Q v (ob ++ oth)) (fun a ob => X a (ob ++ oth)) small) : FnH g f args d H Q X ob := by
  intro c A ok hg hf hd hu hh cas hv z lo s n
  refine of_gen fun _ kg => ?_
  obtain ⟨m, os, frs, n⟩ := n.perm p.perm
  obtain ⟨o1, o2, ho, rfl, n1⟩ := n.out
  refine kg ?_
  refine codeAny_mono (F c A ok hg hf hd hu hh cas hv (o2 ++ z) lo s ⟨m, o1, frs, n1⟩) fun r s' hr => ?_
  match r with
  | .ok (.ret v) => obtain ⟨u, ob, hu, ⟨m, os, frs, n⟩, hq⟩ := hr; subst hg; exact ⟨u, _, hu, ⟨m, _, frs, n.back ho⟩, hq⟩
  | .ok .next => exact hr.elim
  | .ok .brk => exact hr.elim
  | .ok .cont => exact hr.elim
  | .error e =>
    refine of_gen fun _ kg => ?_
    obtain ⟨a, ob, rfl, ⟨⟨k, d, r, hm⟩, m, os, frs, n, t⟩, hq⟩ := hr
    refine kg ?_
    refine ⟨a, _, rfl, ⟨⟨k, d, r, List.mem_append_left _ hm⟩, m, _, frs, n.back ho, t.sub fun x hx => ?_⟩, hq⟩
    simp only [List.map_append, List.mem_append] at hx ⊢
    rcases hx with (h | h) | (h | h) | h
    · exact .inl h
    · exact .inr (.inl (.inr (.inl h)))
    · exact .inr (.inl (.inl h))
    · exact .inr (.inl (.inr (.inr h)))
    · exact .inr (.inr h)

theorem FnC.mono {g : G} {f : Addr} {args : List V} {d : Nat} {hq : Bool} {Q Q' : V → Obs → Prop} {X X' : Addr → Obs → Prop} (F : FnC g f args d hq Q X ob) (hQ : ∀ v ob, Q v ob → Q' v ob) (hX : ∀ a ob, X a ob → X' a ob) : FnC g f args d hq Q' X' ob := FnH.mono F hQ hX
theorem FnC.frame {g : G} {f : Addr} {args : List V} {d : Nat} {hq : Bool} {Q : V → Obs → Prop} {X : Addr → Obs → Prop} {small oth : Obs} (p : Picks ob small oth) (F : FnC g f args d hq (fun v ob => Q v (ob ++ oth)) (fun a ob => X a (ob ++ oth)) small) : FnC g f args d hq Q X ob := FnH.frame p F

theorem mem_of_lookup {β : Type} {x : Str} {w : β} : ∀ {r : List (Str × β)}, r.lookup x = some w → (x, w) ∈ r
  | [], h => by cases h
  | (a, b) :: r, h => by
    rw [List.lookup_cons] at h
    by_cases q : x = a
    · subst q; simp at h; subst h; exact .head _
    · have e : (x == a) = false := by simpa using q
      rw [e] at h
      exact .tail _ (mem_of_lookup h)
noncomputable def iniL (ns : Nms) (kv : List (Str × V)) : Loc := ns.map fun p => if p.2 == .local then kv.lookup p.1 else none
theorem iniL_has {kv : List (Str × V)} {x : Str} {v : V} : ∀ {ns : Nms}, Has ns (iniL ns kv) x v → kv.lookup x = some v := by
  intro ns
  induction ns with
  | nil => intro h; cases h
  | cons p r ih =>
    intro h
    generalize hl : iniL (p :: r) kv = l at h
    cases h with
    | here =>
      simp only [iniL, List.map_cons] at hl
      injection hl with h1 h2
    | there h =>
      simp only [iniL, List.map_cons] at hl
      injection hl with h1 h2
      subst h2
      exact ih h
theorem lookup_zip {pn : List Str} {vs : List V} {cs : List Value} (hr : VRs vs cs) (hn : pn.Nodup) {x : Str} {v : V} (h : (pn.zip vs).lookup x = some v) : ∃ cv, (pn.zip cs).reverse.lookup x = some cv ∧ VR v cv := by
  have key : ∀ {pn : List Str} {vs : List V} {cs : List Value}, VRs vs cs → (pn.zip vs).lookup x = some v → ∃ cv, (pn.zip cs).lookup x = some cv ∧ VR v cv := by
    intro pn vs cs hr h
    induction hr generalizing pn with
    | nil => cases pn <;> cases h
    | cons h1 _ ih =>
      cases pn with
      | nil => cases h
      | cons a pn =>
        rw [List.zip_cons_cons, List.lookup_cons] at h ⊢
        by_cases q : x = a
        · subst q; simp at h; subst h; exact ⟨_, by simp, h1⟩
        · have e : (x == a) = false := by simpa using q
          rw [e] at h ⊢
          exact ih h
  obtain ⟨cv, h1, h2⟩ := key hr h
  refine ⟨cv, ?_, h2⟩
  -- a lookup from behind is the same where the names differ
  have rev : ∀ {l : List (Str × Value)}, (l.map (·.1)).Nodup → l.reverse.lookup x = l.lookup x := by
    intro l hl
    induction l with
    | nil => rfl
    | cons p r ih =>
      obtain ⟨a, b⟩ := p
      rw [List.map_cons, List.nodup_cons] at hl
      rw [List.reverse_cons, List.lookup_append, ih hl.2, List.lookup_cons, List.lookup_cons]
      by_cases q : x = a
      · subst q
        have : r.lookup x = none := by
          cases hq : r.lookup x with
          | none => rfl
          | some w => exact absurd (List.mem_map_of_mem (f := (·.1)) (mem_of_lookup hq)) hl.1
        simp [this]
      · have e : (x == a) = false := by simpa using q
        simp [e]
  rw [rev ?_]
  · exact h1
  · have e : ((pn.zip cs).map (·.1)).Sublist pn := by
      clear h h1 h2 hr rev key
      induction pn generalizing cs with
      | nil => simp
      | cons a pn ih =>
        cases cs with
        | nil => simp
        | cons c cs => simp only [List.zip_cons_cons, List.map_cons]; exact (ih (List.nodup_cons.mp hn).2).cons_cons _
    exact hn.sublist e
end
end Mine
end
section
open PySem PySem.W PySem.Calls PySem.Spec PyProof.Rows
set_option Elab.async false
set_option maxRecDepth 100000
set_option linter.unusedVariables false
namespace Mine

noncomputable def FnQ (Q : V → Obs → Prop) : QT AF := fun f _ ob => match f with
  | .ret v => Q v ob
  | _ => Q .none ob

noncomputable def WP {α β : Type} (c : Cx) (rel : β → α → Prop) (t : Sem α) (Q : QT β) (X : QT Addr) (lo : Loc) (ob : Obs) : Prop :=
  ∀ z s, Now c z lo ob s → 0 < s.toks → wpAny c.g.M c.B t (LQ c z rel Q) (LX c z X) s
theorem fn_introP {g : G} {f : Addr} {args : List V} {d : Nat} {hq : Bool} {Q : V → Obs → Prop} {X : QT Addr} {X' : Addr → Obs → Prop} {ob : Obs} {lo0 : Loc} {pn : List Str}
    {name qual : Str} {params : Arguments} {body : List Stmt} {scope : Scope} {dV kV doc pm cdv ct oc : Value} {an od : Option Addr} {osl : Array (Option Value)}
    (ho : g.K.lookup f = some ⟨oc, od, .func (fnOf name qual params body scope dV kV doc pm an cdv ct), osl⟩) (hcd : codeIn g.K cdv qual = true)
    (hbind : ∀ (s : Shared) cas, g.K.In s.heap → VRs args cas → BindsTo s (fnOf name qual params body scope dV kV doc pm an cdv ct) ⟨cas, []⟩ (pn.zip cas))
    (hpn : pn.Nodup) (hlo : iniL scope.names (pn.zip args) = lo0) (hloc : ∀ y ∈ pn, scope.names.lookup y = some .local) (hnd : (scope.names.map (·.1)).Nodup)
    (hcell : ∀ x ∈ scope.names, x.2 ≠ .cell) (hX : LeavesOK X X')
    (h : ∀ c : Cx, c.Ok → c.g = g → c.env = envOf qual scope c.L f cdv → c.ns = scope.names → c.env.scope.names = scope.names → c.cv = none → c.d = d → (hq = false → c.B.handled = none) → ∀ z s, Now c z lo0 ob s → (args ≠ [] → pn ≠ [] → 0 < s.toks) → wpAny c.g.M c.B (execs body c.env) (LQ c z FR (FnQ Q)) (LX c z X) s)
    (hco : scope.isCoroutine = false := by rfl) (hgen : scope.isGenerator = false := by rfl) (hk : scope.kind = .function := by rfl) : FnC g f args (d + 1) hq Q X' ob := by
  intro c A ok hg hf hd hun hh cas hv z lo s n
  subst hg
  have n0 := n
  refine of_gen fun _ kg => ?_
  obtain ⟨m, os, frs, n⟩ := n
  refine kg ?_
  have F := n.F
  have X₀ := ok.g.X.keeps F.keep
  refine of_gen fun _ kg => ?_
  obtain ⟨oL, es, ep, hL, hLd, hLk, hLf⟩ := F.ns
  refine kg ?_
  have hLt := Heap.lt_size hL
  have hfst : ∀ y ∈ pn.zip cas, scope.names.lookup y.1 = some .local := fun y hy => hloc _ (List.of_mem_zip hy).1
  refine codeAny_call_def (fd := fnOf name qual params body scope dV kV doc pm an cdv ct) (body := body) (binds := pn.zip cas) (by omega) (X₀ _ _ ho) rfl (ok.g.T.nolimit.keeps F.keep) (codeRec_of X₀ hcd) rfl (hbind _ _ X₀ hv) hcell hfst (fun h₁ hns hk₁ => ?_) hco hgen hk
  have up : ∀ b o, s.heap.get? b = some o → h₁.get? b = some o := fun b o e => hk₁ b o e
  have ok' : (callee c A (envOf qual scope s.heap.objs.size f cdv) c.L oL frs d).Ok := by
    refine ⟨ok.g, ?_, rfl, hnd, rfl, hk, rfl, hk, rfl, rfl, hnd, ?_, ?_, fun _ => rfl, (fun _ h => nomatch h), fun _ _ _ h => h⟩
    · show A.frames.map _ = _
      rw [hf]; rfl
    · show A.depth + 1 + d < _
      omega
    · show A.units + 3 + 4 * d + 100 < _
      omega
  have n' : NowAt (callee c A (envOf qual scope s.heap.objs.size f cdv) c.L oL frs d) (c.rest ++ z) lo0 ob { s with heap := h₁, toks := s.toks + (pn.zip cas).length } (fun y => (pn.zip cas).reverse.lookup y) os ((c.L, oL) :: frs) := by
    refine ⟨⟨hns, fun b o e => up b o (F.keep b o e), Nat.le_trans F.above (Nat.le_of_lt hLt)⟩, fun x v hx => ?_, n.rs, fun q hq => ?_, n.nd, ⟨⟨?_, ok.fframe, ⟨es, ep, hLd⟩, n.fm.fs⟩, TI.SameUp.refl _⟩, (fun a ha hm => ?_), n.og⟩
    · subst hlo
      exact lookup_zip hv hpn (iniL_has hx)
    · have hin : s.heap.get? q.1 = some q.2 ∧ c.g.hb.get? q.1 = none := by
        simp only [List.nil_append, List.mem_append, List.mem_cons] at hq
        rcases hq with h | (h | h) | rfl | h
        · exact ⟨(n.N q (by simp [h])).1, (n.N q (by simp [h])).2.2⟩
        · exact ⟨(n.N q (by simp [h])).1, (n.N q (by simp [h])).2.2⟩
        · exact ⟨(n.N q (by simp [h])).1, (n.N q (by simp [h])).2.2⟩
        · exact ⟨hL, Heap.get?_none_of_le F.above⟩
        · exact ⟨(n.N q (by simp [h])).1, (n.N q (by simp [h])).2.2⟩
      exact ⟨up _ _ hin.1, Nat.ne_of_lt (Heap.lt_size hin.1), hin.2⟩
    · rw [ok.fkind]; decide
    · rcases List.mem_cons.mp hm with e | hm
      · obtain ⟨q, hq, e'⟩ := List.mem_map.mp ha
        have hq' : q ∈ os ++ ((c.rest ++ z) ++ frs) := by
          simp only [List.nil_append, List.mem_append] at hq ⊢
          rcases hq with h | h | h
          · exact .inl h
          · exact .inr (.inl (.inl h))
          · exact .inr (.inl (.inr h))
        exact (n.N q hq').2.1 (e'.trans e)
      · exact n.ap a ha (by rw [← sameUp_addrs n.fm.su]; exact hm)
  have hpos : args ≠ [] → pn ≠ [] → 0 < s.toks + (pn.zip cas).length := by
    intro hp0 hpl
    cases hv with
    | nil => exact absurd rfl hp0
    | cons _ _ =>
      cases pn with
      | nil => exact absurd rfl hpl
      | cons _ _ => exact Nat.succ_pos _
  refine wpAny_mono (h _ ok' rfl rfl rfl rfl rfl rfl (fun q => hh q) (c.rest ++ z) _ ⟨_, os, _, n'⟩ hpos) (fun fl s' hl => ?_) fun e s' hx => ?_
  · obtain ⟨gf, lo', ob', hg', ⟨m', os', frs', nn⟩, hq'⟩ := hl
    have nn2 : Now c z lo ob' s' := by
      refine ⟨m, os', frs'.tail, ?_⟩
      have hsu := nn.fm.su
      cases frs' with
      | nil => exact hsu.elim
      | cons q qs =>
        refine of_gen fun _ kg => ?_
        obtain ⟨h1, ⟨sl, h2⟩, SU'⟩ := hsu
        refine kg ?_
        have hq := (nn.N q (List.mem_append_right _ (List.mem_append_right _ List.mem_cons_self))).1
        have h1' : q.1 = c.L := h1
        have h2' : q.2 = { oL with slots := sl } := h2
        rw [h1', h2'] at hq
        have hap : ∀ a ∈ (os' ++ (c.rest ++ z)).map (·.1), a ≠ c.L ∧ a ∉ frs.map (·.1) := fun a ha => ⟨fun e => nn.ap a ha (by rw [e]; exact .head _), fun hm => nn.ap a ha (.tail _ hm)⟩
        refine ⟨⟨⟨_, es, ep, hq, hLd, hLk, hLf⟩, nn.F.keep, F.above⟩, n.lr, nn.rs, fun r hr => ?_, nn.nd, n.fm.up SU', (fun a ha hm => ?_), nn.og⟩
        · rw [List.tail_cons] at hr
          have hr' : r ∈ os' ++ (([] ++ (c.rest ++ z)) ++ q :: qs) := by
            simp only [List.nil_append, List.mem_append, List.mem_cons] at hr ⊢
            rcases hr with h | (h | h) | h
            · exact .inl h
            · exact .inr (.inl (.inl h))
            · exact .inr (.inl (.inr h))
            · exact .inr (.inr (.inr h))
          refine ⟨(nn.N r hr').1, ?_, (nn.N r hr').2.2⟩
          simp only [List.mem_append] at hr
          rcases hr with h | (h | h) | h
          · exact (hap r.1 (List.mem_map_of_mem (by simp [h]))).1
          · exact (hap r.1 (List.mem_map_of_mem (by simp [h]))).1
          · exact (hap r.1 (List.mem_map_of_mem (by simp [h]))).1
          · obtain ⟨r₀, hr₀, e⟩ := TI.SameUp.fwd SU' r h
            rw [e]
            exact (n.N r₀ (List.mem_append_right _ (List.mem_append_right _ hr₀))).2.1
        · exact (hap a ha).2 (by rw [← sameUp_addrs n.fm.su] at hm; exact hm)
    cases gf with
    | next => cases hg'; exact ⟨V.none, ob', rfl, nn2, hq'⟩
    | brk => cases hg'; exact ⟨V.none, ob', rfl, nn2, hq'⟩
    | cont => cases hg'; exact ⟨V.none, ob', rfl, nn2, hq'⟩
    | ret v => obtain ⟨cv, rfl, hr⟩ := hg'; exact ⟨v, ob', hr, nn2, hq'⟩
  · exact hX c A (envOf qual scope s.heap.objs.size f cdv) oL frs d m z lo e s' ok ok' n.fm n.lr ⟨es, ep, hLd, hLk, hLf⟩ F.above (fun p hp => (n.N p (List.mem_append_right _ (List.mem_append_right _ hp))).2.1) hx
theorem fn_intro {g : G} {f : Addr} {args : List V} {d : Nat} {hq : Bool} {Q : V → Obs → Prop} {X : QT Addr} {X' : Addr → Obs → Prop} {ob : Obs} {lo0 : Loc} {pn : List Str}
    {name qual : Str} {params : Arguments} {body : List Stmt} {scope : Scope} {dV kV doc pm cdv ct oc : Value} {an od : Option Addr} {osl : Array (Option Value)}
    (ho : g.K.lookup f = some ⟨oc, od, .func (fnOf name qual params body scope dV kV doc pm an cdv ct), osl⟩) (hcd : codeIn g.K cdv qual = true)
    (hbind : ∀ (s : Shared) cas, g.K.In s.heap → VRs args cas → BindsTo s (fnOf name qual params body scope dV kV doc pm an cdv ct) ⟨cas, []⟩ (pn.zip cas))
    (hpn : pn.Nodup) (hlo : iniL scope.names (pn.zip args) = lo0) (hloc : ∀ y ∈ pn, scope.names.lookup y = some .local) (hnd : (scope.names.map (·.1)).Nodup)
    (hcell : ∀ x ∈ scope.names, x.2 ≠ .cell) (hX : LeavesOK X X')
    (h : ∀ c : Cx, c.Ok → c.g = g → c.env = envOf qual scope c.L f cdv → c.ns = scope.names → c.env.scope.names = scope.names → c.cv = none → c.d = d → (hq = false → c.B.handled = none) → W c FR (execs body c.env) (FnQ Q) X lo0 ob)
    (hco : scope.isCoroutine = false := by rfl) (hgen : scope.isGenerator = false := by rfl) (hk : scope.kind = .function := by rfl) : FnC g f args (d + 1) hq Q X' ob :=
  fn_introP ho hcd hbind hpn hlo hloc hnd hcell hX (fun c a1 a2 a3 a4 a5 a6 a7 a8 z s n _ => h c a1 a2 a3 a4 a5 a6 a7 a8 z s n) hco hgen hk
theorem fn_introW {g : G} {f : Addr} {args : List V} {d : Nat} {hq : Bool} {Q : V → Obs → Prop} {X : QT Addr} {X' : Addr → Obs → Prop} {ob : Obs} {lo0 : Loc} {pn : List Str}
    {name qual : Str} {params : Arguments} {body : List Stmt} {scope : Scope} {dV kV doc pm cdv ct oc : Value} {an od : Option Addr} {osl : Array (Option Value)}
    (ho : g.K.lookup f = some ⟨oc, od, .func (fnOf name qual params body scope dV kV doc pm an cdv ct), osl⟩) (hcd : codeIn g.K cdv qual = true)
    (hbind : ∀ (s : Shared) cas, g.K.In s.heap → VRs args cas → BindsTo s (fnOf name qual params body scope dV kV doc pm an cdv ct) ⟨cas, []⟩ (pn.zip cas))
    (hp0 : args ≠ []) (hpl : pn ≠ []) (hpn : pn.Nodup) (hlo : iniL scope.names (pn.zip args) = lo0) (hloc : ∀ y ∈ pn, scope.names.lookup y = some .local) (hnd : (scope.names.map (·.1)).Nodup)
    (hcell : ∀ x ∈ scope.names, x.2 ≠ .cell) (hX : LeavesOK X X')
    (h : ∀ c : Cx, c.Ok → c.g = g → c.env = envOf qual scope c.L f cdv → c.ns = scope.names → c.env.scope.names = scope.names → c.cv = none → c.d = d → (hq = false → c.B.handled = none) → WP c FR (execs body c.env) (FnQ Q) X lo0 ob)
    (hco : scope.isCoroutine = false := by rfl) (hgen : scope.isGenerator = false := by rfl) (hk : scope.kind = .function := by rfl) : FnC g f args (d + 1) hq Q X' ob :=
  fn_introP ho hcd hbind hpn hlo hloc hnd hcell hX (fun c a1 a2 a3 a4 a5 a6 a7 a8 z s n hp => h c a1 a2 a3 a4 a5 a6 a7 a8 z s n (hp hp0 hpl)) hco hgen hk
end Mine
end
section
open PySem PySem.W PySem.Calls PySem.Spec PyProof.Rows
set_option Elab.async false
set_option maxRecDepth 100000
set_option linter.unusedVariables false
namespace Mine

section
variable {c : Cx} {lo : Loc} {ob : Obs} {X : QT Addr} {Q : QT V}
theorem exc_new {z : List (Addr × Obj)} {s : Shared} {m : Str → Option Value} {os frs : List (Addr × Obj)} (n : NowAt c z lo ob s m os frs) {h' : Heap} {tk : Nat} {e : Addr} {T : String} (hx : Heap.NewExc s.heap h' e T) :
    Exc c z e lo ((e, .exc (.type T) none none) :: ob) { s with heap := h', toks := tk } := by
  obtain ⟨o, t, he, hcls, hd⟩ := hx.there
  refine ⟨⟨_, _, _, .head _⟩, m, (e, o) :: os, frs, n.add (s' := { s with heap := h', toks := tk }) (n.F.keeps hx.keeps) (fun p hp => ?_) ⟨hcls, (by intro _ h; cases h), t, #[Value.none, Value.none, Value.none, Value.bool false, Value.none], hd, rfl, (by intro _ h; cases h), (fun _ => rfl)⟩ (fun p hp q => ?_), o, _, he, hd, .inl rfl⟩
  · rcases List.mem_cons.mp hp with rfl | hp
    · refine ⟨he, fun q => ?_, ?_⟩
      · obtain ⟨oL, es, ep, hL, _⟩ := n.F.ns
        have := hx.new
        rw [show e = c.L from q, hL] at this; cases this
      · cases hq : c.g.hb.get? e with
        | none => rfl
        | some w => have := n.F.keep e w hq; rw [hx.new] at this; cases this
    · exact ⟨hx.keeps _ _ (n.N p hp).1, (n.N p hp).2⟩
  · have := (n.N p hp).1
    rw [q, hx.new] at this; cases this
theorem VRs1 {v : V} {cs : List Value} (h : VRs [v] cs) : ∃ c, cs = [c] ∧ VR v c := by
  cases h with
  | cons a r => cases r; exact ⟨_, rfl, a⟩
theorem VRs2 {v w : V} {cs : List Value} (h : VRs [v, w] cs) : ∃ c d, cs = [c, d] ∧ VR v c ∧ VR w d := by
  cases h with
  | cons a r => cases r with
    | cons b r => cases r; exact ⟨_, _, rfl, a, b⟩
theorem VRs3 {v w x : V} {cs : List Value} (h : VRs [v, w, x] cs) : ∃ c d e, cs = [c, d, e] ∧ VR v c ∧ VR w d ∧ VR x e := by
  cases h with
  | cons a r => cases r with
    | cons b r => cases r with
      | cons d r => cases r; exact ⟨_, _, _, rfl, a, b, d⟩

theorem sub_str {value slice : Expr} {l : List Nat} {i : Int} (hh : c.B.handled = none) (h0 : 0 ≤ i) (h63 : i < 9223372036854775808) (hin : ∀ k, l[i.toNat]? = some k → Q (.str [k]) lo ob)
    (hout : l[i.toNat]? = none → ∀ e, X e lo ((e, .exc (.type "IndexError") none none) :: ob)) (hs : ∀ t u, subscripted slice false (.str (tx l) t) (.int i u) = operate [.str (tx l) t, .int i u] (getItem (.str (tx l) t) (.int i u)) := by intro _ _; with_unfolding_all rfl) : Sub2 c value slice (.str l) (.int i) Q X lo ob := by
  rintro _ _ ⟨t, rfl⟩ ⟨u, rfl⟩ z s n
  refine str_item_T hh h0 h63 (fun k hk => LQ.str (n.toks rfl) (hin k hk)) (fun hn h' tk e hx => ?_) (hs t u)
  obtain ⟨m, os, frs, n⟩ := n
  exact ⟨e, lo, _, rfl, exc_new n hx, hout hn e⟩

theorem len_str {l : List Nat} (hz : l.length ≤ 100000) (h : Q (.int l.length) lo ob) : Cal c (.cv (.builtin "len")) [.str l] Q X lo ob := by
  rintro _ cs rfl hv z s n
  obtain ⟨_, rfl, t, rfl⟩ := VRs1 hv
  exact len_tx hz (LQ.int (n.toks rfl) h)
theorem ord_1 {k : Nat} (h : Q (.int k) lo ob) : Cal c (.cv (.builtin "ord")) [.str [k]] Q X lo ob := by
  rintro _ cs rfl hv z s n
  obtain ⟨_, rfl, t, rfl⟩ := VRs1 hv
  exact P.ord_of_char (LQ.int (n.toks rfl) h)
theorem isi_str_str {l : List Nat} (h : Q (.bool true) lo ob) : Cal c (.cv (.builtin "isinstance")) [.str l, .cv (.type "str")] Q X lo ob := by
  rintro _ cs rfl hv z s n
  obtain ⟨_, _, rfl, ⟨t, rfl⟩, rfl⟩ := VRs2 hv
  exact IsiPair.str_str (LQ.bool n h)
theorem isi_bytes_str {l : List Nat} (ok : c.Ok) (h : Q (.bool false) lo ob) : Cal c (.cv (.builtin "isinstance")) [.bytes l, .cv (.type "str")] Q X lo ob := by
  rintro _ cs rfl hv z s n
  obtain ⟨_, _, rfl, ⟨b, t, rfl, _⟩, rfl⟩ := VRs2 hv
  exact kia_one (K := c.g.K) (b := false) kitx_bytes (n.K ok) trivial (by kernel_rfl) (by intro e; cases e) fun tk => LQ.bool (n.toks rfl) h
theorem str_latin1 {l : List Nat} (hz : l.length ≤ 100000) (h : Q (.str l) lo ob) : Cal c (.cv (.type "str")) [.bytes l, .str [108, 97, 116, 105, 110, 49]] Q X lo ob := by
  rintro _ cs rfl hv z s n
  obtain ⟨_, _, rfl, ⟨b, t, rfl, hb⟩, u, rfl⟩ := VRs2 hv
  have e : tx [108, 97, 116, 105, 110, 49] = Str.ofString "latin1" := by decide +kernel
  rw [e]
  exact str_latin_tx hb (by rw [sizeLine_eq]; omega) fun t' k' => LQ.str (n.toks rfl) h
end
end Mine
namespace Mine
end Mine
end
section
open PySem PySem.W PySem.Calls PySem.Spec PyProof.Rows
set_option Elab.async false
set_option maxRecDepth 100000
set_option linter.unusedVariables false
namespace Mine
section
variable {c : Cx} {lo : Loc} {ob : Obs} {X : QT Addr} {Q : QT V} {QB : QT Bool} {P P' : Prop} {e : Expr} {r : List Expr}
theorem args_nil' {Q : List V → Loc → Obs → Prop} (h : Q [] lo ob) : Args c [] Q X lo ob := h
theorem args_cons' {Q : List V → Loc → Obs → Prop} (h : W c VR (eval e c.env) (fun v lo ob => Args c r (fun vs lo ob => Q (v :: vs) lo ob) X lo ob) X lo ob) : Args c (e :: r) Q X lo ob := h
theorem br_t (h : P) : Br true P P' := ⟨fun _ => h, fun h => nomatch h⟩
theorem br_f (h : P') : Br false P P' := ⟨fun h => (nomatch h), fun _ => h⟩
theorem br_not {b : Bool} (h : Br b P' P) : Br (!b) P P' := by cases b; exact br_t (h.2 rfl); exact br_f (h.1 rfl)
theorem br_dec {p : Prop} [Decidable p] (h1 : p → P) (h2 : ¬ p → P') : Br (decide p) P P' := ⟨fun h => h1 (of_decide_eq_true h), fun h => h2 (of_decide_eq_false h)⟩
theorem br_yes {p : Prop} [Decidable p] (hp : p) (h1 : P) : Br (decide p) P P' := br_dec (fun _ => h1) fun h => absurd hp h
theorem br_no {p : Prop} [Decidable p] (hp : ¬ p) (h1 : P') : Br (decide p) P P' := br_dec (fun h => absurd h hp) fun _ => h1
theorem tst_and_nil (h : QB true lo ob) : TstAll c .And [] QB X lo ob := h
theorem tst_and (h : Tst c e (fun v lo ob => Br v (TstAll c .And r QB X lo ob) (QB false lo ob)) X lo ob) : TstAll c .And (e :: r) QB X lo ob := h
theorem fnq_ret {Q : V → Obs → Prop} {v : V} (h : Q v ob) : FnQ Q (.ret v) lo ob := h
theorem fnq_next {Q : V → Obs → Prop} (h : Q .none ob) : FnQ Q .next lo ob := h
theorem kp_and {f : V} (h : Kp c f) (hp : P) : Kp c f ∧ P := ⟨h, hp⟩
end
end Mine
end
section
open PySem PySem.W PySem.Calls PySem.Spec PyProof.Rows
set_option Elab.async false
set_option maxRecDepth 100000
set_option linter.unusedVariables false
namespace Mine

section
variable {M : Model} {A : Around} {E : Value → Shared → Prop} {s : Shared}
theorem entry_raw {base : Heap} {env : Env} {outer : List Env} {L e : Addr} {oe : Obj} {vs : Array Value} {head : Value} {hadNext : Bool} {Q : Unit → Shared → Prop}
    (hfr : A.frames = some (env :: outer)) (hl : s.heap.FunFrames base (env :: outer)) (hf : env.frame = some L) (he : s.heap.get? e = some oe) (hd : oe.data = .fields vs) (hsz : 1 < vs.size)
    (h : ∀ h' T oT ts, (∀ b o, b ∉ (env :: outer).filterMap (·.frame) → b ≠ e → s.heap.get? b = some o → h'.get? b = some o) → (∀ b o, b ≠ e → s.heap.get? b = some o → ∃ sl, h'.get? b = some { o with slots := sl }) →
      h'.get? e = some (oe.mapFields (·.setIfInBounds 1 (.ref T))) → s.heap.get? T = none → h'.get? T = some oT → oT.data = .fields ts → ts[3]? = some (rawInt L) → Q () { s with heap := h' }) :
    wpAny M A (do let a ← frameOf env; let pl ← entryPlaceOf L hadNext; let b ← EntryCells.newEntry head a .none (rawInt L) .none pl; setField (.ref e) 1 b) Q E s := by
  have hene : e ∉ (env :: outer).filterMap (·.frame) := fun hm => by
    refine of_gen fun _ kg => ?_
    obtain ⟨_, o, ho, hnf⟩ := hl.mem hm
    refine kg ?_
    rw [he] at ho; injection ho with ho; subst ho; exact hnf vs hd
  refine wpAny_bind (wpAny_frameOf_fun hfr hl hf fun h₁ hs₁ => ?_)
  refine wpAny_bind (wpAny_entryPlaceOf fun pl hpl => ?_)
  unfold EntryCells.newEntry newFields
  refine wpAny_bind (wpAny_newObj_type ?_ (hpl.sizeOk5 _ _ _ _ _))
  have he₁ : h₁.get? e = some oe := (hs₁.2.1 e hene).trans he
  have he₂ := Heap.get?_push_of_some (h := h₁) { cls := .type "traceback", dict := none, data := .fields ([head, .ref L, .none, rawInt L, .none] ++ (if pl.isEmpty then List.replicate 6 Value.none else pl)).toArray } he₁
  have hTe : h₁.objs.size ≠ e := Nat.ne_of_gt (Heap.lt_size he₁)
  have hd₃ := Obj.data_mapFields hd (·.setIfInBounds 1 (Value.ref h₁.objs.size))
  have keep : ∀ b o, b ≠ e → h₁.get? b = some o →
      ((h₁.push { cls := .type "traceback", dict := none, data := .fields ([head, .ref L, .none, rawInt L, .none] ++ (if pl.isEmpty then List.replicate 6 Value.none else pl)).toArray }).update e (Obj.mapFields (·.setIfInBounds 1 (Value.ref h₁.objs.size)))).get? b = some o :=
    fun b o hbe hb => by
      rw [Heap.get?_update_other _ _ (Ne.symm hbe)]
      exact Heap.get?_push_of_some _ hb
  refine wpAny_setField he₂ hd hsz (h _ h₁.objs.size _ _ (fun b o hb hbe e1 => keep b o hbe ((hs₁.2.1 b hb).trans e1)) (fun b o hbe e1 => ?_) (Heap.get?_update_self _ he₂ (Obj.isFreed_of_fields hd₃)) ?_
    ((Heap.get?_update_other _ _ (Ne.symm hTe)).trans (Heap.get?_push_size _ rfl)) rfl ?_)
  · obtain ⟨sl, e2⟩ := hs₁.2.2 b o e1
    exact ⟨sl, keep b _ hbe e2⟩
  · cases hq : s.heap.get? h₁.objs.size with
    | none => rfl
    | some o =>
      obtain ⟨sl, e2⟩ := hs₁.2.2 _ o hq
      exact absurd (Heap.lt_size e2) (Nat.lt_irrefl _)
  · rcases hpl with rfl | ⟨_, _, _, _, _, _, _, rfl⟩ <;> simp
end

noncomputable def TbAt (c : Cx) (as : List Addr) (h : Heap) (a : Addr) (fl : Value) : Prop := ∃ oe vs b ot ts, h.get? a = some oe ∧ oe.data = .fields vs ∧ vs[1]? = some (.ref b) ∧ h.get? b = some ot ∧ ot.data = .fields ts ∧ ts[3]? = some fl ∧ b ≠ c.L ∧ c.g.hb.get? b = none ∧ b ∉ as
noncomputable def HeldX (c : Cx) (z : List (Addr × Obj)) (a : Addr) (lo : Loc) (ob : Obs) (fl : Value) (s : Shared) : Prop := (∃ cls d arg, (a, Ob.exc cls d arg) ∈ ob) ∧ ∃ m os frs, NowAt c z lo ob s m os frs ∧ TbAt c ((os ++ ((c.rest ++ z) ++ frs)).map (·.1)) s.heap a fl
theorem HeldX.exc {c : Cx} {z : List (Addr × Obj)} {a : Addr} {lo : Loc} {ob : Obs} {fl : Value} {s : Shared} (h : HeldX c z a lo ob fl s) : Exc c z a lo ob s := by
  obtain ⟨hm, m, os, frs, n, oe, vs, b, ot, ts, h1, h2, h3, h4, h5, h6, h7, h8, h9⟩ := h
  exact ⟨hm, m, os, frs, n, oe, vs, h1, h2, .inr ⟨b, ot, ts, h3, h4, h5, (Array.getElem?_eq_some_iff.mp h6).1, h7, h8, h9⟩⟩
theorem HeldX.now {c : Cx} {z : List (Addr × Obj)} {a : Addr} {lo : Loc} {ob : Obs} {fl : Value} {s : Shared} (h : HeldX c z a lo ob fl s) : Now c z lo ob s := by
  obtain ⟨hm, m, os, frs, n, _⟩ := h
  exact ⟨m, os, frs, n⟩

theorem OUpd.same {a : Addr} {b : Ob} {ob : Obs} (h : (a, b) ∈ ob) : OUpd a b b ob ob := by
  induction ob with
  | nil => exact absurd h List.not_mem_nil
  | cons p r ih =>
    rcases List.mem_cons.mp h with e | h
    · subst e; exact .head
    · exact .tail (ih h)
theorem exc_set {P : Params} {cls : Value} {d : Option Addr} {arg : Option V} {oe : Obj} (h : obR P (.exc cls d arg) oe) (T : Value) : obR P (.exc cls d arg) (oe.mapFields (·.setIfInBounds 1 T)) := by
  refine of_gen fun _ kg => ?_
  obtain ⟨h1, h2, a, vs, h3, h4, h5, h6⟩ := h
  refine kg ?_
  refine ⟨(Obj.cls_mapFields _ _).trans h1, fun dd e => ?_, a, vs.setIfInBounds 0 T, ?_, by simp [h4], h5, fun e => by simpa using h6 e⟩
  · obtain ⟨c, dct, dat, sl⟩ := oe
    obtain rfl : dat = _ := h3
    exact h2 dd e
  · rw [Obj.data_mapFields h3]
    congr 1
    apply Array.ext'
    simp

section
variable {c : Cx} {z : List (Addr × Obj)} {lo : Loc} {ob : Obs} {s : Shared} {m : Str → Option Value} {os frs : List (Addr × Obj)} {a : Addr}
theorem NowAt.noted (n : NowAt c z lo ob s m os frs) {cls : Value} {d : Option Addr} {arg : Option V} (hm : (a, Ob.exc cls d arg) ∈ ob) {oe' : Obj} (ho : obR c.g.w.params (.exc cls d arg) oe') {s' : Shared}
    (hk : ∀ b o, b ∉ c.L :: frs.map (·.1) → b ≠ a → (b ∈ (os ++ (c.rest ++ z)).map (·.1) ∨ (c.g.hb.get? b).isSome) → s.heap.get? b = some o → s'.heap.get? b = some o)
    (hf : ∀ b o, b ∈ c.L :: frs.map (·.1) → s.heap.get? b = some o → ∃ sl, s'.heap.get? b = some { o with slots := sl }) (ha : s'.heap.get? a = some oe') (hog : Og s s' := by exact ⟨rfl, rfl⟩) :
    ∃ os' frs', NowAt c z lo ob s' m os' frs' ∧ os'.map (·.1) = os.map (·.1) ∧ frs'.map (·.1) = frs.map (·.1) := by
  refine of_gen fun _ kg => ?_
  obtain ⟨o, h1, hmo, h2⟩ := n.rs.upd (OUpd.same hm) (nd_left n.nd)
  obtain ⟨os', U, r', e⟩ := h2 oe' ho
  obtain ⟨frs', SU, ht⟩ := TI.sameUp_of (h' := s'.heap) (frs := frs) fun p hp => hf p.1 p.2 (.tail _ (List.mem_map_of_mem hp)) (n.N p (List.mem_append_right _ (List.mem_append_right _ hp))).1
  refine kg ?_
  have ha' := n.N (a, o) (List.mem_append_left _ hmo)
  have apart : ∀ p ∈ os ++ (c.rest ++ z), p.1 ∉ c.L :: frs.map (·.1) := fun p hp hq => by
    rcases List.mem_cons.mp hq with e | hq
    · refine (n.N p ?_).2.1 e
      rw [← List.append_assoc]; exact List.mem_append_left _ hp
    · obtain ⟨q, hq, e⟩ := List.mem_map.mp hq
      exact n.apt p hp q hq e
  have hne : ∀ p ∈ c.rest ++ z, p.1 ≠ a := fun p hp q => by
    have := n.nd
    rw [List.map_append, List.nodup_append] at this
    exact this.2.2 a (List.mem_map_of_mem (f := (·.1)) hmo) p.1 (List.mem_map_of_mem (f := (·.1)) hp) q.symm
  have e2 : (os' ++ (c.rest ++ z)).map (·.1) = (os ++ (c.rest ++ z)).map (·.1) := by rw [List.map_append, e, ← List.map_append]
  refine ⟨os', frs', ⟨⟨?_, fun b o' hb => ?_, n.F.above⟩, n.lr, r', fun p hp => ?_, by rw [e2]; exact n.nd, n.fm.up SU, by rw [e2]; exact n.ap, hog.tr n.og⟩, e, sameUp_addrs SU⟩
  · obtain ⟨oL, es, ep, hL, hd, r⟩ := n.F.ns
    obtain ⟨sl, hs⟩ := hf c.L oL (.head _) hL
    exact ⟨_, es, ep, hs, hd, r⟩
  · refine hk b o' (fun hq => ?_) (fun q => ?_) (.inr (by rw [hb]; rfl)) (n.F.keep b o' hb)
    · rcases List.mem_cons.mp hq with e | hq
      · have h1 := Heap.lt_size hb
        rw [e] at h1
        exact absurd n.F.above (Nat.not_le.mpr h1)
      · obtain ⟨q, hq, e⟩ := List.mem_map.mp hq
        have := (n.N q (List.mem_append_right _ (List.mem_append_right _ hq))).2.2
        rw [e, hb] at this; cases this
    · rw [q, ha'.2.2] at hb; cases hb
  · rcases List.mem_append.mp hp with hp | hp
    · rcases upd_mem U p hp with rfl | ⟨hp, hpa⟩
      · exact ⟨ha, ha'.2⟩
      · have h3 := n.N p (List.mem_append_left _ hp)
        exact ⟨hk _ _ (apart p (List.mem_append_left _ hp)) hpa (.inl (List.mem_map_of_mem (List.mem_append_left _ hp))) h3.1, h3.2⟩
    · rcases List.mem_append.mp hp with hp | hp
      · have h3 := n.N p (List.mem_append_right _ (List.mem_append_left _ hp))
        exact ⟨hk _ _ (apart p (List.mem_append_right _ hp)) (hne p hp) (.inl (List.mem_map_of_mem (List.mem_append_right _ hp))) h3.1, h3.2⟩
      · obtain ⟨q, hq, e⟩ := TI.SameUp.fwd SU p hp
        have h3 := n.N q (List.mem_append_right _ (List.mem_append_right _ hq))
        exact ⟨ht p hp, by rw [e]; exact h3.2.1, by rw [e]; exact h3.2.2⟩

theorem NowAt.funs (n : NowAt c z lo ob s m os frs) (ok : c.Ok) {h : Heap} (hf : ∀ b o, b ∈ c.L :: frs.map (·.1) → s.heap.get? b = some o → ∃ sl, h.get? b = some { o with slots := sl }) : ∃ base, h.FunFrames base (c.fenv :: c.outer) ∧ (c.fenv :: c.outer).filterMap (·.frame) = c.L :: frs.map (·.1) := by
  obtain ⟨hn, SU⟩ := TI.sameUp_of (h' := h) (frs := frs) fun p hp => hf p.1 p.2 (.tail _ (List.mem_map_of_mem hp)) (n.N p (List.mem_append_right _ (List.mem_append_right _ hp))).1
  refine ⟨{ objs := #[] }, ?_, ?_⟩
  · refine Heap.FunFrames.cons (by rw [ok.fkind]; decide) ok.fframe (m := m) ?_ (by rfl) ?_
    · obtain ⟨oL, es, ep, hL, hd, r⟩ := n.F.ns
      obtain ⟨sl, hs⟩ := hf c.L oL (.head _) hL
      exact ⟨_, es, ep, hs, hd, r⟩
    · have Fs := n.fm.fs.up SU.1
      exact Fs.fun fun q hq => ⟨SU.2 q hq, by rfl⟩
  · rw [List.filterMap_cons, ok.fframe]
    simp only
    rw [n.fm.fs.addrs]
end
end Mine
end
section
open PySem PySem.W PySem.Calls PySem.Spec PyProof.Rows
set_option Elab.async false
set_option maxRecDepth 100000
set_option linter.unusedVariables false
namespace Mine

section
variable {c : Cx} {z : List (Addr × Obj)} {lo : Loc} {ob : Obs} {s : Shared} {m : Str → Option Value} {os frs : List (Addr × Obj)} {a : Addr} {E : Value → Shared → Prop}
theorem addrs_of (as fs : List (Addr × Obj)) {as' fs' : List (Addr × Obj)} (r z : List (Addr × Obj)) (e1 : as'.map (·.1) = as.map (·.1)) (e2 : fs'.map (·.1) = fs.map (·.1)) :
    (as' ++ ((r ++ z) ++ fs')).map (·.1) = (as ++ ((r ++ z) ++ fs)).map (·.1) := by
  simp only [List.map_append, e1, e2]
theorem NowAt.old (n : NowAt c z lo ob s m os frs) {b : Addr} (h : b ∈ (os ++ ((c.rest ++ z) ++ frs)).map (·.1)) : (s.heap.get? b).isSome := by
  refine of_gen fun _ kg => ?_
  obtain ⟨p, hp, rfl⟩ := List.mem_map.mp h
  refine kg ?_
  rw [(n.N p hp).1]; rfl
theorem new_tb (n : NowAt c z lo ob s m os frs) {T : Addr} (hT : s.heap.get? T = none) : T ≠ c.L ∧ c.g.hb.get? T = none ∧ T ∉ (os ++ ((c.rest ++ z) ++ frs)).map (·.1) := by
  refine ⟨fun e => ?_, ?_, fun h => ?_⟩
  · obtain ⟨oL, es, ep, hL, _⟩ := n.F.ns
    rw [e, hL] at hT; cases hT
  · cases hq : c.g.hb.get? T with
    | none => rfl
    | some o => have := n.F.keep T o hq; rw [hT] at this; cases this
  · have := n.old h
    rw [hT] at this; cases this

theorem note_exc (ok : c.Ok) {Q : Unit → Shared → Prop} (x : Exc c z a lo ob s) (h : ∀ h', HeldX c z a lo ob (rawInt c.L) { s with heap := h' } → Q () { s with heap := h' }) :
    wpAny c.g.M c.B (noteFrame (.ref a) c.fenv) Q E s := by
  refine of_gen fun _ kg => ?_
  obtain ⟨⟨cls, d, arg, hm⟩, m, os, frs, n, oe, vs, he, hd, htb⟩ := x
  obtain ⟨o, hmo, _, hge, hobr⟩ := n.mem hm
  refine kg ?_
  rw [he] at hge; cases hge
  have hae : ∀ b, b ∈ c.L :: frs.map (·.1) → b ≠ a := fun b hb q => by
    subst q
    have hp : (b, oe) ∈ os ++ (c.rest ++ z) := List.mem_append_left _ hmo
    rcases List.mem_cons.mp hb with e | hb
    · exact (n.N (b, oe) (List.mem_append_left _ hmo)).2.1 e
    · obtain ⟨q, hq, e⟩ := List.mem_map.mp hb
      exact n.apt (b, oe) hp q hq e
  have hsz : 1 < vs.size := by
    refine of_gen fun _ kg => ?_
    obtain ⟨_, _, a0, ws, h1, h2, _⟩ := hobr
    refine kg ?_
    rw [hd] at h1; cases h1; simp [h2]
  -- the entry itself, from a heap where the older head is let go
  have go : ∀ (h₁ : Heap) (head : Value) (hn : Bool), (∀ b o, b ∈ c.L :: frs.map (·.1) ∨ b ∈ (os ++ (c.rest ++ z)).map (·.1) ∨ (c.g.hb.get? b).isSome → s.heap.get? b = some o → h₁.get? b = some o) → (∀ T, h₁.get? T = none → s.heap.get? T = none) →
      wpAny c.g.M c.B (do let a' ← frameOf c.fenv; let pl ← entryPlaceOf c.L hn; let b ← EntryCells.newEntry head a' .none (rawInt c.L) .none pl; setField (.ref a) 1 b) Q E { s with heap := h₁ } := by
    intro h₁ head hn hk1 hT1
    refine of_gen fun _ kg => ?_
    obtain ⟨base, hff, hadr⟩ := n.funs ok (h := h₁) fun b o hb e => ⟨o.slots, hk1 b o (.inl hb) e⟩
    refine kg ?_
    have he1 : h₁.get? a = some oe := hk1 a oe (.inr (.inl (List.mem_map_of_mem (List.mem_append_left _ hmo)))) he
    refine entry_raw (s := { s with heap := h₁ }) ok.fr hff ok.fframe he1 hd hsz fun h' T oT ts k1 k2 k3 k4 k5 k6 k7 => h h' ?_
    obtain ⟨os', frs', n', e1, e2⟩ := n.noted hm (s' := { s with heap := h' }) (exc_set hobr (.ref T)) (fun b o h1 h2 h3 h4 => k1 b o (by rw [hadr]; exact h1) h2 (hk1 b o (.inr h3) h4)) (fun b o h1 h2 => k2 b o (hae b h1) (hk1 b o (.inl h1) h2)) k3
    obtain ⟨t1, t2, t3⟩ := new_tb n (hT1 T k4)
    exact ⟨⟨cls, d, arg, hm⟩, m, os', frs', n', _, _, T, oT, ts, k3, Obj.data_mapFields hd _, by simp [hsz], k5, k6, k7, t1, t2, by rw [addrs_of os frs c.rest z e1 e2]; exact t3⟩
  rcases htb with h1 | ⟨b, ot, ts, h1, hb, hbd, h3, hbL, hbh, hba⟩
  · unfold noteFrame
    simp only [ok.fframe]
    refine wpAny_bind (wpAny_field he hd h1 ?_)
    rw [if_neg (by decide)]
    exact go s.heap .none _ (fun _ _ _ e => e) (fun _ e => e)
  · obtain ⟨fl, h3'⟩ : ∃ fl, ts[3]? = some fl := ⟨_, Array.getElem?_eq_getElem h3⟩
    unfold noteFrame
    simp only [ok.fframe]
    refine wpAny_bind (wpAny_field he hd h1 ?_)
    rw [if_pos (show (Value.ref b != Value.none) = true from by simp)]
    refine wpAny_bind (wpAny_field hb hbd h3' ?_)
    by_cases hfl : fl = rawInt c.L
    · subst hfl
      rw [if_pos (by simp)]
      exact wpAny_pure (h s.heap ⟨⟨cls, d, arg, hm⟩, m, os, frs, n, oe, vs, b, ot, ts, he, hd, h1, hb, hbd, h3', hbL, hbh, hba⟩)
    · rw [if_neg (by simpa using hfl)]
      refine wpAny_bind (wpAny_setField hb hbd h3 ?_)
      have other : ∀ x, x ≠ b → (s.heap.update b (Obj.mapFields (·.setIfInBounds 3 Value.none))).get? x = s.heap.get? x := fun x hx => Heap.get?_update_other _ _ (Ne.symm hx)
      refine go _ _ _ (fun x o hx e => ?_) (fun T e => ?_)
      · refine (other x fun q => ?_).trans e
        subst q
        rcases hx with hx | hx | hx
        · rcases List.mem_cons.mp hx with e | hx
          · exact hbL e
          · exact hba (by rw [List.map_append, List.map_append]; exact List.mem_append_right _ (List.mem_append_right _ hx))
        · refine hba ?_
          rw [← List.append_assoc, List.map_append]
          exact List.mem_append_left _ hx
        · rw [hbh] at hx; cases hx
      · by_cases hq : T = b
        · subst hq
          have := Heap.get?_update_self (Obj.mapFields (·.setIfInBounds 3 Value.none)) hb (Obj.isFreed_of_fields (Obj.data_mapFields hbd _))
          rw [this] at e; cases e
        · exact (other T hq).symm.trans e

theorem flight_exc {fl : Value} {f : Option Addr} {Q : Unit → Shared → Prop} (x : HeldX c z a lo ob fl s) (h : ∀ h', HeldX c z a lo ob (f.elim .none fun f => rawInt f) { s with heap := h' } → Q () { s with heap := h' }) :
    wpAny c.g.M c.B (setFlight (.ref a) f) Q E s := by
  refine of_gen fun _ kg => ?_
  obtain ⟨⟨cls, d, arg, hm⟩, m, os, frs, n, oe, vs, b, ot, ts, he, hd, h1, hb, hbd, h3, hbL, hbh, hba⟩ := x
  refine kg ?_
  have hsz3 : 3 < ts.size := (Array.getElem?_eq_some_iff.mp h3).1
  have other : ∀ x, x ≠ b → ∀ v, (s.heap.update b (Obj.mapFields (·.setIfInBounds 3 v))).get? x = s.heap.get? x := fun x hx v => Heap.get?_update_other _ _ (Ne.symm hx)
  unfold setFlight
  refine wpAny_bind (wpAny_field he hd h1 ?_)
  rw [if_pos (show (Value.ref b != Value.none) = true from by simp)]
  refine wpAny_setField hb hbd hsz3 (h _ ⟨⟨cls, d, arg, hm⟩, m, os, frs, ?_, oe, vs, b, _, _, ?_, hd, h1, Heap.get?_update_self _ hb (Obj.isFreed_of_fields (Obj.data_mapFields hbd _)), Obj.data_mapFields hbd _, by simp [hsz3], hbL, hbh, hba⟩)
  · refine n.go ⟨?_, fun x o e => (other x (fun q => ?_) _).trans (n.F.keep x o e), n.F.above⟩ fun p hp => ⟨(other p.1 (fun q => hba (by rw [← q]; exact List.mem_map_of_mem hp)) _).trans (n.N p hp).1, (n.N p hp).2⟩
    · obtain ⟨oL, es, ep, hL, r⟩ := n.F.ns
      exact ⟨oL, es, ep, (other c.L (Ne.symm hbL) _).trans hL, r⟩
    · rw [q, hbh] at e; cases e
  · obtain ⟨o, hmo, _, _, _⟩ := n.mem hm
    exact (other a (fun q => hba (by rw [← q]; exact List.mem_map_of_mem (f := (·.1)) (List.mem_append_left _ hmo))) _).trans he

end
end Mine
end
section
open PySem PySem.W PySem.Calls PySem.Spec PyProof.Rows
set_option Elab.async false
set_option maxRecDepth 100000
set_option linter.unusedVariables false
namespace Mine

noncomputable abbrev mk (c : Cx) (a : Addr) : Cx := { c with B := c.B.mark (some (.ref a)) }
theorem mk_ok {c : Cx} (ok : c.Ok) (a : Addr) : (mk c a).Ok := ⟨ok.g, ok.fr, ok.fns, ok.nd, ok.fframe, ok.fkind, ok.frame, ok.kind, ok.glob, ok.blt, ok.nd', ok.room, ok.un, ok.fn, ok.cm, ok.fv⟩
section
variable {c : Cx} {z : List (Addr × Obj)} {lo : Loc} {ob : Obs} {s : Shared} {a e : Addr} {X : QT Addr} {Q : QT AF}
theorem Now.mk (n : Now c z lo ob s) : Now (mk c a) z lo ob s := by
  obtain ⟨m, os, frs, n⟩ := n
  exact ⟨m, os, frs, n.F, n.lr, n.rs, n.N, n.nd, n.fm, n.ap, n.og⟩
theorem Now.unmk (n : Now (Mine.mk c a) z lo ob s) : Now c z lo ob s := by
  obtain ⟨m, os, frs, n⟩ := n
  exact ⟨m, os, frs, n.F, n.lr, n.rs, n.N, n.nd, n.fm, n.ap, n.og⟩
theorem HeldX.unmk {fl : Value} (n : HeldX (Mine.mk c a) z e lo ob fl s) : HeldX c z e lo ob fl s := by
  obtain ⟨hm, m, os, frs, n, t⟩ := n
  exact ⟨hm, m, os, frs, ⟨n.F, n.lr, n.rs, n.N, n.nd, n.fm, n.ap, n.og⟩, t⟩
theorem HeldX.mk {fl : Value} (n : HeldX c z e lo ob fl s) : HeldX (Mine.mk c a) z e lo ob fl s := by
  obtain ⟨hm, m, os, frs, n, t⟩ := n
  exact ⟨hm, m, os, frs, ⟨n.F, n.lr, n.rs, n.N, n.nd, n.fm, n.ap, n.og⟩, t⟩
theorem LQ.unmk {α β : Type} {rel : β → α → Prop} {Q : QT β} {v : α} (h : LQ (Mine.mk c a) z rel Q v s) : LQ c z rel Q v s := by
  obtain ⟨b, lo, ob, hr, n, hq⟩ := h
  exact ⟨b, lo, ob, hr, n.unmk, hq⟩
theorem passes_mk (ok : c.Ok) (hv : c.cv = none) {v : Value} {s : Shared} (h : LX (Mine.mk c a) z X v s) : notedBy c.g.M (c.B.mark (some (.ref a))) c.env (cameBackBy c.g.M c.B c.env (LX c z X)) v s := by
  refine of_gen fun _ kg => ?_
  obtain ⟨e, lo, ob, rfl, x, hX⟩ := h
  refine kg ?_
  have he : c.env = c.fenv := ok.fn hv
  unfold notedBy
  rw [he]
  refine note_exc (c := Mine.mk c a) (mk_ok ok a) x fun h' x' => ?_
  unfold cameBackBy
  have x2 := x'.unmk
  refine of_gen fun _ kg => ?_
  obtain ⟨hm, m, os, frs, n, oe, vs, b, ot, ts, g1, g2, g3, g4, g5, g6, g7, g8, g9⟩ := id x2
  refine kg ?_
  refine wpAny_bind (wpAny_field g1 g2 g3 ?_)
  rw [if_neg (by simp)]
  exact flight_exc x2 fun h'' x'' => ⟨e, lo, ob, rfl, x''.exc, hX⟩
theorem looks_type {o : Obj} {cls : Value} {h : Heap} {M : Model} (ho : h.get? a = some o) (hc : o.cls = cls) : Looks M h (typeOf (.ref a)) cls := by
  subst hc
  exact (Looks.ld (part := some headPart) ho).andThen .now
theorem pass_on (ok : c.Ok) (hv : c.cv = none) {what : String} {fl : Value} (x : HeldX c z a lo ob fl s) (hX : X a lo ob) {Q : Flow → Shared → Prop} : wpAny c.g.M c.B (PySem.passOn what (.ref a) c.env : Sem Flow) Q (LX c z X) s := by
  refine of_gen fun _ kg => ?_
  obtain ⟨hm, m, os, frs, n, oe, vs, b, ot, ts, g1, g2, g3, g4, g5, g6, g7, g8, g9⟩ := id x
  refine kg ?_
  unfold PySem.passOn
  refine wpAny_bind (wpAny_field g1 g2 g3 ?_)
  rw [if_neg (by simp)]
  refine wpAny_bind (flight_exc x fun h' x' => wpAny_throw ⟨a, lo, ob, rfl, x'.exc, hX⟩)

noncomputable def NameIs (c : Cx) (t : Expr) (ct : Value) : Prop := ∀ z lo ob s, Now c z lo ob s → ∀ (Q : Value → Shared → Prop) (E : Value → Shared → Prop), Q ct s → wpAny c.g.M c.B (eval t c.env) Q E s
theorem nameIs_blt {x : Str} {v : Value} {p : Pos} {ns : Nms} (ok : c.Ok) (hns : c.env.scope.names = ns) (hk : InN ns x .globalImplicit) (hx : nsIn c.g.K mainGlobals x = some none) (hb : bootBuiltins x = some v) (hn : x ≠ "__name__" := by decide) (hd : (x == ("__debug__" : Str)) = false := by decide) : NameIs c (.Name x p) v := by
  subst hns
  rintro z lo ob s
  intro hgr122_0
  refine of_gen fun _ kg => ?_
  obtain ⟨m, os, frs, n⟩ := hgr122_0
  refine kg ?_
  rintro Q E h
  refine Calls.Name_function_global ok.kind (hk.lookup ok.nd') (Calls.loadGlobal_builtin (mg := c.g.mg) (mb := c.g.mb) ?_ (mg_none_of ok.g.X ok.g.T.g hx) ?_ ((ok.g.T.builtins x hn).trans hb) h) hd
  · rw [ok.glob]; exact ok.g.T.g.keeps n.F.keep
  · rw [ok.blt]; exact ok.g.T.b.keeps n.F.keep
noncomputable def Hdl (c : Cx) (t : Expr) (hb : List Stmt) (Q : QT AF) (X : QT Addr) : QT Addr := fun a lo ob =>
  ∃ cls d arg ct b, (a, Ob.exc cls d arg) ∈ ob ∧ NameIs (Mine.mk c a) t ct ∧ exmOne c.g.K cls ct = some b ∧
    if b = true then W (Mine.mk c a) FR (execs hb (Mine.mk c a).env) Q X lo ob else X a lo ob
end
end Mine
end
section
open PySem PySem.W PySem.Calls PySem.Spec PyProof.Rows
set_option Elab.async false
set_option maxRecDepth 100000
set_option linter.unusedVariables false
namespace Mine

section
variable {c : Cx} {lo : Loc} {ob ob' : Obs} {X : QT Addr} {Q : QT V} {QF : QT AF}
noncomputable def SetA (c : Cx) (o : V) (name : Str) (v : V) (Q : Loc → Obs → Prop) (X : QT Addr) (lo : Loc) (ob : Obs) : Prop := ∀ co cv, VR o co → VR v cv → W c UR (setAttr co name cv) (fun _ => Q) X lo ob
theorem seta_inst {x C d : Addr} {es es' : List (Str × V)} {name : Str} {v : V} {Q : Loc → Obs → Prop} (ok : c.Ok) (h1 : (x, .inst C d) ∈ ob) (u : OUpd d (.dct es) (.dct es') ob ob') (hs : findIn c.g.K (.ref C) "__setattr__" = some (some (.builtin "object.__setattr__"))) (hp : plainOver c.g.K C = true)
    (ht : takerIn c.g.K C name = some none) (hh : hasDictIn c.g.K C = true) (e : EPut es name v es') (hz : es'.length ≤ 1000) (h : Q lo ob') : SetA c (.ref x) name v Q X lo ob := by
  rintro _ cv rfl hv z s
  intro hgr14_0
  refine of_gen fun _ kg => ?_
  obtain ⟨m, os, frs, n⟩ := hgr14_0
  refine kg ?_
  refine of_gen fun _ kg => ?_
  obtain ⟨ox, hx1, _, hx2, hx3⟩ := n.mem h1
  obtain ⟨o, ⟨cs, k, rfl, hr⟩, hm, hu⟩ := n.upd u
  refine kg ?_
  cases hx3
  have hr' := hr.put e hv (s.toks + 1)
  refine of_gen fun _ kg => ?_
  obtain ⟨os', U, fin⟩ := hu _ ⟨_, putN name cs k, rfl, hr'⟩
  refine kg ?_
  have hd := (n.N _ (List.mem_append_left _ hm)).1
  refine set_dict n.F ok.g.X n.N ⟨hx2, rfl, rfl, hd⟩ rfl hs hp ht hh (getL_some hr) rfl U (by rw [hr'.length]; exact hz) fun h' F' N' => ?_
  exact ⟨(), lo, ob', trivial, ⟨m, os', frs, fin { s with heap := h', toks := s.toks + 2 } ⟨rfl, rfl⟩ F' N'⟩, h⟩
theorem S_AssignA {o e : Expr} {name : Str} {ap pos : Pos} (h : W c VR (eval e c.env) (fun v lo ob => W c VR (eval o c.env) (fun ov lo ob => SetA c ov name v (QF .next) X lo ob) X lo ob) X lo ob)
    (hs : swapsWith e (some (.Attribute o name ap)) pos.line c.env = pure false := by rfl) : W c FR (exec (.Assign [.Attribute o name ap] e pos) c.env) QF X lo ob := fun z s n =>
  plainObj_wpAny_Assign_Attribute (thenQ (h z s n) fun cv s' v lo ob hv n h => thenQ (h z s' n) fun co s' ov lo ob ho n h => thenQ (h co cv ho hv z s' n) fun _ s' _ lo ob _ n h => ⟨AF.next, lo, ob, rfl, n, h⟩) hs

theorem cal_cls {C f : Addr} {args : List V} {d : Nat} {hq : Bool} (ok : c.Ok) (hm : makesIn c.g.K C = true) (hi : findIn c.g.K (.ref C) "__init__" = some (some (.ref f))) (hfn : isFn c.g.K (.ref f) = true) (hd : d + 1 ≤ c.d) (hh : hq = true ∨ c.B.handled = none)
    (h : ∀ x dx, FnC c.g f (.ref x :: args) d hq (fun v ob => v = .none ∧ Q (.ref x) lo ob) (fun a ob => X a lo ob) ((x, .inst C dx) :: (dx, .dct []) :: ob)) : Cal c (.ref C) args Q X lo ob := by
  rintro _ cas rfl hv z s
  intro hgr34_0
  refine of_gen fun _ kg => ?_
  obtain ⟨m, os, frs, n⟩ := hgr34_0
  refine kg ?_
  refine call_cls n.F ok.g.X n.N hm hi hfn ?_
  intro x dx h' F' N' l1 l2
  have hb : c.B.depth + c.d < recursionLimit := ok.room
  have n1 : NowAt c z lo ((dx, .dct []) :: ob) { s with heap := h' } m ((dx, dictOf [] 0) :: os) frs := n.add (s' := { s with heap := h' }) F' (fun p hp => N' p (.tail _ hp)) ⟨[], 0, rfl, .nil⟩ fun p hp => Nat.ne_of_lt (l1 p hp)
  have n2 : NowAt c z lo ((x, .inst C dx) :: (dx, .dct []) :: ob) { s with heap := h' } m ((x, instObj C dx) :: (dx, dictOf [] 0) :: os) frs := n1.add F' N' rfl fun p hp => by
    rcases List.mem_cons.mp hp with rfl | hp
    · exact Nat.ne_of_lt l2
    · exact Nat.ne_of_lt (Nat.lt_trans (l1 p hp) l2)
  refine codeAny_mono (h x dx c (c.B.under (.builtin "type.__call__" ⟨.ref C :: cas, []⟩)) ok rfl (frames_call ok.fr) (by rw [depth_under_make]; omega) (by have := ok.un; rw [units_under_make]; omega) (fun q => hh.resolve_left (by rw [q]; simp)) (.ref x :: cas) (.cons rfl hv) z lo { s with heap := h' } ⟨m, _, frs, n2⟩) fun r s' hr => ?_
  match r with
  | .ok (.ret v) =>
    obtain ⟨u, ob, hu, n, rfl, hq⟩ := hr
    exact ⟨hu, .ref x, lo, ob, rfl, n, hq⟩
  | .ok .next => exact hr.elim
  | .ok .brk => exact hr.elim
  | .ok .cont => exact hr.elim
  | .error e => obtain ⟨a, ob, rfl, n, hq⟩ := hr; exact ⟨a, lo, ob, rfl, n, hq⟩

/- displays -/
theorem W_List {es : List Expr} {p : Pos} (hs : noStar es = true) (h : Args c es (fun vs lo ob => vs.length ≤ 100000 ∧ ∀ a, Q (.ref a) lo ((a, .list vs) :: ob)) X lo ob) : W c VR (eval (.List es p) c.env) Q X lo ob := fun z s n => by
  refine List_ ?_
  rw [starEach_of hs]
  refine thenQ (spliced_of h z s n) fun cs s' vs lo ob hv n h => ?_
  refine of_gen fun _ kg => ?_
  obtain ⟨m, os, frs, n⟩ := n
  refine kg ?_
  exact wpAny_newList ⟨.ref s'.heap.objs.size, lo, _, rfl, ⟨m, _, frs, n.push (b := .list vs) ⟨cs, 0, rfl, hv⟩ rfl⟩, h.2 _⟩ (Nat.le_trans (hv.length ▸ h.1) (by rw [sizeLine_eq]; decide))
theorem W_Tuple {es : List Expr} {k : Nat} {p : Pos} (hs : noStar es = true) (h : Args c es (fun vs lo ob => vs.length ≤ 100000 ∧ ∀ a, Q (.ref a) lo ((a, .tup vs) :: ob)) X lo ob) : W c VR (eval (.Tuple es k p) c.env) Q X lo ob := fun z s n => by
  refine Tuple_ ?_
  rw [starEach_of hs]
  refine thenQ (spliced_of h z s n) fun cs s' vs lo ob hv n h => ?_
  refine of_gen fun _ kg => ?_
  obtain ⟨m, os, frs, n⟩ := n
  refine kg ?_
  exact PySem.wpAny_newTuple ⟨.ref s'.heap.objs.size, lo, _, rfl, ⟨m, _, frs, n.push (b := .tup vs) ⟨rfl, cs, 0, rfl, hv⟩ rfl⟩, h.2 _⟩ (Nat.le_trans (hv.length ▸ h.1) (by rw [sizeLine_eq]; decide))
theorem disp {P : Prop} {n : Nat} (h : n ≤ 100000) (hp : P) : n ≤ 100000 ∧ P := ⟨h, hp⟩

/- lists -/
theorem getm_list {a : Addr} {vs : List V} {name : Str} {id : String} {Q : V → List V → Loc → Obs → Prop} (hm : (a, .list vs) ∈ ob) (slot : Slot "list" name id) (ht : typeOf (.builtin id) = pure (.type "method_descriptor")) (h : Q (.cv (.builtin id)) [.ref a] lo ob) : GetM c (.ref a) name Q X lo ob := by
  rintro _ pl rfl z s n0
  refine of_gen fun _ kg => ?_
  obtain ⟨m, os, frs, n⟩ := n0
  obtain ⟨o, _, _, ha, ks, k, rfl, hr⟩ := n.mem hm
  refine kg ?_
  exact getMethod_builtin ⟨_, ha, rfl⟩ PySem.F.plainAttrs_list slot ht (fun a e => by cases e; exact ⟨_, ha, rfl⟩) ⟨(.cv (.builtin id), [.ref a]), lo, ob, ⟨rfl, .one rfl⟩, ⟨m, os, frs, n⟩, h⟩
theorem getm_str {l : List Nat} {name : Str} {id : String} {Q : V → List V → Loc → Obs → Prop} (slot : Slot "str" name id) (ht : typeOf (.builtin id) = pure (.type "method_descriptor")) (h : Q (.cv (.builtin id)) [.str l] lo ob) : GetM c (.str l) name Q X lo ob := by
  rintro _ pl ⟨t, rfl⟩ z s n
  exact getMethod_builtin (typeIs_str s (tx l) t) PySem.F.plainAttrs_str slot ht (fun a e => by cases e) ⟨(.cv (.builtin id), [.str l]), lo, ob, ⟨rfl, .one ⟨_, rfl⟩⟩, n, h⟩
theorem append_list {a : Addr} {vs : List V} {v : V} (u : OUpd a (.list vs) (.list (vs ++ [v])) ob ob') (hz : vs.length ≤ 100000) (h : Q .none lo ob') : Cal c (.cv (.builtin "list.append")) [.ref a, v] Q X lo ob := by
  rintro _ cs rfl hv z s
  intro hgr84_0
  refine of_gen fun _ kg => ?_
  obtain ⟨m, os, frs, n⟩ := hgr84_0
  refine kg ?_
  refine of_gen fun _ kg => ?_
  obtain ⟨_, cv, rfl, rfl, hcv⟩ := VRs2 hv
  obtain ⟨o, ⟨ks, k, rfl, hr⟩, hm, hu⟩ := n.upd u
  obtain ⟨os', U, fin⟩ := hu (W.listOf (ks.toArray.push cv) (k + 1)) ⟨ks ++ [cv], k + 1, by simp, hr.append (.one hcv)⟩
  refine kg ?_
  refine append_K n.F n.N U (fun h' F' N' => LQ.none ⟨m, os', frs, fin { s with heap := h' } ⟨rfl, rfl⟩ F' N'⟩ h) ?_
  rw [List.size_toArray, ← hr.length, sizeLine_eq]; omega
end
end Mine
end
section
open PySem PySem.W PySem.Calls PySem.Spec PyProof.Rows
set_option Elab.async false
set_option maxRecDepth 100000
set_option linter.unusedVariables false
namespace Mine

noncomputable def cut {α : Type} (l : List α) (lo hi : Option Int) : List α := (l.drop (kms_lo lo l.length)).take (kms_hi hi l.length - kms_lo lo l.length)
theorem VRs.drop : ∀ {vs : List V} {cs : List Value} (k : Nat), VRs vs cs → VRs (vs.drop k) (cs.drop k)
  | _, _, 0, h => h
  | _, _, _ + 1, .nil => .nil
  | _, _, k + 1, .cons _ r => r.drop k
theorem VRs.take : ∀ {vs : List V} {cs : List Value} (k : Nat), VRs vs cs → VRs (vs.take k) (cs.take k)
  | _, _, 0, _ => .nil
  | _, _, _ + 1, .nil => .nil
  | _, _, k + 1, .cons a r => .cons a (r.take k)
theorem VRs.cut {vs : List V} {cs : List Value} (h : VRs vs cs) (lo hi : Option Int) : VRs (cut vs lo hi) (kms_pick cs lo hi) := by
  unfold Mine.cut kms_pick
  rw [h.length]
  exact (h.drop _).take _

noncomputable def LA (c : Cx) (ob : Obs) (a : Addr) (vs : List V) : Prop := (a, .list vs) ∈ ob ∨ ∃ cs, c.g.hb.IsList a cs.toArray ∧ VRs vs cs
section
variable {c : Cx} {lo : Loc} {ob ob' : Obs} {X : QT Addr} {Q : QT V} {QF : QT AF}
theorem LA.at {a : Addr} {vs : List V} (h : LA c ob a vs) {z : List (Addr × Obj)} {s : Shared} {m : Str → Option Value} {os frs : List (Addr × Obj)} (n : NowAt c z lo ob s m os frs) : ∃ cs, s.heap.IsList a cs.toArray ∧ VRs vs cs := by
  rcases h with h | ⟨cs, ⟨o, h1, h2, h3⟩, hr⟩
  · obtain ⟨o, _, _, ha, cs, k, rfl, hr⟩ := n.mem h
    exact ⟨cs, ⟨_, ha, rfl, _, rfl⟩, hr⟩
  · exact ⟨cs, ⟨o, n.F.keep _ _ h1, h2, h3⟩, hr⟩

theorem W_Sub {value slice : Expr} {p : Pos} (h : W c VR (eval value c.env) (fun a lo ob => W c VR (eval slice c.env) (fun b lo ob => Sub2 c value slice a b Q X lo ob) X lo ob) X lo ob) : W c VR (eval (.Subscript value slice p) c.env) Q X lo ob := fun z s n =>
  Subscript_ (thenQ (h z s n) fun ca s' a lo ob ha n h => thenQ (h z s' n) fun cb s' b lo ob hb n h => h ca cb ha hb z s' n)

noncomputable def Part (c : Cx) (e : Option Expr) (Q : QT (Option Int)) (X : QT Addr) (lo : Loc) (ob : Obs) : Prop := match e with
  | none => Q none lo ob
  | some e => W c VR (eval e c.env) (fun v lo ob => ∃ i, v = .int i ∧ Q (some i) lo ob) X lo ob
noncomputable def PR : Option Int → Value → Prop
  | none, v => v = Value.none
  | some i, v => ∃ t, v = .int i t
theorem PR.part {o : Option Int} {v : Value} (h : PR o v) : IsPart v o := by
  cases o with
  | none => cases h; exact .none
  | some i => obtain ⟨t, rfl⟩ := h; exact .int _ _
theorem part_eval {e : Option Expr} {Q : QT (Option Int)} (h : Part c e Q X lo ob) : W c PR (evalPart e c.env) Q X lo ob := by
  cases e with
  | none => exact fun z s n => wpAny_pure ⟨none, lo, ob, rfl, n, h⟩
  | some e => exact fun z s n => wpAny_mono (h z s n) (fun cv s' ⟨v, lo, ob, hv, n, i, e, h⟩ => by subst e; exact ⟨some i, lo, ob, hv, n, h⟩) fun _ _ x => x
noncomputable def Cut (c : Cx) (value slice : Expr) (v : V) (l u : Option Int) (Q : QT V) (X : QT Addr) (lo : Loc) (ob : Obs) : Prop :=
  ∀ cv cl cu, VR v cv → PR l cl → PR u cu → ∀ z s, Now c z lo ob s → wpAny c.g.M c.B (subscriptTail value slice cv (.ref s.heap.objs.size)) (LQ c z VR Q) (LX c z X) { s with heap := s.heap.push { cls := .type "slice", data := .fields #[cl, cu, .none] } }
theorem W_Slice {value : Expr} {l u : Option Expr} {sp p : Pos} (h : W c VR (eval value c.env) (fun v lo ob => Part c l (fun i lo ob => Part c u (fun j lo ob => Cut c value (.Slice l u none sp) v i j Q X lo ob) X lo ob) X lo ob) X lo ob) : W c VR (eval (.Subscript value (.Slice l u none sp) p) c.env) Q X lo ob := fun z s n =>
  Subscript_ (thenQ (h z s n) fun ca s' a lo ob ha n h => wpAny_Slice (thenQ (part_eval h z s' n) fun cl s' l lo ob hl n h => thenQ (part_eval h z s' n) fun cu s' u lo ob hu n h => wpAny_pure (h ca cl cu ha hl hu z s' n)))
theorem part_none {Q : QT (Option Int)} (h : Q none lo ob) : Part c none Q X lo ob := h
theorem part_some {e : Expr} {Q : QT (Option Int)} (h : W c VR (eval e c.env) (fun v lo ob => ∃ i, v = .int i ∧ Q (some i) lo ob) X lo ob) : Part c (some e) Q X lo ob := h
theorem int_ex {i : Int} {P : Int → Prop} (h : P i) : ∃ j, V.int i = .int j ∧ P j := ⟨i, rfl, h⟩

theorem cut_list {value slice : Expr} {a : Addr} {vs : List V} {l u : Option Int} (hl : LA c ob a vs) (hz : vs.length ≤ 100000) (h : ∀ D, Q (.ref D) lo ((D, .list (cut vs l u)) :: ob))
    (hs : ∀ k, subscripted slice false (.ref a) (.ref k) = operate [.ref k, .ref a] (getItem (.ref a) (.ref k)) := by intro _; with_unfolding_all rfl) (ht : ∀ r, letTemporaryGo value (.ref a) r = pure () := by intro _; with_unfolding_all rfl) : Cut c value slice (.ref a) l u Q X lo ob := by
  rintro _ cl cu rfl pl pu z s
  intro hgr61_0
  refine of_gen fun _ kg => ?_
  obtain ⟨m, os, frs, n⟩ := hgr61_0
  refine kg ?_
  obtain ⟨cs, hi, hr⟩ := hl.at n
  refine kms_slice_lit n.F n.N hi pl.part pu.part rfl (fun D h' F' N' l1 => ?_) (hs _) ht (by rw [List.size_toArray, ← hr.length, sizeLine_eq]; omega)
  exact ⟨.ref D, lo, _, rfl, ⟨m, _, frs, n.add (s' := { s with heap := h' }) F' N' (b := .list (cut vs l u)) ⟨_, 0, rfl, hr.cut l u⟩ fun p hp => Nat.ne_of_lt (l1 p hp)⟩, h D⟩
end
end Mine
end
section
open PySem PySem.W PySem.Calls PySem.Spec PyProof.Rows
set_option Elab.async false
set_option maxRecDepth 100000
set_option linter.unusedVariables false
namespace Mine

section
variable {c : Cx} {z z' : List (Addr × Obj)} {lo : Loc} {ob oth keep : Obs} {X : QT Addr} {s s' : Shared} {I : Addr} {oI oI' : Obj}
theorem Now.zperm (n : Now c z lo ob s) (p : z.Perm z') : Now c z' lo ob s := by
  obtain ⟨m, os, frs, n⟩ := n
  exact ⟨m, os, frs, n.re n.rs ((p.append_left _).append_left _)⟩
noncomputable abbrev cCx (c : Cx) (scope : Scope) (cl : List (Str × Addr)) (C : Addr) (oC : Obj) (kv : List (Str × V)) : Cx := { c with env := compEnvC scope cl C c.env, rest := c.rest ++ [(C, oC)], cv := some kv }
theorem Now.inC {scope : Scope} {cl : List (Str × Addr)} {C : Addr} {oC : Obj} {kv : List (Str × V)} (n : Now c ((C, oC) :: z) lo ob s) : Now (cCx c scope cl C oC kv) z lo ob s := by
  obtain ⟨m, os, frs, n⟩ := n
  exact ⟨m, os, frs, n.F, n.lr, n.rs, by have := n.N; simpa only [List.append_assoc, List.cons_append, List.nil_append] using this, by have := n.nd; simpa only [List.append_assoc, List.cons_append, List.nil_append] using this, n.fm, by have := n.ap; simpa only [List.append_assoc, List.cons_append, List.nil_append] using this, n.og⟩
theorem Now.outC {scope : Scope} {cl : List (Str × Addr)} {C : Addr} {oC : Obj} {kv : List (Str × V)} (n : Now (cCx c scope cl C oC kv) z lo ob s) : Now c ((C, oC) :: z) lo ob s := by
  obtain ⟨m, os, frs, n⟩ := n
  exact ⟨m, os, frs, n.F, n.lr, n.rs, by have := n.N; simpa only [List.append_assoc, List.cons_append, List.nil_append] using this, by have := n.nd; simpa only [List.append_assoc, List.cons_append, List.nil_append] using this, n.fm, by have := n.ap; simpa only [List.append_assoc, List.cons_append, List.nil_append] using this, n.og⟩
theorem cCx_ok (ok : c.Ok) {scope : Scope} {cl : List (Str × Addr)} {C : Addr} {oC : Obj} {kv : List (Str × V)} (hk : scope.kind = .function) (hnd : ((relabel scope c.env).names.map (·.1)).Nodup) {m : Str → Option Value} (hC : LCg.NsObj oC m)
    (hkv : ∀ p ∈ kv, ∃ v, m p.1 = some v ∧ VR p.2 v) (hfv : ∀ x, (relabel scope c.env).names.lookup x = some .cell → ∀ a, c.fenv.cells.lookup x = some a → cl.lookup x = some a) : (cCx c scope cl C oC kv).Ok :=
  ⟨ok.g, ok.fr, ok.fns, ok.nd, ok.fframe, ok.fkind, ok.frame, hk, ok.glob, ok.blt, hnd, ok.room, ok.un, (fun h => nomatch h), (fun kv' e => by cases e; exact ⟨oC, m, List.mem_append_right _ (.head _), hC, hkv⟩), hfv⟩

noncomputable def never : QT Addr := fun _ _ _ => False
noncomputable def Ifs (c : Cx) : List Expr → QT Bool → Loc → Obs → Prop
  | [], Q, lo, ob => Q true lo ob
  | [t], Q, lo, ob => Tst c t Q never lo ob
  | _, _, _, _ => False
noncomputable def CompE (c : Cx) (elt : Expr) (ifs : List Expr) (x : Str) (ns' : Nms) (QF : List V → Loc → Obs → Prop) : List V → List V → Loc → Obs → Prop
  | [], acc, lo, ob => QF acc lo ob
  | v :: vs, acc, lo, ob => ∀ c' : Cx, c'.Ok → c'.g = c.g → c'.ns = c.ns → c'.env.scope.names = ns' → c'.cv = some [(x, v)] → c'.d = c.d → c'.B = c.B → c'.fenv = c.fenv → c'.outer = c.outer → 
      Ifs c' ifs (fun b lo ob => Br b (W c' VR (eval elt c'.env) (fun y lo ob => CompE c elt ifs x ns' QF vs (acc ++ [y]) lo ob) never lo ob) (CompE c elt ifs x ns' QF vs acc lo ob)) lo ob
theorem ifs_of {ifs : List Expr} {Q : QT Bool} {E : Value → Shared → Prop} (h : Ifs c ifs Q lo ob) (n : Now c z lo ob s) :
    wpAny c.g.M c.B (forIn ifs true fun t r => if r = true then do let ok ← isTrue t c.env (eval t c.env); pure (ForInStep.yield ok) else pure (ForInStep.yield r)) (LQ c z BR Q) E s := by
  match ifs, h with
  | [], h => exact wpAny_tests_nil ⟨true, lo, ob, rfl, n, h⟩
  | [t], h => exact wpAny_tests_one (wpAny_mono (h z s n) (fun _ _ x => x) fun e s' ⟨_, _, _, _, _, x⟩ => x.elim)

inductive CompI (c : Cx) (z : List (Addr × Obj)) (elt : Expr) (ifs : List Expr) (x : Str) (ns' : Nms) (QF : List V → Loc → Obs → Prop) (items : List V) (St : Nat → Heap → Prop) (I C D : Addr) : Nat → Shared → Prop
  | mk {i : Nat} {lo : Loc} {ob : Obs} {oI oC : Obj} {m : Str → Option Value} {acc : List V} {cs : List Value} {s : Shared} (hi : i ≤ items.length) (st : St i s.heap) (hoC : LCg.NsObj oC m) (hacc : VRs acc cs) (hal : acc.length ≤ i)
    (n : Now c ((I, oI) :: (C, oC) :: (D, LCg.lst cs) :: z) lo ob s) (h : CompE c elt ifs x ns' QF (items.drop i) acc lo ob) : CompI c z elt ifs x ns' QF items St I C D (items.length + 1 - i) s
theorem comp_loop {elt iter : Expr} {ifs : List Expr} {x : Str} {px pos : Pos} {scope : Scope} {cl : List (Str × Addr)} {items : List V} {St : Nat → Heap → Prop} {QF : List V → Loc → Obs → Prop} {E : Value → Shared → Prop} {ns' : Nms} {Qv : Value → Shared → Prop}
    (ok : c.Ok) (K : IterOK c z items I St) (hsz : items.length ≤ 100000) (hcell : ∀ y ∈ scope.names, y.2 ≠ .cell) (hkind : scope.kind = .function) (hx : scope.names.lookup x = some .local) (hns' : (relabel scope c.env).names = ns') (hnd : (ns'.map (·.1)).Nodup)
    (hfv : ∀ x, (relabel scope c.env).names.lookup x = some .cell → ∀ a, c.fenv.cells.lookup x = some a → cl.lookup x = some a) (hst : St 0 s.heap) (n : Now c ((I, oI) :: z) lo ob s) (h : CompE c elt ifs x ns' QF items [] lo ob)
    (hQ : ∀ D acc lo ob cs s', VRs acc cs → Now c ((D, LCg.lst cs) :: z) lo ob s' → QF acc lo ob → Qv (.ref D) s') :
    wpAny c.g.M c.B (newList []) (fun acc s₃ => wpAny c.g.M c.B (newFunctionEnv scope c.env.globals cl [] c.env.qual none .none (some c.env)) (fun cenv s₄ =>
      codeAny c.g.M c.B (.compStart (.ListComp elt [⟨.Name x px, iter, ifs, 0⟩] scope pos) 0 (.ref I) acc { cenv with scope := relabel scope c.env }) (compPost c.g.M c.B E none Qv acc cenv.locals) s₄) E s₃) E s := by
  refine of_gen fun _ kg => ?_
  obtain ⟨fp, P, wk, hP, hf⟩ := K.wk
  refine kg ?_
  refine wpAny_newObj_type (wpAny_newFunctionEnv hcell (by intro y hy; simp at hy) (fun h₁ hns₁ hsb₁ => ?_) hkind)
  dsimp only at hns₁ hsb₁ ⊢
  have n1 : Now c ((s.heap.objs.size, LCg.lst []) :: (I, oI) :: z) lo ob { s with heap := s.heap.push (LCg.lst []) } := by obtain ⟨m, os, frs, n⟩ := n; exact n.pushI (o := LCg.lst [])
  have n2 : Now c (((s.heap.push (LCg.lst [])).objs.size, { cls := .type "dict", data := .dict #[] }) :: (s.heap.objs.size, LCg.lst []) :: (I, oI) :: z) lo ob { s with heap := (s.heap.push (LCg.lst [])).push { cls := .type "dict", data := .dict #[] } } := by obtain ⟨m, os, frs, n⟩ := n1; exact n.pushI (o := { cls := .type "dict", data := .dict #[] })
  refine of_gen fun _ kg => ?_
  obtain ⟨oC, hC, hoC⟩ := LCg.ns_obj hns₁
  refine kg ?_
  have n3 : Now c ((_, oC) :: _) lo ob { s with heap := h₁, toks := s.toks + 0 } := n2.swapI (fun b o hb e => hsb₁.extBut b o (by simpa using hb) e) hC
  have e0 : St 0 h₁ := by
    refine wk.frame 0 _ _ hst fun b hb o e => ?_
    have hlt := Heap.lt_size e
    refine hsb₁.extBut b o (fun q => ?_) (Heap.get?_push_of_some _ (Heap.get?_push_of_some _ e))
    have q' : b = s.heap.objs.size + 1 := by rw [q]; exact Heap.size_push _ _
    rw [q'] at hlt
    exact Nat.lt_irrefl _ (Nat.lt_of_succ_lt hlt)
  generalize hD : s.heap.objs.size = D at *
  generalize hCC : (s.heap.push (LCg.lst [])).objs.size = C at *
  have loop : ∀ s₃ : Shared, s₃ = { s with heap := h₁, toks := s.toks + ([] : List (Str × Value)).length } →
      codeAny c.g.M c.B (.compLoop (.ListComp elt [⟨.Name x px, iter, ifs, 0⟩] scope pos) 0 (.ref I) (.ref D) (compEnvC scope cl C c.env)) (compPost c.g.M c.B E none Qv (.ref D) C) s₃ := by
    rintro s₃ rfl
    refine codeAny_compLoop_tests (CompI c z elt ifs x ns' QF items St I C D) ?_ (items.length + 1)
      (.mk (i := 0) (Nat.zero_le _) e0 hoC .nil (Nat.le_refl _) (n3.zperm ((List.Perm.cons _ (List.Perm.swap _ _ _)).trans (List.Perm.swap _ _ _))) h)
    rintro k s1 @⟨i, lo1, ob1, oI1, oC1, m1, acc, cs, _, hi, st1, hoC1, hacc, hal, n1, h1⟩
    by_cases hlt : i < items.length
    · refine wk.item i s1 _ _ hlt st1 fun v h' tk hPv st2 hk => ?_
      refine of_gen fun _ kg => ?_
      obtain ⟨u, hu, hr⟩ := hP i v hlt hPv
      obtain ⟨oI2, hI2⟩ := K.has _ _ st2
      refine kg ?_
      have n2 : Now c ((I, oI2) :: (C, oC1) :: (D, LCg.lst cs) :: z) lo1 ob1 { s1 with heap := h', toks := tk } := n1.swapI hk hI2
      have e : items.drop i = u :: items.drop (i + 1) := by
        rw [List.drop_eq_getElem_cons hlt]
        congr 1
        rw [List.getElem?_eq_getElem hlt] at hu
        exact Option.some.inj hu
      rw [e] at h1
      have hCn := n2.at (p := (C, oC1)) (.tail _ (.head _))
      refine wpAny_assign_Name (wpAny_storeName_local (lookup_relabel_local hx) (hoC1.ns hCn) (fun h₃ hn₃ hs₃ => ?_) (by simp [compEnvC, relabel, hkind]))
      refine of_gen fun _ kg => ?_
      obtain ⟨oC3, hC3, hoC3⟩ := LCg.ns_obj hn₃
      refine kg ?_
      have n3 : Now c ((C, oC3) :: (I, oI2) :: (D, LCg.lst cs) :: z) lo1 ob1 { s1 with heap := h₃, toks := tk + 1 } := (n2.zperm (List.Perm.swap _ _ _)).swapI (fun b o hb e => hs₃.extBut b o (fun q => hb (List.mem_singleton.mpr q)) e) hC3
      have toI : ∀ {lo ob s oI oC cs}, Now c ((C, oC) :: (I, oI) :: (D, LCg.lst cs) :: z) lo ob s → Now c ((I, oI) :: z) lo ob s := fun n =>
        Now.less (a := [_]) (n.less (a := [_]) |>.zperm (List.Perm.swap _ _ _))
      have st3 : St (i + 1) h₃ := K.keep (toI (n2.zperm (List.Perm.swap _ _ _))) (toI n3) st2
      have nC : Now (cCx c scope cl C oC3 [(x, u)]) ((I, oI2) :: (D, LCg.lst cs) :: z) lo1 ob1 { s1 with heap := h₃, toks := tk + 1 } := n3.inC
      have okC : (cCx c scope cl C oC3 [(x, u)]).Ok := cCx_ok ok hkind (by rw [hns']; exact hnd) hoC3 (by
        intro p hp
        rw [List.mem_singleton.mp hp]
        exact ⟨v, by simp, hr⟩) hfv
      refine thenQ (ifs_of (h1 _ okC rfl rfl hns' rfl rfl rfl rfl rfl) nC) fun b s4 b' lo4 ob4 hb n4 h4 => ?_
      subst hb
      have n4' := n4.outC
      cases b with
      | false =>
        simp only [Bool.false_eq_true, if_false]
        have st4 := K.keep (toI n3) (toI n4') st3
        exact ⟨_, Nat.sub_lt_sub_left (Nat.lt_succ_of_lt hlt) (Nat.lt_succ_self i), .mk hlt st4 hoC3 hacc (Nat.le_succ_of_le hal) (n4'.zperm (List.Perm.swap _ _ _)) (h4.2 rfl)⟩
      | true =>
        simp only [if_true]
        refine wpAny_mono (h4.1 rfl _ s4 n4) (fun y s5 q => q.elim fun yv lo5 ob5 hy n5 h5 => ?_) fun e s' q => q.elim fun _ _ _ _ _ x => x.elim
        have n5' := n5.outC
        have st5 := K.keep (toI n3) (toI n5') st3
        have hDn := n5'.at (p := (D, LCg.lst cs)) (.tail _ (.tail _ (.head _)))
        refine append_at (hsz := by show cs.toArray.size ≤ sizeLine; rw [List.size_toArray, ← hacc.length]; exact Nat.le_trans hal (Nat.le_trans hi (Nat.le_trans hsz (by rw [sizeLine_eq]; decide)))) hDn fun h₅ hs₅ hD₅ => ?_
        have n6 : Now c ((D, LCg.lst (cs ++ [y])) :: (C, oC3) :: (I, oI2) :: z) lo5 ob5 { s5 with heap := h₅ } := (n5'.zperm ((List.Perm.cons _ (List.Perm.swap _ _ _)).trans (List.Perm.swap _ _ _))).swapI (fun b o hb e => hs₅.extBut b o (by simpa using hb) e) (hD₅.trans (congrArg some (LCg.lst_snoc cs y)))
        have n7 : Now c ((C, oC3) :: (I, oI2) :: (D, LCg.lst (cs ++ [y])) :: z) lo5 ob5 { s5 with heap := h₅ } := n6.zperm ((List.Perm.swap _ _ _).trans (List.Perm.cons _ (List.Perm.swap _ _ _)))
        have st7 := K.keep (toI n5') (toI n7) st5
        exact ⟨_, Nat.sub_lt_sub_left (Nat.lt_succ_of_lt hlt) (Nat.lt_succ_self i), .mk hlt st7 hoC3 (hacc.append (.one hy)) (by rw [List.length_append]; exact Nat.succ_le_succ hal) (n7.zperm (List.Perm.swap _ _ _)) h5⟩
    · have e : i = items.length := Nat.le_antisymm hi (Nat.not_lt.mp hlt)
      subst e
      rw [List.drop_length] at h1
      refine wk.done s1 _ _ st1 fun h' tk hk => ?_
      have n2 : Now c ((C, oC1) :: (D, LCg.lst cs) :: z) lo1 ob1 { s1 with heap := h', toks := tk } := n1.dropI hk
      refine ⟨m1, hoC1.ns (n2.at (p := (C, oC1)) (.head _)), fun h'' hs'' => hQ D acc lo1 ob1 cs _ hacc (n2.dropI fun b o hb e => hs''.extBut b o (by simpa using hb) e) h1⟩
  exact codeAny_compStart_list (loop _ rfl) (wk.self 0 _ _ _ e0 (loop _ rfl))
end
end Mine
end
section
open PySem PySem.W PySem.Calls PySem.Spec PyProof.Rows
set_option Elab.async false
set_option maxRecDepth 100000
set_option linter.unusedVariables false
namespace Mine

noncomputable def Itr (c : Cx) (v : V) (items : List V) (keep ob oth : Obs) : Prop := ∀ z s cv lo, VR v cv → Now c z lo ob s → ∃ zk, ORs c.g.w.params keep zk ∧ ∀ (Qp : Value → Shared → Prop) (E : Value → Shared → Prop),
  (∀ I oI St s', Now c ((I, oI) :: (zk ++ z)) lo oth s' → St 0 s'.heap → IterOK c (zk ++ z) items I St → Qp (.ref I) s') → wpAny c.g.M c.B (pyIter cv) Qp E s
section
variable {c : Cx} {z z' : List (Addr × Obj)} {lo : Loc} {ob oth keep : Obs} {X : QT Addr} {s s' : Shared} {a : Addr} {vs : List V}
theorem Itr_str {l : List Nat} (hh : c.B.handled = none) : Itr c (.str l) (l.map fun k => V.str [k]) [] ob ob := by
  rintro z s _ lo ⟨t, rfl⟩ n
  refine ⟨[], .nil, fun Qp E k => ?_⟩
  refine of_gen fun _ kg => ?_
  obtain ⟨m, os, frs, n2⟩ := n
  refine kg ?_
  have go : ∀ (T : String), Walks c.g.prog c.g.w c.B s.heap.objs.size [s.heap.objs.size] [s.heap.objs.size] (tx l).cps.size (SignAt (tx l)) (fun i h => h.IsStrIter s.heap.objs.size T (tx l) t i) → ∀ o : Obj, o.isFreed = false → (s.heap.push o).IsStrIter s.heap.objs.size T (tx l) t 0 →
      Qp (.ref s.heap.objs.size) { s with heap := s.heap.push o } := by
    intro T wk o hf hst
    refine k _ _ (fun i h => h.IsStrIter s.heap.objs.size T (tx l) t i) _ (n2.pushI hf) hst ⟨⟨_, _, by simpa [tx] using wk, ?_, fun b hb => .inl (List.mem_singleton.mp hb)⟩, fun i h st => by obtain ⟨o, e, _⟩ := st; exact ⟨o, e⟩⟩
    rintro i v hi
    intro hgr132_0
    refine of_gen fun _ kg => ?_
    obtain ⟨k, u, hk, rfl⟩ := hgr132_0
    refine kg ?_
    refine ⟨.str [k], ?_, u, rfl⟩
    have hk' : l[i]? = some k := by simpa [tx] using hk
    simp [hk']
  cases ha : (tx l).cps.all (· < 128)
  · exact wpAny_pyIter_wide ha (go "str_iterator" (Walks.strWide hh _ (tx l) t) _ rfl ⟨_, Heap.get?_push_size _ rfl, rfl, rfl⟩)
  · exact wpAny_pyIter_ascii ha (go "str_ascii_iterator" (Walks.strAscii hh _ (tx l) t) _ rfl ⟨_, Heap.get?_push_size _ rfl, rfl, rfl⟩)

noncomputable def CompF (c : Cx) (elt : Expr) (ifs : List Expr) (x : Str) (ns' : Nms) (Q : QT V) (v : V) (lo : Loc) (ob : Obs) : Prop :=
  ∃ items keep oth, Itr c v items keep ob oth ∧ items.length ≤ 100000 ∧ CompE c elt ifs x ns' (fun acc lo ob => ∀ D, Q (.ref D) lo ((D, .list acc) :: (ob ++ keep))) items [] lo oth
theorem compF {elt : Expr} {ifs : List Expr} {x : Str} {ns' : Nms} {Q : QT V} {v : V} {items : List V} (h : Itr c v items keep ob oth) (hz : items.length ≤ 100000) (hc : CompE c elt ifs x ns' (fun acc lo ob => ∀ D, Q (.ref D) lo ((D, .list acc) :: (ob ++ keep))) items [] lo oth) : CompF c elt ifs x ns' Q v lo ob :=
  ⟨items, keep, oth, h, hz, hc⟩
theorem W_ListComp {elt iter : Expr} {ifs : List Expr} {x : Str} {px pos : Pos} {scope : Scope} {cl : List (Str × Addr)} {ns' : Nms} {Q : QT V} (ok : c.Ok) (hns' : (relabel scope c.env).names = ns') (hclos : closureFor scope c.env = pure cl) (hfv : ∀ x, (relabel scope c.env).names.lookup x = some .cell → ∀ a, c.fenv.cells.lookup x = some a → cl.lookup x = some a) (hcell : ∀ y ∈ scope.names, y.2 ≠ .cell) (hkind : scope.kind = .function)
    (hnames : ∀ y ∈ scope.names, y.2 = .local → scope.names.lookup y.1 = some .local) (hx : scope.names.lookup x = some .local) (hnd : (ns'.map (·.1)).Nodup)
    (h : W c VR (eval iter c.env) (fun v lo ob => CompF c elt ifs x ns' Q v lo ob) X lo ob) (hs : ∀ x, foldedSetIterable iter c.env x = pure x := by intro _; rfl) : W c VR (eval (.ListComp elt [⟨.Name x px, iter, ifs, 0⟩] scope pos) c.env) Q X lo ob := by
  intro z s n
  rw [eval_ListComp]
  refine wpAny_comprehension_free (use := none) rfl hs hclos hkind hnames (thenQ (h z s n) fun xv s₁ v lo1 ob1 hv n1 hcf => ?_)
  refine of_gen fun _ kg => ?_
  obtain ⟨items, keep, oth, hi, hz, hc⟩ := hcf
  obtain ⟨zk, hk, run⟩ := hi z s₁ xv lo1 hv n1
  refine kg ?_
  refine run _ _ fun I oI St s2 n2 st K => ?_
  refine comp_loop ok K hz hcell hkind hx hns' hnd hfv st n2 hc fun D acc lo3 ob3 cs s3 hr n3 hq => ?_
  refine ⟨.ref D, lo3, _, rfl, ?_, hq D⟩
  refine of_gen fun _ kg => ?_
  obtain ⟨m, os, frs, n3⟩ := n3.zperm (z' := ([(D, LCg.lst cs)] ++ zk) ++ z) (by rfl)
  refine kg ?_
  exact Now.perm ⟨m, _, frs, n3.back (oth := (D, .list acc) :: keep) (.cons ⟨cs, cs.length, rfl, hr⟩ hk)⟩ List.perm_middle
end
end Mine
end
section
open PySem PySem.W PySem.Calls PySem.Spec PyProof.Rows
set_option Elab.async false
set_option maxRecDepth 100000
set_option linter.unusedVariables false
namespace Mine

theorem ints_of : ∀ {ns : List Int} {cs : List Value}, VRs (ns.map V.int) cs → IntsAre cs ns
  | [], _, .nil => .nil
  | a :: ns, _, .cons h r => by obtain ⟨t, rfl⟩ := h; exact .cons _ _ (ints_of r)

section
variable {c : Cx} {lo : Loc} {ob ob' : Obs} {X : QT Addr} {Q : QT V} {QF : QT AF} {a : Addr} {vs : List V}
theorem sum_list {ns : List Int} (hh : c.B.handled = none) (hm : LA c ob a (ns.map V.int)) (h : Q (.int ns.sum) lo ob) : Cal c (.cv (.builtin "sum")) [.ref a] Q X lo ob := by
  rintro _ cs rfl hv z s n0
  refine of_gen fun _ kg => ?_
  obtain ⟨_, rfl, rfl⟩ := VRs1 hv
  obtain ⟨m, os, frs, n⟩ := n0
  obtain ⟨ks, hl, hr⟩ := hm.at n
  refine kg ?_
  exact LSm.sum_ints n.F n.N hh hl (ints_of hr) fun h' tk t' F' N' => LQ.int ⟨m, os, frs, n.go (s' := { s with heap := h', toks := tk }) F' N'⟩ h
theorem bytes_list {l : List Nat} (hh : c.B.handled = none) (hm : LA c ob a (l.map fun (k : Nat) => V.int (k : Int))) (hc : ∀ k ∈ l, k < 256) (hz : l.length ≤ 100000) (h : Q (.bytes l) lo ob) : Cal c (.cv (.type "bytes")) [.ref a] Q X lo ob := by
  rintro _ cs rfl hv z s n0
  refine of_gen fun _ kg => ?_
  obtain ⟨_, rfl, rfl⟩ := VRs1 hv
  obtain ⟨m, os, frs, n⟩ := n0
  obtain ⟨ks, hl, hr⟩ := hm.at n
  refine kg ?_
  have hr' : VRs ((l.map fun (k : Nat) => (k : Int)).map V.int) ks := by simpa [List.map_map, Function.comp_def] using hr
  have hin : KBa.In (l.map fun (c : Nat) => (c : Int)) := fun n hn => by
    refine of_gen fun _ kg => ?_
    obtain ⟨k, hk, rfl⟩ := List.mem_map.1 hn
    refine kg ?_
    have := hc k hk
    omega
  exact KBa.make_K n.F n.N hh hl (ints_of hr') hin (by simpa using (by omega : l.length ≤ 16777216)) fun h' t' k F' N' _ => LQ.bytes (bytes_of l hc) ⟨m, os, frs, n.go (s' := { s with heap := h', toks := k }) F' N'⟩ h
end
end Mine
end
section
open PySem PySem.W PySem.Calls PySem.Spec PyProof.Rows
set_option Elab.async false
set_option maxRecDepth 100000
set_option linter.unusedVariables false
namespace Mine

inductive App : Obs → Obs → Obs → Prop
  | nil {l} : App [] l l
  | cons {p a l r} : App a l r → App (p :: a) l (p :: r)
theorem App.eq {a l r : Obs} (h : App a l r) : a ++ l = r := by
  induction h with
  | nil => rfl
  | cons _ ih => rw [List.cons_append, ih]
noncomputable def Frg (P : Obs → Prop) (ob : Obs) : Prop := ∃ ob2 d, Picks ob ob2 d ∧ P ob2
theorem frg_intro {P : Obs → Prop} {ob ob2 d : Obs} (p : Picks ob ob2 d) (h : P ob2) : Frg P ob := ⟨ob2, d, p, h⟩
noncomputable abbrev FnE (g : G) (f : Addr) (args : List V) (d : Nat) (hq : Bool) (r : V) (ob1 ob0 : Obs) : Prop := FnC g f args d hq (fun v ob => v = r ∧ ob = ob1) (fun _ _ => False) ob0
section
variable {c : Cx} {lo : Loc} {ob ob' : Obs} {X : QT Addr} {Q : QT V} {QF : QT AF} {a : Addr} {vs : List V}
theorem FnC.forget {g : G} {f : Addr} {args : List V} {d : Nat} {hq : Bool} {Q : V → Obs → Prop} {X : Addr → Obs → Prop} (F : FnC g f args d hq (fun v ob => Frg (Q v) ob) X ob) : FnC g f args d hq Q X ob := by
  intro c A ok hg hf hd hu hh cas hv z lo s n
  refine codeAny_mono (F c A ok hg hf hd hu hh cas hv z lo s n) fun r s' hr => ?_
  match r with
  | .ok (.ret v) => obtain ⟨u, ob, hu, n, ob2, d, p, hq⟩ := hr; exact ⟨u, ob2, hu, n.forget p, hq⟩
  | .ok .next => exact hr.elim
  | .ok .brk => exact hr.elim
  | .ok .cont => exact hr.elim
  | .error e => exact hr
theorem cal_E {f : Addr} {args : List V} {d : Nat} {hq : Bool} {r : V} {small oth ob1 : Obs} (ok : c.Ok) (p : Picks ob small oth) (F : FnE c.g f args d hq r ob1 small) (q : App ob1 oth ob') (hd : d ≤ c.d) (hh : hq = true ∨ c.B.handled = none) (h : Q r lo ob') : Cal c (.ref f) args Q X lo ob :=
  cal_fn (QF := fun v ob => v = r ∧ ob = ob') (XF := fun _ _ => False) ok (FnC.frame p (F.mono (fun v ob ⟨e1, e2⟩ => ⟨e1, by rw [e2]; exact q.eq⟩) fun _ _ x => x)) hd hh (fun v ob ⟨e1, e2⟩ => by rw [e1, e2]; exact h) fun _ _ x => x.elim
theorem cal_new {C f : Addr} {args : List V} {d : Nat} {hq : Bool} {small oth : Obs} {ob1 : Addr → Addr → Obs} {ob2 : Addr → Addr → Obs} (ok : c.Ok) (hm : makesIn c.g.K C = true) (hi : findIn c.g.K (.ref C) "__init__" = some (some (.ref f))) (hfn : isFn c.g.K (.ref f) = true)
    (F : ∀ x dx, FnE c.g f (.ref x :: args) d hq .none (ob1 x dx) ((x, .inst C dx) :: (dx, .dct []) :: [])) (q : ∀ x dx, App (ob1 x dx) ob (ob2 x dx)) (hd : d + 1 ≤ c.d) (hh : hq = true ∨ c.B.handled = none)
    (h : ∀ x dx, Q (.ref x) lo (ob2 x dx)) : Cal c (.ref C) args Q X lo ob :=
  cal_cls ok hm hi hfn hd hh fun x dx => FnC.frame (small := (x, .inst C dx) :: (dx, .dct []) :: []) (oth := ob) (.cons .head (.cons .head .nil)) ((F x dx).mono (fun v o ⟨e1, e2⟩ => ⟨e1, by rw [e2, (q x dx).eq]; exact h x dx⟩) fun _ _ e => e.elim)

theorem Wkn.mono {P P' : Loc → Obs → Prop} (h : Wkn P lo ob) (hp : ∀ lo ob, P lo ob → P' lo ob) : Wkn P' lo ob := by
  obtain ⟨lo2, ob2, d, h1, h2, h3⟩ := h
  exact ⟨lo2, ob2, d, h1, h2, hp _ _ h3⟩
noncomputable def TurnQ (I : Loc → Obs → Prop) (Q : QT AF) : QT AF := fun f lo ob => match f with
  | .brk => Q .next lo ob
  | .ret v => Q (.ret v) lo ob
  | _ => Wkn I lo ob
theorem turn_next {I : Loc → Obs → Prop} {Q : QT AF} (h : Wkn I lo ob) : TurnQ I Q .next lo ob := h
theorem turn_brk {I : Loc → Obs → Prop} {Q : QT AF} (h : Q .next lo ob) : TurnQ I Q .brk lo ob := h
theorem forW_inv {tg : Expr} {body : List Stmt} {items : List V} (I : Nat → Loc → Obs → Prop) (turn : ∀ k v lo ob, items[k]? = some v → I k lo ob → Asg c tg v (fun lo ob => W c FR (execs body c.env) (TurnQ (I (k + 1)) QF) X lo ob) X lo ob)
    (hend : ∀ lo ob, I items.length lo ob → QF .next lo ob) (h : I 0 lo ob) : ForW c tg body QF X items lo ob := by
  have key : ∀ (vs : List V) (k : Nat) lo ob, items.drop k = vs → I k lo ob → k ≤ items.length → ForW c tg body QF X vs lo ob := by
    intro vs
    induction vs with
    | nil =>
      intro k lo ob e hI hk
      have : items.length - k = 0 := by rw [← List.length_drop, e]; rfl
      have : k = items.length := by omega
      subst this
      exact hend _ _ hI
    | cons v vs ih =>
      intro k lo ob e hI hk
      have hlt : k < items.length := by
        have : items.length - k = vs.length + 1 := by rw [← List.length_drop, e]; rfl
        omega
      have hv : items[k]? = some v := by
        have := congrArg List.head? e
        simpa using this
      have e2 : items.drop (k + 1) = vs := by
        have := congrArg (List.drop 1) e
        rw [List.drop_drop] at this
        simpa using this
      intro cv hr z s n
      refine thenQ (turn k v lo ob hv hI cv hr z s n) fun _ s1 _ lo1 ob1 hu n1 h1 => ⟨(), lo1, ob1, hu, n1, ?_⟩
      refine h1.mono (fun f lo2 ob2 h2 => ?_) fun _ _ _ x => x
      cases f with
      | next => exact Wkn.mono h2 fun lo ob hI => ih (k + 1) lo ob e2 hI hlt
      | cont => exact Wkn.mono h2 fun lo ob hI => ih (k + 1) lo ob e2 hI hlt
      | brk => exact h2
      | ret v => exact h2
  exact key _ 0 lo ob rfl h (Nat.zero_le _)
theorem hdl_yes {t : Expr} {hb : List Stmt} {a : Addr} {cls : Value} {d : Option Addr} {arg : Option V} {ct : Value} (ok : c.Ok) (hm : (a, Ob.exc cls d arg) ∈ ob) (hn : NameIs (Mine.mk c a) t ct) (he : exmOne c.g.K cls ct = some true)
    (h : (Mine.mk c a).Ok → W (Mine.mk c a) FR (execs hb (Mine.mk c a).env) QF X lo ob) : Hdl c t hb QF X a lo ob := ⟨cls, d, arg, ct, true, hm, hn, he, by rw [if_pos rfl]; exact h (mk_ok ok a)⟩
theorem whileq_next {I : Nat → Loc → Obs → Prop} {n : Nat} (h : Wkn (fun lo ob => ∃ k, k < n ∧ I k lo ob) lo ob) : WhileQ c I n QF .next lo ob := h
end
end Mine
namespace Mine
theorem relabel_nofree {scope : Scope} {env : Env} (h : ∀ y ∈ scope.names, y.2 ≠ .free) : (relabel scope env).names = scope.names := by
  unfold relabel
  simp only
  conv => rhs; rw [← List.map_id scope.names]
  refine List.map_congr_left fun y hy => ?_
  have := h y hy
  obtain ⟨n, k⟩ := y
  have e : (k == NameKind.free) = false := by simpa using this
  simp [e]
section
variable {c : Cx} {lo : Loc} {ob ob' : Obs} {X : QT Addr} {Q : QT V} {QF : QT AF} {a : Addr} {vs : List V}
theorem W_Comp0 {elt iter : Expr} {ifs : List Expr} {x : Str} {px pos : Pos} {scope : Scope} (ok : c.Ok) (hfree : ∀ y ∈ scope.names, y.2 ≠ .free) (hclos : closureFor scope c.env = pure []) (hcell : ∀ y ∈ scope.names, y.2 ≠ .cell) (hkind : scope.kind = .function)
    (hnames : ∀ y ∈ scope.names, y.2 = .local → scope.names.lookup y.1 = some .local) (hx : scope.names.lookup x = some .local) (hnd : (scope.names.map (·.1)).Nodup)
    (h : W c VR (eval iter c.env) (fun v lo ob => CompF c elt ifs x scope.names Q v lo ob) X lo ob) (hs : ∀ x, foldedSetIterable iter c.env x = pure x := by intro _; rfl) : W c VR (eval (.ListComp elt [⟨.Name x px, iter, ifs, 0⟩] scope pos) c.env) Q X lo ob :=
  W_ListComp ok (relabel_nofree hfree) hclos (fun x hx => by rw [relabel_nofree hfree] at hx; exact absurd rfl (hcell _ (mem_of_lookup hx))) hcell hkind hnames hx hnd h hs
theorem cal_app {f : V} {x : V} {vs : List V} (h : Cal c f (x :: vs) Q X lo ob) : Cal c f ([x] ++ vs) Q X lo ob := h
end
noncomputable def ovV (o : Option (List Nat)) : V := match o with | none => .none | some c => .str c
noncomputable abbrev tokE (it st : V) (l : List Nat) (i : Int) (nx : V) : List (Str × V) := [(Str.ofString "istext", it), (Str.ofString "string", st), (Str.ofString "decoded_string", .str l), (Str.ofString "index", .int i), (Str.ofString "next", nx)]
theorem bs_code {c : Nat} : ([c] = [92]) ↔ (tx [c] == Str.ofString "\\") = true := by rw [bs_beq]; simp
theorem stepA_one {l : List Nat} {i j c : Nat} {o : Option (List Nat)} (hn : nxt l i = some (j, o)) (h : l[((i : Nat) : Int).toNat]? = some c) (hc : ¬ [c] = [92]) : i + 1 = j ∧ some [c] = o := step_one hn h (by rw [bs_code] at hc; simpa using hc)
theorem stepA_two {l : List Nat} {i j c d : Nat} {o : Option (List Nat)} (hn : nxt l i = some (j, o)) (h : l[((i : Nat) : Int).toNat]? = some c) (hc : [c] = [92]) (h2 : l[((i : Nat) + 1 : Int).toNat]? = some d) : i + 2 = j ∧ some ([c] ++ [d]) = o := step_two hn h (bs_code.mp hc) h2
theorem stepA_bad {l : List Nat} {i j c : Nat} {o : Option (List Nat)} (hn : nxt l i = some (j, o)) (h : l[((i : Nat) : Int).toNat]? = some c) (hc : [c] = [92]) (h2 : l[((i : Nat) + 1 : Int).toNat]? = none) : False := step_bad hn h (bs_code.mp hc) h2
end Mine
namespace Mine
section
variable {c : Cx} {lo : Loc} {ob ob' : Obs} {X : QT Addr} {Q : QT V} {QF : QT AF} {a : Addr} {vs : List V}
theorem CompE.mapk {α : Type} {elt : Expr} {x : Str} {ns' : Nms} {QF : List V → Loc → Obs → Prop} {l : List α} {g : α → V} (f : α → V)
    (hE : ∀ k ∈ l, ∀ c' : Cx, c'.Ok → c'.g = c.g → c'.env.scope.names = ns' → c'.cv = some [(x, g k)] → c'.d = c.d → c'.B = c.B → W c' VR (eval elt c'.env) (fun y lo' ob' => y = f k ∧ lo' = lo ∧ ob' = ob) never lo ob)
    (h : QF (l.map f) lo ob) : CompE c elt [] x ns' QF (l.map g) [] lo ob := by
  have key : ∀ (l : List α) (acc : List V), (∀ k ∈ l, ∀ c' : Cx, c'.Ok → c'.g = c.g → c'.env.scope.names = ns' → c'.cv = some [(x, g k)] → c'.d = c.d → c'.B = c.B → W c' VR (eval elt c'.env) (fun y lo' ob' => y = f k ∧ lo' = lo ∧ ob' = ob) never lo ob) → QF (acc ++ l.map f) lo ob → CompE c elt [] x ns' QF (l.map g) acc lo ob := by
    intro l
    induction l with
    | nil => intro acc _ h; rw [List.map_nil, List.append_nil] at h; exact h
    | cons v vs ih =>
      intro acc hE h c' h1 h2 h3 h4 h5 h6 h7 h8 h9
      refine br_t ((hE v (.head _) c' h1 h2 h4 h5 h6 h7).mono ?_ fun _ _ _ x => x)
      rintro y _ _
      intro hgr142_0
      refine of_gen fun _ kg => ?_
      obtain ⟨rfl, rfl, rfl⟩ := hgr142_0
      refine kg ?_
      exact ih _ (fun u hu => hE u (.tail _ hu)) (by simpa using h)
  exact key l [] hE h
end
end Mine
end
section
open PySem PySem.W PySem.Calls PySem.Spec PyProof.Rows
set_option Elab.async false
set_option maxRecDepth 100000
set_option linter.unusedVariables false
namespace Mine

noncomputable def BaseL (c : Cx) (a : Addr) (vs : List V) : Prop := ∃ cs, c.g.hb.IsList a cs.toArray ∧ VRs vs cs
theorem LA.base {c : Cx} {ob : Obs} {a : Addr} {vs : List V} (h : BaseL c a vs) : LA c ob a vs := .inr h
theorem vrs_ints {ns : List Int} {cs : List Value} (h : IntsAre cs ns) : VRs (ns.map V.int) cs := by
  induction h with
  | nil => exact .nil
  | cons _ t _ ih => exact .cons ⟨t, rfl⟩ ih

theorem law_enterO (g : G) (env : Env) {s : Shared} {m : Str → Option Value} {lo0 : Loc} {body : List Stmt} {Qg : Flow → Shared → Prop} (X : g.K.In g.hb) (T : Top g.p g.loose g.mean g.mg g.mb g.hb)
    (hkind : env.scope.kind = .function) (hframe : env.frame = some env.locals) (hglob : env.globals = mainGlobals) (hblt : env.builtins = builtinsNs) (hnd : (env.scope.names.map (·.1)).Nodup)
    {os0 : List (Addr × Obj)} {ob0 : Obs} (N0 : News g.hb env.locals s.heap os0) (hob : ORs g.w.params ob0 os0) (hon : (os0.map (·.1)).Nodup) (F : Fr g.hb env.locals s.heap m) (hlr : LR env.scope.names lo0 m) (hos : s.os = g.os0) (hgens : s.gens = g.gens0)
    (hq : ∀ s' : Shared, (∀ b o, g.hb.get? b = some o → s'.heap.get? b = some o) → s'.os = g.os0 → s'.gens = g.gens0 → Qg (.ret (.bool true)) s')
    (h : ∀ c : Cx, c.Ok → c.g = g → c.env = env → c.ns = env.scope.names → c.cv = none → c.d = 10 → c.B.handled = none → W c FR (execs body c.env) (fun f _ _ => f = .ret (.bool true)) (fun _ _ _ => False) lo0 ob0) :
    wpAny (model g.prog g.w) (callerA.deeper env) (execs body env) Qg (fun _ _ => False) s := by
  let c : Cx := { g := g, B := callerA.deeper env, env := env, fenv := env, ns := env.scope.names, outer := [], frs0 := [], rest := [], cv := none, d := 10 }
  have ok : c.Ok := by
    refine ⟨⟨X, T⟩, rfl, rfl, hnd, hframe, hkind, rfl, hkind, hglob, hblt, hnd, ?_, ?_, fun _ => rfl, (fun _ e => nomatch e), fun _ _ _ h => h⟩
    · show callerA.depth + 1 + 10 < recursionLimit
      decide
    · show callerA.units + 3 + 4 * 10 + 100 < cLine
      decide
  refine wpAny_mono (h c ok rfl rfl rfl rfl rfl rfl [] s ⟨m, os0, [], F, hlr, hob, (by show News g.hb env.locals s.heap (os0 ++ (([] ++ []) ++ [])); simpa using N0), (by show ((os0 ++ (([] : List (Addr × Obj)) ++ [])).map (fun p : Addr × Obj => p.1)).Nodup; simpa using hon), fram0, (fun a ha hm => List.not_mem_nil (a := a) hm), hos, hgens⟩) (fun f s' q => q.elim fun gf lo ob hf n e => ?_) fun e s' q => q.elim fun _ _ _ _ _ x => x.elim
  subst e
  obtain ⟨m', os, frs, n⟩ := n
  obtain ⟨cv, rfl, e⟩ := hf
  cases e
  exact hq s' n.F.keep n.og.1 n.og.2

theorem law_enter (g : G) (env : Env) {s : Shared} {m : Str → Option Value} {lo0 : Loc} {body : List Stmt} {Qg : Flow → Shared → Prop} (X : g.K.In g.hb) (T : Top g.p g.loose g.mean g.mg g.mb g.hb)
    (hkind : env.scope.kind = .function) (hframe : env.frame = some env.locals) (hglob : env.globals = mainGlobals) (hblt : env.builtins = builtinsNs) (hnd : (env.scope.names.map (·.1)).Nodup)
    (F : Fr g.hb env.locals s.heap m) (hlr : LR env.scope.names lo0 m) (hos : s.os = g.os0) (hgens : s.gens = g.gens0)
    (hq : ∀ s' : Shared, (∀ b o, g.hb.get? b = some o → s'.heap.get? b = some o) → s'.os = g.os0 → s'.gens = g.gens0 → Qg (.ret (.bool true)) s')
    (h : ∀ c : Cx, c.Ok → c.g = g → c.env = env → c.ns = env.scope.names → c.cv = none → c.d = 10 → c.B.handled = none → W c FR (execs body c.env) (fun f _ _ => f = .ret (.bool true)) (fun _ _ _ => False) lo0 []) :
    wpAny (model g.prog g.w) (callerA.deeper env) (execs body env) Qg (fun _ _ => False) s :=
  law_enterO (os0 := []) (ob0 := []) g env X T hkind hframe hglob hblt hnd (fun p hp => nomatch hp) .nil List.nodup_nil F hlr hos hgens hq h

section
variable {c : Cx} {lo : Loc} {ob ob' : Obs} {X : QT Addr} {Q : QT V} {QF : QT AF} {a : Addr} {vs : List V}
theorem cut_ns_map {α : Type} {l : List α} {f : α → V} {k : Nat} : cut (l.map f) none (some (k : Int)) = (l.take k).map f := by
  have e : ¬ ((k : Int) < 0) := by omega
  unfold cut kms_lo kms_hi
  simp [e]
end
end Mine
namespace Mine
section
variable {c : Cx} {lo : Loc} {ob ob' : Obs} {X : QT Addr} {Q : QT V}
end
end Mine
end
section
open PySem PySem.W PySem.Calls PySem.Spec PyProof.Rows
set_option Elab.async false
set_option maxRecDepth 100000
set_option linter.unusedVariables false
namespace Mine

structure TkF (g : G) (TK ini : Addr) (attrs : List Str) (meths fns : List (Str × Addr)) (blts : List (Str × Value)) : Prop where
  att : ∀ x ∈ attrs, plainGet g.K TK x = true ∧ findIn g.K (.ref TK) x = some none ∧ takerIn g.K TK x = some none
  met : ∀ p ∈ meths, plainGet g.K TK p.1 = true ∧ findIn g.K (.ref TK) p.1 = some (some (.ref p.2)) ∧ isFn g.K (.ref p.2) = true ∧ keepIn g.K (.ref p.2) = true
  fun_ : ∀ p ∈ fns, nsIn g.K mainGlobals p.1 = some (some (.ref p.2)) ∧ keepIn g.K (.ref p.2) = true ∧ (p.1 == ("__debug__" : Str)) = false
  blt : ∀ p ∈ blts, nsIn g.K mainGlobals p.1 = some none ∧ bootBuiltins p.1 = some p.2 ∧ p.1 ≠ "__name__" ∧ (p.1 == ("__debug__" : Str)) = false
  ng : noGet g.K none = true
  hd : hasDictIn g.K TK = true
  sa : findIn g.K (.ref TK) "__setattr__" = some (some (.builtin "object.__setattr__"))
  po : plainOver g.K TK = true
  mi : makesIn g.K TK = true
  ii : findIn g.K (.ref TK) "__init__" = some (some (.ref ini))
  isf : isFn g.K (.ref ini) = true

section
variable {c : Cx} {lo : Loc} {ob ob' : Obs} {X : QT Addr} {Q : QT V} {QF : QT AF} {TK ini : Addr} {attrs : List Str} {meths fns : List (Str × Addr)} {blts : List (Str × Value)}
theorem geta_tk {x d : Addr} {es : List (Str × V)} {name : Str} {v : V} (ok : c.Ok) (H : TkF c.g TK ini attrs meths fns blts) (h1 : (x, .inst TK d) ∈ ob) (h2 : (d, .dct es) ∈ ob) (hn : name ∈ attrs) (hl : Ent es name v) (hv : handedV v = true) (h : Q v lo ob) : GetA c (.ref x) name Q X lo ob :=
  geta_own ok h1 h2 (H.att _ hn).1 H.hd (H.att _ hn).2.1 H.ng hl hv h
theorem seta_tk {x d : Addr} {es es' : List (Str × V)} {name : Str} {v : V} {Q : Loc → Obs → Prop} (ok : c.Ok) (H : TkF c.g TK ini attrs meths fns blts) (h1 : (x, .inst TK d) ∈ ob) (u : OUpd d (.dct es) (.dct es') ob ob') (hn : name ∈ attrs) (e : EPut es name v es') (hz : es'.length ≤ 1000) (h : Q lo ob') : SetA c (.ref x) name v Q X lo ob :=
  seta_inst ok h1 u H.sa H.po (H.att _ hn).2.2 H.hd e hz h
theorem getm_tk {x d f : Addr} {es : List (Str × V)} {name : Str} {Q : V → List V → Loc → Obs → Prop} (ok : c.Ok) (H : TkF c.g TK ini attrs meths fns blts) (h1 : (x, .inst TK d) ∈ ob) (h2 : (d, .dct es) ∈ ob) (hm : (name, f) ∈ meths) (hl : NoEnt es name) (h : Q (.ref f) [.ref x] lo ob) : GetM c (.ref x) name Q X lo ob :=
  getm_inst ok h1 h2 (H.met _ hm).1 (H.met _ hm).2.1 (H.met _ hm).2.2.1 hl h
theorem W_globT {x : Str} {a : Addr} {p : Pos} {ns : Nms} (ok : c.Ok) (H : TkF c.g TK ini attrs meths fns blts) (hns : c.env.scope.names = ns) (hk : InN ns x .globalImplicit) (hx : (x, a) ∈ fns) (h : Q (.ref a) lo ob) : W c VR (eval (.Name x p) c.env) Q X lo ob :=
  W_glob ok hns hk (H.fun_ _ hx).1 (u := .ref a) rfl h (H.fun_ _ hx).2.2
theorem W_bltT {x : Str} {v : Value} {p : Pos} {ns : Nms} (ok : c.Ok) (H : TkF c.g TK ini attrs meths fns blts) (hns : c.env.scope.names = ns) (hk : InN ns x .globalImplicit) (hx : (x, v) ∈ blts) (h : Q (.cv v) lo ob) : W c VR (eval (.Name x p) c.env) Q X lo ob :=
  W_blt ok hns hk (H.blt _ hx).1 (H.blt _ hx).2.1 (u := .cv v) rfl h (H.blt _ hx).2.2.1 (H.blt _ hx).2.2.2
theorem kp_met {P : Prop} {n : Str} {f : Addr} (H : TkF c.g TK ini attrs meths fns blts) (hm : (n, f) ∈ meths) (hp : P) : Kp c (.ref f) ∧ P := ⟨kp_ref (H.met _ hm).2.2.2, hp⟩
theorem kp_fun {P : Prop} {n : Str} {f : Addr} (H : TkF c.g TK ini attrs meths fns blts) (hm : (n, f) ∈ fns) (hp : P) : Kp c (.ref f) ∧ P := ⟨kp_ref (H.fun_ _ hm).2.1, hp⟩
theorem hdl_bltT {x : Str} {p : Pos} {ns : Nms} {hb : List Stmt} {a : Addr} {cls : Value} {d : Option Addr} {arg : Option V} {ct : Value} (ok : c.Ok) (H : TkF c.g TK ini attrs meths fns blts) (hm : (a, Ob.exc cls d arg) ∈ ob) (hns : c.env.scope.names = ns) (hk : InN ns x .globalImplicit) (hx : (x, ct) ∈ blts) (he : exmOne c.g.K cls ct = some true)
    (h : (Mine.mk c a).Ok → W (Mine.mk c a) FR (execs hb (Mine.mk c a).env) QF X lo ob) : Hdl c (.Name x p) hb QF X a lo ob :=
  hdl_yes ok hm (nameIs_blt (c := Mine.mk c a) (mk_ok ok a) hns hk (H.blt _ hx).1 (H.blt _ hx).2.1 (H.blt _ hx).2.2.1 (H.blt _ hx).2.2.2) he h
end
end Mine
end
section
open PySem PySem.W PySem.Calls PySem.Spec PyProof.Rows
set_option Elab.async false
set_option maxRecDepth 100000
set_option linter.unusedVariables false
namespace Mine

section
variable {c : Cx} {lo : Loc} {ob ob' : Obs} {X : QT Addr} {Q : QT V} {QF : QT AF} {a b : Addr} {vs ws : List V}
noncomputable def plainV : V → Bool
  | .ref _ => false
  | .cv _ => false
  | _ => true
theorem plain_and {v : V} {P : Prop} (h : plainV v = true) (hp : P) : plainV v = true ∧ P := ⟨h, hp⟩
theorem S_ExprV {e : Expr} {pos : Pos} (h : W c VR (eval e c.env) (fun v lo ob => plainV v = true ∧ QF .next lo ob) X lo ob) (hi : interactive c.env = false) (hs : swapsWith e none pos.line c.env = pure false := by rfl) :
    W c FR (exec (.Expr e pos) c.env) QF X lo ob := fun z s n =>
  wpAny_Expr (thenQ (h z s n) fun ca s' a lo ob ha n h => by
    obtain ⟨hp, h⟩ := h
    have hq : LQ c z FR QF Flow.next s' := ⟨AF.next, lo, ob, rfl, n, h⟩
    cases a with
    | ref a => cases hp
    | cv v => cases hp
    | none => cases ha; exact hq
    | bool b => cases ha; exact hq
    | int i => obtain ⟨t, rfl⟩ := ha; exact hq
    | str l => obtain ⟨t, rfl⟩ := ha; exact hq
    | bytes l => obtain ⟨_, t, rfl, _⟩ := ha; exact hq) hi hs

/- texts, so many times -/
theorem mul_tx {l : List Nat} {i : Int} : Txt.mul (tx l) i = tx (List.replicate i.toNat l).flatten := by
  have key : ∀ (n : Nat) (acc : Array Nat), (List.replicate n (tx l).cps).foldl (· ++ ·) acc = acc ++ (List.replicate n l).flatten.toArray := by
    intro n
    induction n with
    | zero => intro acc; simp
    | succ n ih =>
      intro acc
      rw [List.replicate_succ, List.foldl_cons, ih, List.replicate_succ, List.flatten_cons]
      simp [tx]
  unfold Txt.mul
  by_cases h1 : i < 1
  · rw [if_pos h1, show i.toNat = 0 by omega]; rfl
  · rw [if_neg h1]
    split
    · rename_i h2
      simp only [Bool.or_eq_true, beq_iff_eq, tx_length] at h2
      rcases h2 with rfl | h2
      · simp
      · rw [List.eq_nil_of_length_eq_zero h2]
        simp
    · have := key i.toNat #[]
      rw [this]
      simp [tx]
theorem mulOk_tx {l : List Nat} {i : Int} (h0 : 0 ≤ i) (h1 : i ≤ 1000) (hz : l.length ≤ 1000) : MulOk (tx l) i :=
  mulOk_of 1000 1000 (by rw [tx_length]; exact hz) h1 (by omega) (by decide) (by decide)
theorem mul_str_int {l : List Nat} {i : Int} (h0 : 0 ≤ i) (h1 : i ≤ 1000) (hz : l.length ≤ 1000) (h : Q (.str (List.replicate i.toNat l).flatten) lo ob) : Bin c .Mult (.str l) (.int i) Q X lo ob := by
  rintro _ _ ⟨t, rfl⟩ ⟨u, rfl⟩ z s n
  exact SB.mul (mulOk_tx h0 h1 hz) fun t' k => by rw [mul_tx]; exact LQ.str (n.toks rfl) h
/- equality at any depth -/
noncomputable def EqD (c : Cx) (ob : Obs) (k : Nat) (v w : V) (r : Bool) : Prop := ∀ z lo s, Now c z lo ob s → ∀ A : Around, A.units + k < cLine → ∀ cv cw, VR v cv → VR w cw → PySem.SeqAt.EqAt A s cv cw r
noncomputable def EqDs (c : Cx) (ob : Obs) (k : Nat) (vs ws : List V) (r : Bool) : Prop := (vs.length ≠ ws.length → r = false) ∧ ∃ e : Nat → Bool, (∀ (j : Nat) v w, vs[j]? = some v → ws[j]? = some w → EqD c ob k v w (e j)) ∧ (vs.length = ws.length → (List.range vs.length).all e = r)
variable {k : Nat} {v w : V} {r r' : Bool}
theorem eqds_nil : EqDs c ob k [] [] true := ⟨fun h => absurd rfl h, fun _ => true, fun j v w h => by simp at h, fun _ => rfl⟩
theorem eqds_cons (h : EqD c ob k v w r) (hr : EqDs c ob k vs ws r') : EqDs c ob k (v :: vs) (w :: ws) (r && r') := by
  refine of_gen fun _ kg => ?_
  obtain ⟨h0, e, h1, h2⟩ := hr
  refine kg ?_
  refine ⟨fun hn => ?_, fun j => match j with | 0 => r | j + 1 => e j, fun j v' w' h3 h4 => ?_, fun hl => ?_⟩
  · rw [h0 (fun e => hn (by simp [e]))]; simp
  · cases j with
    | zero => simp at h3 h4; subst h3 h4; exact h
    | succ j => exact h1 j v' w' (by simpa using h3) (by simpa using h4)
  · rw [List.length_cons, List.range_succ_eq_map, List.all_cons, List.all_map, ← h2 (by simpa using hl)]
    rfl
theorem eqds_at {cs ds : List Value} (h : EqDs c ob k vs ws r) (h1 : VRs vs cs) (h2 : VRs ws ds) {z : List (Addr × Obj)} {s : Shared} (n : Now c z lo ob s) {A : Around} (hu : A.units + k < cLine) :
    (cs.toArray.size ≠ ds.toArray.size → r = false) ∧ ∃ e : Nat → Bool, (∀ j (h1 : j < cs.toArray.size) (h2 : j < ds.toArray.size), PySem.SeqAt.EqAt A s cs.toArray[j] ds.toArray[j] (e j)) ∧ (cs.toArray.size = ds.toArray.size → (List.range cs.toArray.size).all e = r) := by
  have e1 := h1.length
  have e2 := h2.length
  refine of_gen fun _ kg => ?_
  obtain ⟨h0, e, g1, g2⟩ := h
  refine kg ?_
  refine ⟨fun hn => h0 (by simpa [e1, e2] using hn), e, fun j j1 j2 => ?_, fun hl => by rw [List.size_toArray, ← e1]; exact g2 (by simpa [e1, e2] using hl)⟩
  refine of_gen fun _ kg => ?_
  obtain ⟨v, q1, q2⟩ := h1.get' j cs[j] (List.getElem?_eq_getElem (by simpa using j1))
  obtain ⟨w, q3, q4⟩ := h2.get' j ds[j] (List.getElem?_eq_getElem (by simpa using j2))
  refine kg ?_
  simpa using g1 j v w q1 q3 z lo s n A hu _ _ q2 q4
theorem lst_at (hm : LA c ob a vs) {z : List (Addr × Obj)} {s : Shared} (n : Now c z lo ob s) : ∃ cs, s.heap.IsList a cs.toArray ∧ VRs vs cs := by
  refine of_gen fun _ kg => ?_
  obtain ⟨m, os, frs, n⟩ := n
  refine kg ?_
  exact hm.at n
theorem rc_lists (ha : LA c ob a vs) (hb : LA c ob b ws) (h : EqDs c ob k vs ws r) {z : List (Addr × Obj)} {s : Shared} (n : Now c z lo ob s) {A : Around} (hu : A.units + (k + 1) < cLine) :
    PySem.SeqAt.RcAt A s (.ref a) (.ref b) r ∧ PySem.SeqAt.RcNeAt A s (.ref a) (.ref b) (!r) := by
  refine of_gen fun _ kg => ?_
  obtain ⟨cs, h1, r1⟩ := lst_at ha n
  obtain ⟨ds, h2, r2⟩ := lst_at hb n
  refine kg ?_
  have hin : A.in1.units = A.units + 1 := rfl
  refine of_gen fun _ kg => ?_
  obtain ⟨g1, e, g3, g4⟩ := eqds_at h r1 r2 n (A := A.in1) (by rw [hin]; omega)
  refine kg ?_
  by_cases hl : cs.toArray.size = ds.toArray.size
  · rw [← g4 hl]
    exact ⟨PySem.SeqAt.RcAt.lists h1 h2 hl (by omega) g3, PySem.SeqAt.RcNeAt.lists h1 h2 hl (by omega) g3⟩
  · rw [g1 hl]
    have hb : (cs.toArray.size != ds.toArray.size) = true := by simpa using hl
    exact ⟨PySem.SeqAt.RcAt.lists_lengths h1 h2 hb (by omega), PySem.SeqAt.RcNeAt.lists_lengths h1 h2 hb (by omega)⟩
theorem ne_lists (ok : c.Ok) (ha : LA c ob a vs) (hb : LA c ob b ws) (h : EqDs c ob 50 vs ws r) (hq : Q (.bool (!r)) lo ob) : Cmp c .NotEq (.ref a) (.ref b) Q X lo ob := by
  rintro _ _ rfl rfl z s n
  exact (rc_lists ha hb h n (A := c.B) (by have := ok.un; omega)).2 _ _ _ _ (LQ.bool n hq)
/- the parts -/
theorem eqd_int {i j : Int} : EqD c ob k (.int i) (.int j) (decide (i = j)) := by
  rintro z lo s n A hu _ _ ⟨t, rfl⟩ ⟨u, rfl⟩
  have e : decide (i = j) = (i == j) := by by_cases q : i = j <;> simp [q]
  rw [e]; exact PySem.SeqAt.EqAt.int_int i t j u
theorem eqd_str {x y : List Nat} : EqD c ob k (.str x) (.str y) (decide (x = y)) := by
  rintro z lo s n A hu _ _ ⟨t, rfl⟩ ⟨u, rfl⟩
  rw [← tx_beq]; exact PySem.SeqAt.EqAt.str_str _ t _ u
theorem eqd_nn : EqD c ob k .none .none true := by rintro z lo s n A hu _ _ rfl rfl; exact PySem.SeqAt.EqAt.same _
end
end Mine
end
section
open PySem PySem.W PySem.Calls PySem.Spec PyProof.Rows PySem.Builtin.ObjectAttr
set_option Elab.async false
set_option maxRecDepth 100000
set_option linter.unusedVariables false
namespace Mine

section
variable {prog : Program} {w : World} {A : Around} {K : Frag} {C x : Addr} {s : Shared} {R : Result → Shared → Prop}
end
section
variable {prog : Program} {w : World} {A : Around} {E : Value → Shared → Prop} {s : Shared} {h₀ : Heap} {L : Addr} {m : Str → Option Value}
end
section
variable {prog : Program} {w : World} {A : Around} {E : Value → Shared → Prop} {s : Shared} {K : Frag} {C x : Addr} {oda : Data} {osl : Array (Option Value)} {cd : ClassData} {name : Str} {tk : Tok} {v : Value} {b : Bool} {Q : Fin → Shared → Prop}
end
section
variable {c : Cx} {lo : Loc} {ob ob' : Obs} {X : QT Addr} {Q : QT V} {PE : Addr} {names : List Str}
end
section
variable {prog : Program} {w : World} {A : Around} {K : Frag} {C x : Addr} {E : Value → Shared → Prop} {hh : Heap} {gg : Array GenState} {d : Drawn} {t : Nat} {os : OsState}
end
section
variable {c : Cx} {lo : Loc} {ob ob' : Obs} {X : QT Addr} {Q : QT V} {PE : Addr} {names : List Str}
end
end Mine
end
section
open PySem PySem.W PySem.Calls PySem.Spec PyProof.Rows PySem.Builtin.ObjectAttr
set_option Elab.async false
set_option maxRecDepth 100000
set_option linter.unusedVariables false
namespace Mine
namespace FX
theorem slot_wd_get : Slot "wrapper_descriptor" "__get__" "wrapper_descriptor.__get__" := .of (owner := "wrapper_descriptor") (n := "__get__") (by rw [typeLookup_type, builtinLookup_eq_fast]; kernel_rfl) (by decide +kernel) (by decide +kernel) (by decide +kernel)
  (by first | exact .inl (by decide +kernel) | exact .inr (by decide +kernel)) (by rw [isSubtype_type]; kernel_rfl)
theorem entry_wd_get : entryFor table "wrapper_descriptor.__get__" = some Builtin.«wrapper_descriptor.__get__» := entryFor_of_tree (by kernel_rfl)
theorem args_wd_get (a b c : Value) : argsOk "wrapper_descriptor.__get__" ⟨[a, b, c], []⟩ := by unfold argsOk; kernel_rfl
theorem type_init : typeOf (.builtin "Exception.__init__") = pure (.type "wrapper_descriptor") := by kernel_rfl
theorem own_init : classOwn (.type "Exception") "__init__" = pure (some (.builtin "Exception.__init__")) := by kernel_rfl
end FX
section
variable {prog : Program} {w : World} {A : Around} {E : Value → Shared → Prop} {h : Heap} {g : Array GenState} {d : Drawn} {t : Nat} {os : OsState}
end
end Mine
end
section
open PySem PySem.W PySem.Calls PySem.Spec PyProof.Rows PySem.Builtin.ObjectAttr
set_option Elab.async false
set_option maxRecDepth 100000
set_option linter.unusedVariables false
namespace Mine

section
variable {c : Cx} {k : Code} {lo lo' : Loc} {ob : Obs} {X : QT Addr} {Q : QT AF} {r : List Stmt}
end
section
variable {c : Cx} {k : Code} {lo lo' : Loc} {ob : Obs} {X : QT Addr} {Q : QT AF} {names : List Str}
end
end Mine
end
section
open PySem PySem.W PySem.Calls PySem.Spec PyProof.Rows PySem.Builtin.ObjectAttr
set_option Elab.async false
set_option maxRecDepth 100000
set_option linter.unusedVariables false
namespace Mine

section
variable {c : Cx} {lo : Loc} {ob : Obs} {X : QT Addr} {Q : QT V}
end
end Mine
end
section
open PySem PySem.W PySem.Calls PySem.Spec PyProof.Rows PySem.Builtin.ObjectAttr
set_option Elab.async false
set_option maxRecDepth 100000
set_option linter.unusedVariables false
namespace Mine
section
variable {c : Cx} {z : List (Addr × Obj)} {lo : Loc} {ob ob' : Obs} {s s' : Shared} {m : Str → Option Value} {os frs : List (Addr × Obj)} {X : QT Addr} {QF : QT AF}
variable {PE e dd : Addr} {arg : V} {names : List Str} {x : Expr} {pos : Pos}
end
end Mine
end
section
open PySem PySem.W PySem.Calls PySem.Spec PyProof.Rows PySem.Builtin.ObjectAttr
set_option Elab.async false
set_option maxRecDepth 100000
set_option linter.unusedVariables false
namespace Mine
section
variable {c : Cx} {z : List (Addr × Obj)} {lo : Loc} {ob ob' : Obs} {s s' : Shared} {m : Str → Option Value} {os frs : List (Addr × Obj)} {X : QT Addr} {QF : QT AF}
variable {PE e dd : Addr} {arg : V} {names : List Str} {x : Expr} {pos : Pos}
end
end Mine
end
section
open PySem PySem.W PySem.Calls PySem.Spec PyProof.Rows
set_option Elab.async false
set_option maxRecDepth 100000
set_option linter.unusedVariables false
namespace Mine
noncomputable def Hdls (c : Cx) (Q : QT AF) (X : QT Addr) : List ExceptHandler → QT Addr
  | [], a, lo, ob => X a lo ob
  | .ExceptHandler (some t) none (b0 :: hb) _ :: r, a, lo, ob => ∃ cls d arg ct b, (a, Ob.exc cls d arg) ∈ ob ∧ NameIs (mk c a) t ct ∧ exmOne c.g.K cls ct = some b ∧
      Br b (W (mk c a) FR (execs (b0 :: hb) (mk c a).env) Q X lo ob) (Hdls c Q X r a lo ob)
  | .ExceptHandler (some t) (some x) (b0 :: hb) _ :: r, a, lo, ob => ∃ cls d arg ct b, (a, Ob.exc cls d arg) ∈ ob ∧ NameIs (mk c a) t ct ∧ exmOne c.g.K cls ct = some b ∧
      Br b (∃ lo1, Put c.ns lo x (some (.ref a)) lo1 ∧ W (mk c a) FR (execs (b0 :: hb) (mk c a).env) (fun f lo ob => ∃ lo2, Put c.ns lo x none lo2 ∧ Q f lo2 ob) (fun _ _ _ => False) lo1 ob) (Hdls c Q X r a lo ob)
  | _, _, _, _ => False
section
variable {c : Cx} {z : List (Addr × Obj)} {lo : Loc} {ob : Obs} {s : Shared} {a : Addr} {X : QT Addr} {Q : QT AF}
theorem HeldX.store {fl : Value} {x : Str} {lo' : Loc} {Q : Unit → Shared → Prop} {E : Value → Shared → Prop} (ok : c.Ok) (hv : c.cv = none) (x0 : HeldX c z a lo ob fl s) (p : Put c.ns lo x (some (.ref a)) lo')
    (h : ∀ s', Now c z lo' ob s' → Q () s') : wpAny c.g.M c.B (storeName c.env x (.ref a)) Q E s := by
  refine of_gen fun _ kg => ?_
  obtain ⟨m, os, frs, n⟩ := x0.now
  refine kg ?_
  have e := ok.fn hv
  refine wpAny_storeName_local (m := m) ?_ ?_ (fun h' hn hs => h _ (n.set ok p (fun u hu => ⟨.ref a, rfl, by cases hu; exact rfl⟩) (by rw [e] at hn; exact hn) (by rw [e] at hs; exact hs))) ?_
  · rw [e]
    show c.fenv.scope.names.lookup x = _
    rw [ok.fns]
    exact lookup_of_mem ok.nd p.mem
  · rw [e]; exact n.F.ns
  · rw [ok.kind]; rfl
theorem name_goes {x : Str} {lo' : Loc} {pos : Pos} {Q : Unit → Shared → Prop} {E : Value → Shared → Prop} (ok : c.Ok) (hv : c.cv = none) (n : Now c z lo ob s) (p : Put c.ns lo x none lo')
    (h : ∀ s', Now c z lo' ob s' → Q () s') : wpAny c.g.M c.B (do bindName c.env x .none; unbindBehindTheSuite c.env x pos) Q E s := by
  refine of_gen fun _ kg => ?_
  obtain ⟨m, os, frs, n⟩ := n
  refine kg ?_
  have e := ok.fn hv
  have hl : c.env.kindOf x = some .local := by
    rw [e]
    show c.fenv.scope.names.lookup x = _
    rw [ok.fns]
    exact lookup_of_mem ok.nd p.mem
  have hp : (c.env.scope.kind == .class || (c.env.scope.kind == .module && c.env.locals != c.env.globals)) = false := by rw [ok.kind]; rfl
  have hn : s.heap.Ns c.env.locals m := by rw [e]; exact n.F.ns
  refine wpAny_bind (wpAny_bindName (wpAny_storeName_local hl hn (fun h₁ hn₁ hs₁ => ?_) hp))
  unfold unbindBehindTheSuite
  refine wpAny_onRaise ?_
  unfold unbindName
  refine wpAny_bind (wpAny_point (wpAny_bind ?_))
  unfold deleteName
  simp only [hl, hp]
  rw [if_neg (by decide)]
  refine wpAny_bind (wpAny_nsDel_keeps hn₁ fun h₂ v hn₂ hs₂ => ?_)
  simp only [if_true, Option.isSome_some, Bool.not_true, Bool.false_eq_true, if_false]
  refine wpAny_pure (wpAny_point (h _ (n.set (cv := v) ok p (fun _ q => nomatch q) ?_ ?_)))
  · rw [e] at hn₂
    refine cast (congrArg _ (funext fun y => ?_)) hn₂
    by_cases hy : y = x <;> simp [hy]
  · rw [e] at hs₁ hs₂
    exact hs₁.trans hs₂
theorem hdl_test {t : Expr} {y : Option Str} {body : List Stmt} {hpos : Pos} {r : List ExceptHandler} {cls ct : Value} {d : Option Addr} {arg : Option V} {b : Bool} {R : Flow → Shared → Prop} {E : Value → Shared → Prop} (ok : c.Ok) (x : HeldX c z a lo ob .none s) (hm : (a, Ob.exc cls d arg) ∈ ob) (hev : NameIs (mk c a) t ct) (hb1 : exmOne c.g.K cls ct = some b)
    (hy : b = true → codeAny c.g.M (c.B.mark (some (.ref a))) (.handlers (.ref a) [.ExceptHandler none y body hpos] c.env) (fun r s₂ => match r with
          | .ok f => (match y with
            | none => R f s₂
            | some n => wpAny c.g.M c.B (do bindName c.env n .none; unbindBehindTheSuite c.env n hpos) (fun _ s₃ => R f s₃) E s₂)
          | .error x => cameBackBy c.g.M c.B c.env E x s₂) s)
    (hn : b = false → wpAny c.g.M c.B (handleBy (.ref a) c.env r) R E s) : wpAny c.g.M c.B (handleBy (.ref a) c.env (.ExceptHandler (some t) y body hpos :: r)) R E s := by
  refine wpAny_handleBy_cons (codeAny_handlers_test ?_) (by intro q; cases q)
  refine hev z lo ob _ x.now.mk _ _ ?_
  refine of_gen fun _ kg => ?_
  obtain ⟨m, os, frs, n⟩ := x.now
  obtain ⟨o, _, _, ho, hc, _⟩ := n.mem hm
  refine kg ?_
  refine (exm_one (M := c.g.M) (ok.g.X.keeps n.F.keep) (looks_type ho hc) hb1).here ?_
  cases b with
  | true => exact hy rfl
  | false => exact hn rfl
theorem hdls_go {hs : List ExceptHandler} (ok : c.Ok) (hv : c.cv = none) (x : HeldX c z a lo ob .none s) (h : Hdls c Q X hs a lo ob) : wpAny c.g.M c.B (handleBy (.ref a) c.env hs) (LQ c z FR Q) (LX c z X) s := by
  induction hs with
  | nil => exact wpAny_handleBy_nil (pass_on ok hv x h)
  | cons h0 r ih =>
    refine of_gen fun _ kg => ?_
    obtain ⟨t, y, body, hpos⟩ := h0
    refine kg ?_
    cases t with
    | none => exact h.elim
    | some t =>
      cases body with
      | nil => cases y <;> exact h.elim
      | cons b0 hb =>
        cases y with
        | none =>
          refine of_gen fun _ kg => ?_
          obtain ⟨cls, d, arg, ct, b, hm, hev, hb1, hgo⟩ := h
          refine kg ?_
          exact hdl_test ok x hm hev hb1 (fun e => codeAny_handlers_suite (flight_exc (c := Mine.mk c a) x.mk fun h3 x3 => wpAny_mono (hgo.1 e z _ x3.now) (fun f s4 hf => hf.unmk) fun v s4 hx => passes_mk ok hv hx)) fun e => ih (hgo.2 e)
        | some y =>
          refine of_gen fun _ kg => ?_
          obtain ⟨cls, d, arg, ct, b, hm, hev, hb1, hgo⟩ := h
          refine kg ?_
          refine hdl_test ok x hm hev hb1 (fun e => ?_) fun e => ih (hgo.2 e)
          refine of_gen fun _ kg => ?_
          obtain ⟨lo1, p, hw⟩ := hgo.1 e
          refine kg ?_
          refine codeAny_handlers_suite_as (flight_exc (c := Mine.mk c a) x.mk fun h3 x3 => HeldX.store (c := Mine.mk c a) (mk_ok ok a) hv x3 p fun s4 n4 => ?_)
          refine wpAny_mono (hw z _ n4) (fun f s5 q => q.elim fun g lo5 ob5 hg n5 h5 => ?_) fun v s5 q => q.elim fun _ _ _ _ _ hF => hF.elim
          refine of_gen fun _ kg => ?_
          obtain ⟨lo2, p2, h5⟩ := h5
          refine kg ?_
          exact name_goes ok hv n5.unmk p2 fun s6 n6 => ⟨g, lo2, ob5, hg, n6, h5⟩
theorem S_TryX {body : List Stmt} {h0 : ExceptHandler} {hs : List ExceptHandler} {pos : Pos} (ok : c.Ok) (hv : c.cv = none) (h : W c FR (execs body c.env) Q (Hdls c Q X (h0 :: hs)) lo ob) :
    W c FR (exec (.Try body (h0 :: hs) [] [] pos) c.env) Q X lo ob := by
  intro z s n
  have he : c.env = c.fenv := ok.fn hv
  refine wpAny_Try_except (wpAny_mono (h z s n) (fun f s1 hf => ?_) fun e s1 hx => ?_)
  · obtain ⟨g, lo1, ob1, hg, n1, h1⟩ := hf
    cases g with
    | next => cases hg; exact wpAny_execs_nil ⟨AF.next, lo1, ob1, rfl, n1, h1⟩
    | brk => cases hg; exact ⟨AF.brk, lo1, ob1, rfl, n1, h1⟩
    | cont => cases hg; exact ⟨AF.cont, lo1, ob1, rfl, n1, h1⟩
    | ret v => obtain ⟨cv, rfl, hr⟩ := hg; exact ⟨AF.ret v, lo1, ob1, ⟨cv, rfl, hr⟩, n1, h1⟩
  · obtain ⟨a, lo1, ob1, rfl, x, hgo⟩ := hx
    rw [he]
    refine note_exc ok x fun h' x' => flight_exc x' fun h'' x'' => ?_
    rw [← he]
    exact hdls_go ok hv x'' hgo
variable {t : Expr} {hb : List Stmt} {b0 : Stmt} {hpos : Pos} {r : List ExceptHandler} {cls ct : Value} {d : Option Addr} {arg : Option V}
theorem S_Try {body : List Stmt} {pos : Pos} (ok : c.Ok) (hv : c.cv = none) (h : W c FR (execs body c.env) Q (Hdl c t (b0 :: hb) Q X) lo ob) :
    W c FR (exec (.Try body [.ExceptHandler (some t) none (b0 :: hb) hpos] [] [] pos) c.env) Q X lo ob :=
  S_TryX ok hv (h.mono (fun _ _ _ q => q) fun a lo ob q => by
    obtain ⟨cls, d, arg, ct, b, h1, h2, h3, h4⟩ := q
    exact ⟨cls, d, arg, ct, b, h1, h2, h3, fun e => by rw [if_pos e] at h4; exact h4, fun e => by rw [e] at h4; exact h4⟩)
end
end Mine
end
section
open PySem PySem.W PySem.Calls PySem.Spec PyProof.Rows PySem.Builtin.ObjectAttr
open Builtin Builtin.Str Builtin.BaseException Builtin.Exceptions
set_option Elab.async false
set_option maxRecDepth 100000
set_option linter.unusedVariables false
namespace Mine
section
variable {prog : Program} {w : World} {A : Around} {E : Value → Shared → Prop} {s : Shared} {e t0 : Addr} {K : Frag} {C : Addr} {cd : ClassData}
end
section
variable {c : Cx} {lo : Loc} {ob : Obs} {X : QT Addr} {Q : QT V} {PE : Addr} {names : List Str}
end
end Mine
end
section
open PySem PySem.W PySem.Calls PySem.Spec PyProof.Rows
open Builtin Builtin.Str
set_option Elab.async false
set_option maxRecDepth 100000
set_option linter.unusedVariables false
set_option exponentiation.threshold 3000
namespace Mine
section
variable {c : Cx} {lo : Loc} {ob : Obs} {X : QT Addr} {Q : QT V}
end
end Mine
end
section
open PySem PySem.W PySem.Calls PySem.Spec PyProof.Rows
open Builtin Builtin.Str PySem.StrLaws
set_option Elab.async false
set_option maxRecDepth 100000
set_option linter.unusedVariables false
namespace Mine
namespace FX
theorem slot_bytes_count : Slot "bytes" "count" "bytes.count" := .of (owner := "bytes") (n := "count") (by rw [typeLookup_type, builtinLookup_eq_fast]; kernel_rfl) (by decide +kernel) (by decide +kernel) (by decide +kernel)
  (by first | exact .inl (by decide +kernel) | exact .inr (by decide +kernel)) (by rw [isSubtype_type]; kernel_rfl)
theorem slot_bytes_rfind : Slot "bytes" "rfind" "bytes.rfind" := .of (owner := "bytes") (n := "rfind") (by rw [typeLookup_type, builtinLookup_eq_fast]; kernel_rfl) (by decide +kernel) (by decide +kernel) (by decide +kernel)
  (by first | exact .inl (by decide +kernel) | exact .inr (by decide +kernel)) (by rw [isSubtype_type]; kernel_rfl)
theorem type_bytes_count : typeOf (.builtin "bytes.count") = pure (.type "method_descriptor") := by show builtinType _ = _; rw [builtinType_eq_fast]; kernel_rfl
theorem type_bytes_rfind : typeOf (.builtin "bytes.rfind") = pure (.type "method_descriptor") := by show builtinType _ = _; rw [builtinType_eq_fast]; kernel_rfl
theorem entry_bytes_count : entryFor table "bytes.count" = some Builtin.«bytes.count» := entryFor_of_tree (by kernel_rfl)
theorem entry_bytes_rfind : entryFor table "bytes.rfind" = some Builtin.«bytes.rfind» := entryFor_of_tree (by kernel_rfl)
theorem args_bytes_count (a b c d : Value) : argsOk "bytes.count" ⟨[a, b, c, d], []⟩ := by unfold argsOk; kernel_rfl
theorem args_bytes_rfind (a b c d : Value) : argsOk "bytes.rfind" ⟨[a, b, c, d], []⟩ := by unfold argsOk; kernel_rfl
end FX
end Mine
end
section
open PySem PySem.W PySem.Calls PySem.Spec PyProof.Rows
open Builtin
set_option Elab.async false
set_option maxRecDepth 100000
set_option linter.unusedVariables false
namespace Mine
section
variable {α : Type} {A : Around} {E : Value → Shared → Prop} {s : Shared} {w : World} {prog : Program}
end
end Mine
end
section
open PySem PySem.W PySem.Calls PySem.Spec PyProof.Rows
open Builtin
set_option Elab.async false
set_option maxRecDepth 100000
set_option linter.unusedVariables false
namespace Mine
section
variable {c : Cx} {lo : Loc} {ob : Obs} {X : QT Addr} {Q : QT V}
theorem in_one {l : List Nat} {k : Nat} (h : Q (.bool (decide (k ∈ l))) lo ob) : Cmp c .In (.str [k]) (.str l) Q X lo ob := by
  rintro _ _ ⟨t, rfl⟩ ⟨u, rfl⟩ z s n
  refine P.in_str (LQ.bool' ?_ n h)
  exact StrLaws.found_one (tx l) k
end
end Mine
end
section
open PySem PySem.W PySem.Calls PySem.Spec PyProof.Rows
set_option Elab.async false
set_option maxRecDepth 100000
set_option linter.unusedVariables false
namespace Mine
section
variable {c : Cx} {lo : Loc} {ob ob' : Obs} {X : QT Addr} {Q : QT V}
end
section
variable {c : Cx} {lo : Loc} {ob ob' : Obs} {X : QT Addr} {Q : QT V}
end
end Mine
end
section
open PySem PySem.W PyProof.Rows PySem.Spec PySem.Calls
set_option Elab.async false
set_option linter.unusedVariables false
namespace Mine
set_option maxRecDepth 100000
section
open PySem.Builtin PySem.Builtin._codecs
section
variable {b : Array UInt8} {t : Tok}
end
section
variable {c : Cx} {lo : Loc} {ob ob' : Obs} {X : QT Addr} {Q : QT V}
end
end
end Mine
end
section
open PySem PySem.W PySem.Calls PySem.Spec PyProof.Rows
set_option Elab.async false
set_option maxRecDepth 100000
set_option linter.unusedVariables false
namespace Mine
section
variable {c : Cx} {lo : Loc} {ob ob' : Obs} {X : QT Addr} {Q : QT V} {PE : Addr} {m l : List Nat} {st : V} {p : Int}
end
end Mine
end
section
open PySem PySem.W PySem.Calls PySem.Spec PyProof.Rows
set_option Elab.async false
set_option maxRecDepth 100000
set_option linter.unusedVariables false
namespace Mine
section
variable {c : Cx} {lo lo' : Loc} {ob ob' : Obs} {X : QT Addr} {Q : QT V} {a : Addr} {v : V} {ns ns' : Nms} {cells : List (Str × Addr)}
end
end Mine
end
section
open PySem PySem.W PySem.Calls PySem.Spec PyProof.Rows
open Builtin Builtin.Str
set_option Elab.async false
set_option maxRecDepth 100000
set_option linter.unusedVariables false
namespace Mine
section
variable {c : Cx} {lo : Loc} {ob : Obs} {X : QT Addr} {Q : QT V}
end
end Mine
end
section
open PySem PySem.W PySem.Calls PySem.Spec PyProof.Rows
open Builtin Builtin.Str PySem.StrLaws
set_option Elab.async false
set_option maxRecDepth 100000
set_option linter.unusedVariables false
namespace Mine
section
variable {c : Cx} {lo : Loc} {ob : Obs} {X : QT Addr} {Q : QT V}
theorem fdiv_ints {i j : Int} (hj : j ≠ 0) (hs : j.natAbs < 1073741824) (h : Q (.int (i.fdiv j)) lo ob) : Bin c .FloorDiv (.int i) (.int j) Q X lo ob := by
  rintro _ _ ⟨t, rfl⟩ ⟨u, rfl⟩ z s n
  exact PyProof.Rows.floordiv_int hj (LQ.int (n.toks rfl) h) (hp := .inl (PyProof.noPylong_small hs))
end
end Mine
end
section
open PySem PySem.W PySem.Calls PySem.Spec PyProof.Rows
set_option Elab.async false
set_option maxRecDepth 100000
set_option linter.unusedVariables false
namespace Mine
section
variable {c : Cx} {lo lo1 lo2 : Loc} {ob ob' : Obs} {X : QT Addr} {Q : QT V} {QF : QT AF} {a b : Addr} {v : V} {vs ws : List V} {TK ini : Addr} {attrs : List Str} {meths fns : List (Str × Addr)} {blts : List (Str × Value)}
noncomputable def plainD : V → Bool
  | .str _ => true
  | .int _ => true
  | .none => true
  | _ => false
theorem eqds_same {k : Nat} : ∀ {vs : List V}, vs.all plainD = true → EqDs c ob k vs vs true
  | [], _ => eqds_nil
  | v :: r, h => by
    rw [List.all_cons, Bool.and_eq_true] at h
    have hr : EqDs c ob k r r true := eqds_same h.2
    have hv : EqD c ob k v v true := by
      cases v with
      | str l => have := eqd_str (c := c) (ob := ob) (k := k) (x := l) (y := l); simpa using this
      | int i => have := eqd_int (c := c) (ob := ob) (k := k) (i := i) (j := i); simpa using this
      | none => exact eqd_nn
      | _ => exact absurd h.1 (by simp [plainD])
    exact eqds_cons hv hr
theorem ne_lists_same (ok : c.Ok) (ha : LA c ob a vs) (hb : LA c ob b vs) (hp : vs.all plainD = true) (hq : Q (.bool false) lo ob) : Cmp c .NotEq (.ref a) (.ref b) Q X lo ob :=
  ne_lists ok ha hb (eqds_same hp) hq
end
section
variable {l m : List Nat} {p : Int} {ws ws2 : List V} {x x2 : List Nat}
end
end Mine
end
section
open PySem PySem.W PySem.Calls PySem.Spec PyProof.Rows
set_option Elab.async false
set_option maxRecDepth 100000
set_option linter.unusedVariables false
namespace Mine
section
variable {c : Cx} {lo : Loc} {ob : Obs} {X : QT Addr} {Q : QT V} {ns ns' : Nms} {cells : List (Str × Addr)}
end
end Mine
end
section
open PySem PySem.W PySem.Calls PySem.Spec PyProof.Rows
open Builtin
set_option Elab.async false
set_option maxRecDepth 100000
set_option linter.unusedVariables false
namespace Mine
namespace FX
theorem slot_bytes_split : Slot "bytes" "split" "bytes.split" := .of (owner := "bytes") (n := "split") (by rw [typeLookup_type, builtinLookup_eq_fast]; kernel_rfl) (by decide +kernel) (by decide +kernel) (by decide +kernel)
  (by first | exact .inl (by decide +kernel) | exact .inr (by decide +kernel)) (by rw [isSubtype_type]; kernel_rfl)
theorem type_bytes_split : typeOf (.builtin "bytes.split") = pure (.type "method_descriptor") := by show builtinType _ = _; rw [builtinType_eq_fast]; kernel_rfl
theorem entry_bytes_split : entryFor table "bytes.split" = some Builtin.«bytes.split» := entryFor_of_tree (by kernel_rfl)
theorem args_bytes_split (a b : Value) : argsOk "bytes.split" ⟨[a, b], []⟩ := by unfold argsOk; kernel_rfl
end FX
section
variable {c : Cx} {lo : Loc} {ob : Obs} {X : QT Addr} {Q : QT V}
end
end Mine
end
section
open PySem PySem.W PySem.Calls PySem.Spec PyProof.Rows
open Builtin Builtin.Str
set_option Elab.async false
set_option maxRecDepth 100000
set_option linter.unusedVariables false
namespace Mine
section
variable {c : Cx} {lo : Loc} {ob : Obs} {X : QT Addr} {Q : QT V}
end
end Mine
end
section
open PySem PySem.W PySem.Calls PySem.Spec PyProof.Rows
set_option Elab.async false
set_option maxRecDepth 100000
set_option linter.unusedVariables false
namespace Mine
noncomputable def Nxt (P : Loc → Obs → Prop) : QT AF := fun f lo ob => f = .next ∧ Wkn P lo ob
theorem S_cut {c : Cx} {st : Stmt} {r : List Stmt} {Q : QT AF} {X : QT Addr} {lo : Loc} {ob : Obs} (P : Loc → Obs → Prop) (h : W c FR (exec st c.env) (Nxt P) X lo ob) (k : ∀ lo ob, P lo ob → W c FR (execs r c.env) Q X lo ob) : W c FR (execs (st :: r) c.env) Q X lo ob :=
  S_cons (h.mono (fun f lo ob q => by rw [q.1]; exact then_next (W.wkn (q.2.mono k))) fun _ _ _ x => x)
theorem Has.noneL {ns : Nms} {lo : Loc} {x : Str} {v : V} (h : Has ns lo x v) : lo.all (·.isNone) = true → False := by
  induction h with
  | here => exact nofun
  | @there x v p u ns lo _ ih => exact fun q => ih (Bool.and_eq_true_iff.mp ((List.all_cons (f := fun (x : Option V) => x.isNone)).symm.trans q)).2
theorem Has.first {ns : Nms} {lo : Loc} {x y : Str} {v w : V} (h : Has ((y, .local) :: ns) (some w :: lo) x v) (hn : lo.all (·.isNone) = true) : y = x ∧ w = v := by
  rcases h.inv with ⟨e1, e2⟩ | h
  · exact ⟨e1, Option.some.inj e2⟩
  · exact (h.noneL hn).elim
end Mine
end
section
open PySem PySem.W PySem.Calls PySem.Spec PyProof.Rows
set_option Elab.async false
set_option maxRecDepth 100000
set_option linter.unusedVariables false
namespace Mine

end Mine
end
section
open PySem PySem.W PySem.Calls PySem.Spec PyProof.Rows
set_option Elab.async false
set_option maxRecDepth 100000
set_option linter.unusedVariables false
namespace Mine

end Mine
end
section
open PySem PySem.W PySem.Calls PySem.Spec PyProof.Rows
set_option Elab.async false
set_option maxRecDepth 100000
set_option linter.unusedVariables false
namespace Mine
end Mine
end
section
open PySem PySem.W PySem.Calls PySem.Spec PyProof.Rows
set_option Elab.async false
set_option maxRecDepth 100000
set_option linter.unusedVariables false
namespace Mine
theorem fnq_G {c : Cx} {t : Sem Flow} {R : V} {OB1 : Obs} {X : QT Addr} {lo : Loc} {ob : Obs} (h : ∀ TQ : QT AF, (∀ {v : V} {lo : Loc} {ob ob2 d : Obs}, Picks ob ob2 d → v = R → ob2 = OB1 → TQ (.ret v) lo ob) → (∀ {lo : Loc} {ob ob2 d : Obs}, Picks ob ob2 d → V.none = R → ob2 = OB1 → TQ .next lo ob) → W c FR t TQ X lo ob) :
    W c FR t (FnQ fun v ob => Frg (fun ob => v = R ∧ ob = OB1) ob) X lo ob :=
  h _ (fun p e1 e2 => fnq_ret (frg_intro p ⟨e1, e2⟩)) fun p e1 e2 => fnq_next (frg_intro p ⟨e1, e2⟩)
/- dicts whose keys are texts -/
theorem pairs_tr {prog prog' : Program} {w w' : World} {es : List DictEntry} {kvs : List (Str × Value)} (h : Pairs (PySem.strKind prog w) es kvs) : Pairs (PySem.strKind prog' w') es kvs := by
  induction h with
  | nil => exact .nil
  | cons a b _ ih => exact .cons a b ih
theorem isDict_tr {prog prog' : Program} {w w' : World} (hw : w.params = w'.params) {o : Obj} {kvs : List (Str × Value)} (h : o.IsDictOf (PySem.strKind prog w) kvs) : o.IsDictOf (PySem.strKind prog' w') kvs := by
  obtain ⟨es, ep, h1, h2, h3, h4, h5⟩ := h
  refine ⟨es, ep, h1, h2, fun x hx => ?_, pairs_tr h4, h5⟩
  obtain ⟨k, a, b⟩ := h3 x hx
  refine ⟨k, a, b.trans ?_⟩
  show hashStr w k = hashStr w' k
  unfold hashStr
  rw [hw]
section
variable {P : Params} {f : List Nat → V} {K : List Nat → Prop} {n : Nat} {o o' : Obj} {prog prog' : Program} {w w' : World} {kvs : List (Str × Value)} {l : List Nat} {v : Value}
theorem FdAt.at (F : FdAt P f K n o prog w kvs) (hk : K l) : ∃ v, valueAt kvs (tx l) = some v ∧ VR (f l) v := by
  obtain ⟨p, hp, e⟩ := F.hk l hk
  unfold valueAt
  cases h : kvs.find? (fun kv => kv.1 = tx l) with
  | none => exact absurd (List.find?_eq_none.mp h p hp) (by simp [e])
  | some q =>
    obtain ⟨x, e2, hv⟩ := F.hf q (List.mem_of_find?_eq_some h)
    have e3 : q.1 = tx l := of_decide_eq_true (List.find?_some (p := fun kv : Str × Value => decide (kv.1 = tx l)) h)
    rw [e2, tx_inj] at e3
    exact ⟨q.2, rfl, e3 ▸ hv⟩
end
section
variable {c : Cx} {lo : Loc} {ob ob' : Obs} {X : QT Addr} {Q : QT V} {QF : QT AF} {a : Addr} {K : List Nat → Prop} {n : Nat} {l : List Nat}
theorem sub_fd {value slice : Expr} {f : List Nat → V} (hm : (a, .fd f K n) ∈ ob) (hk : K l) (h : Q (f l) lo ob)
    (hs : ∀ u, subscripted slice false (.ref a) (.str (tx l) u) = operate [.ref a, .str (tx l) u] (getItem (.ref a) (.str (tx l) u)) := by intro _; with_unfolding_all rfl) : Sub2 c value slice (.ref a) (.str l) Q X lo ob := by
  rintro _ _ rfl ⟨u, rfl⟩ z s n0
  refine of_gen fun _ kg => ?_
  obtain ⟨m, os, frs, n⟩ := n0
  obtain ⟨o, _, hm2, ha, pr, w, kvs, F⟩ := n.mem hm
  obtain ⟨cv, e1, e2⟩ := F.at hk
  have hD : s.heap.DictOf (PySem.strKind c.g.prog c.g.w) a kvs := Heap.dictOf_iff.mpr ⟨o, ha, isDict_tr F.wp F.d⟩
  exact kg (tail_any hD.typeIs slot_dict_getitem.lookup (wpAny_getItem_of (strKind_is _ _ _ _) hD.mapOf e1 ⟨_, lo, ob, e2, ⟨m, os, frs, n.toks rfl⟩, h⟩) (hs u))
end
end Mine
end
section
open PySem PySem.W PySem.Calls PySem.Spec PyProof.Rows
set_option Elab.async false
set_option maxRecDepth 100000
set_option linter.unusedVariables false
namespace Mine
noncomputable def ptV (t : Bool) (l : List Nat) : V := cond t (.str l) (.bytes l)
section
variable {c : Cx} {lo : Loc} {ob ob' : Obs} {X : QT Addr} {Q : QT V} {a b : Addr} {vs : List V}
end
end Mine
end
section
open PySem PySem.W PySem.Calls PySem.Spec PyProof.Rows
set_option Elab.async false
set_option maxRecDepth 100000
set_option linter.unusedVariables false
namespace Mine
section
variable {c : Cx} {lo lo1 : Loc} {ob oth d : Obs} {X : QT Addr} {Q : QT AF} {tg : Expr} {body : List Stmt} {a : Addr} {vs : List V} {α : Type}
theorem sub_str_in {value slice : Expr} {Q : QT V} {l : List Nat} {i : Int} (hh : c.B.handled = none) (h0 : 0 ≤ i) (h1 : i < (l.length : Int)) (hz : l.length ≤ 100000) (h : ∀ k, l[i.toNat]? = some k → Q (.str [k]) lo ob)
    (hs : ∀ t u, subscripted slice false (.str (tx l) t) (.int i u) = operate [.str (tx l) t, .int i u] (getItem (.str (tx l) t) (.int i u)) := by intro _ _; with_unfolding_all rfl) : Sub2 c value slice (.str l) (.int i) Q X lo ob :=
  sub_str hh h0 (by omega) h (fun hn e => by rw [List.getElem?_eq_none_iff] at hn; omega) hs
noncomputable def Kept (I : α → Prop) (lo1 : Loc) (ob1 : α → Obs) : Loc → Obs → Prop := fun lo ob => ∃ x, I x ∧ lo = lo1 ∧ ob = ob1 x
theorem kept {I : α → Prop} {ob1 : α → Obs} (x : α) (l : LoS lo lo1) (p : Picks ob (ob1 x) d) (h : I x) : Wkn (Kept I lo1 ob1) lo ob := ⟨_, _, _, l, p, x, h, rfl, rfl⟩
theorem forW_X {items : List V} (I : Nat → α → Prop) (lo1 : Loc) (ob1 : α → Obs) {x : α} (h : I 0 x)
    (turn : ∀ k v x, items[k]? = some v → I k x → Asg c tg v (fun lo ob => W c FR (execs body c.env) (TurnQ (Kept (I (k + 1)) lo1 ob1) Q) X lo ob) X lo1 (ob1 x))
    (hend : ∀ x, I items.length x → Q .next lo1 (ob1 x)) : ForW c tg body Q X items lo1 (ob1 x) :=
  forW_inv (fun k => Kept (I k) lo1 ob1) (fun k v lo ob hv ⟨y, hy, e1, e2⟩ => by subst e1 e2; exact turn k v y hv hy) (fun lo ob ⟨y, hy, e1, e2⟩ => by subst e1 e2; exact hend y hy) ⟨x, h, rfl, rfl⟩
theorem For_tupX (hh : c.B.handled = none) (hE : Passes c (fun e lo ob => X e lo (ob ++ [(a, .tup vs)]))) (hp : Picks ob [(a, .tup vs)] oth)
    (I : Nat → α → Prop) (lo1 : Loc) (ob1 : α → Obs) (x : α) (hl : LoS lo lo1) (hp2 : Picks oth (ob1 x) d) (hI : I 0 x)
    (turn : ∀ k v x, vs[k]? = some v → I k x → Asg c tg v (fun lo ob => W c FR (execs body c.env) (TurnQ (Kept (I (k + 1)) lo1 ob1) (fun f lo ob => Q f lo (ob ++ [(a, .tup vs)]))) (fun e lo ob => X e lo (ob ++ [(a, .tup vs)])) lo ob) (fun e lo ob => X e lo (ob ++ [(a, .tup vs)])) lo1 (ob1 x))
    (hend : ∀ x, I vs.length x → Q .next lo1 (ob1 x ++ [(a, .tup vs)])) : ForIn c (.ref a) tg body Q X lo ob :=
  For_tup hh hE hp ⟨lo1, ob1 x, d, hl, hp2, forW_X I lo1 ob1 hI turn hend⟩
theorem For_tupG (hh : c.B.handled = none) (hE : Passes c (fun e lo ob => X e lo (ob ++ [(a, .tup vs)]))) (hp : Picks ob [(a, .tup vs)] oth)
    (I : Nat → α → Prop) (lo1 : Loc) (ob1 : α → Obs) (x : α) (hl : LoS lo lo1) (hp2 : Picks oth (ob1 x) d) (hI : I 0 x)
    (turn : ∀ T : QT AF, ∀ k v x, vs[k]? = some v → I k x → (∀ y (lo : Loc) (ob d : Obs), LoS lo lo1 → Picks ob (ob1 y) d → I (k + 1) y → T .next lo ob) → Asg c tg v (fun lo ob => W c FR (execs body c.env) T (fun e lo ob => X e lo (ob ++ [(a, .tup vs)])) lo ob) (fun e lo ob => X e lo (ob ++ [(a, .tup vs)])) lo1 (ob1 x))
    (hend : ∀ x, I vs.length x → Q .next lo1 (ob1 x ++ [(a, .tup vs)])) : ForIn c (.ref a) tg body Q X lo ob :=
  For_tupX hh hE hp I lo1 ob1 x hl hp2 hI (fun k v x hv hI => turn _ k v x hv hI fun y lo ob d l p h => turn_next (kept y l p h)) hend
theorem S_cutG {st : Stmt} {r : List Stmt} (lo1 : Loc) (ob1 : Obs) (h : ∀ T : QT AF, (∀ (lo : Loc) (ob d : Obs), LoS lo lo1 → Picks ob ob1 d → T .next lo ob) → W c FR (exec st c.env) T X lo ob) (k : W c FR (execs r c.env) Q X lo1 ob1) : W c FR (execs (st :: r) c.env) Q X lo ob :=
  S_cut (fun lo ob => lo = lo1 ∧ ob = ob1) (h _ fun lo ob d l p => ⟨rfl, lo1, ob1, d, l, p, rfl, rfl⟩) (by rintro _ _ ⟨rfl, rfl⟩; exact k)
end
end Mine
end
section
open PySem PySem.W PySem.Calls PySem.Spec PyProof.Rows
set_option Elab.async false
set_option maxRecDepth 100000
set_option linter.unusedVariables false
namespace Mine
/- sets of texts, asked for a text or for None -/
section
variable {prog : Program} {w : World} {A : Around} {E : Value → Shared → Prop} {s : Shared}
noncomputable def isOpt : Option Str → Value → Bool
  | some x, v => Value.isStrOf x v
  | none, .none => true
  | none, _ => false
theorem isOpt_none {v : Value} (h : isOpt none v = true) : v = .none := by
  cases v <;> first | rfl | cases h
theorem eqBool_diff {u v : Value} {Q : Bool → Shared → Prop} (h : wpAny (model prog w) A (compareOp .Eq u v) (fun r s' => r = .bool false ∧ Q false s') E s) (hne : (u == v) = false)
    (hf : ∀ a b, ¬ (u = .float a b)) : wpAny (model prog w) A (PySem.eqBool u v) Q E s := by
  unfold PySem.eqBool
  refine wpAny_holding ?_
  rw [if_neg (by rw [hne]; exact Bool.false_ne_true)]
  have g : wpAny (model prog w) A (richCompare .Eq u v >>= truthOfDropped) Q E s := wpAny_bind (wpAny_mono h (fun r s' ⟨e, q⟩ => by rw [e]; exact wpAny_truthy_bool q) fun _ _ x => x)
  cases u <;> first | exact g | exact absurd rfl (hf _ _)
noncomputable def optKind (prog : Program) (w : World) : KeyKind prog w (Option Str) where
  is := isOpt
  hash k := match k with
    | some x => hashStr w x
    | none => 0xFCA86420
  inj v a b ha hb := by
    cases a with
    | none => rw [isOpt_none ha] at hb; cases b <;> first | rfl | cases hb
    | some x =>
      cases b with
      | none => rw [isOpt_none hb] at ha; cases ha
      | some y => exact congrArg some (Value.isStrOf_inj v x y ha hb)
  byValue k v h := by
    cases k with
    | none => rw [isOpt_none h]; rfl
    | some x => exact (PySem.strKind prog w).byValue x v h
  pyHash := fun {A E s k v Q} hv h => by
    cases k with
    | none =>
      rw [isOpt_none hv]
      exact pyHash_slot (T := "NoneType") rfl PySem.F.slot_NoneType_hash PySem.F.entry_NoneType_hash (PySem.F.args_NoneType_hash_1 _) (beq_builtin_none _) (.inl rfl) (wpAny_bind (wpAny_pure (wpAny_bind (wpAny_mkInt (wpAny_pure ⟨_, _, rfl, h⟩)))))
    | some x => exact (PySem.strKind prog w).pyHash hv h
  eqBool := fun {A E s a b u v Q} hu hv h => by
    cases a with
    | none =>
      rw [isOpt_none hu]
      cases b with
      | none =>
        rw [isOpt_none hv]
        unfold PySem.eqBool
        exact wpAny_holding (wpAny_bind (wpAny_rule (wpAny_pure (by simpa using h))))
      | some y =>
        obtain ⟨t, rfl⟩ := Value.isStrOf_shape hv
        exact eqBool_diff (EqNone.eq_none_str ⟨rfl, by simpa using h⟩) rfl nofun
    | some x =>
      cases b with
      | none =>
        rw [isOpt_none hv]
        obtain ⟨t, rfl⟩ := Value.isStrOf_shape hu
        exact eqBool_diff (EqNone.eq_str_none ⟨rfl, by simpa using h⟩) rfl nofun
      | some y => exact (PySem.strKind prog w).eqBool hu hv (by simpa using h)
  «strs» k x t v h := by
    cases k with
    | none => cases h
    | some y => exact (PySem.strKind prog w).strs y x t v h
end
section
variable {prog : Program} {w : World} {K : Type} [DecidableEq K] {knd : KeyKind prog w K} {A : Around} {E : Value → Shared → Prop} {s : Shared} {a : Addr} {k : K} {x : Value} {o : Obj} {es : Array (Int × Value)} {ep : Nat} {t : SetTable}
structure SetIs (knd : KeyKind prog w K) (o : Obj) (T : K → Prop) (n : Nat) (es : Array (Int × Value)) (ep : Nat) (t : SetTable) : Prop where
  d : o.data = .set es ep t
  e : ElemsOf knd es.toList
  m : ∀ k, (∃ e ∈ es.toList, knd.is k e.2 = true) ↔ T k
  n : es.size ≤ n
  f : t.fits es.size = true
theorem set_stored {hh : Heap} {es' : Array (Int × Value)} {t' : SetTable} (ho : hh.get? a = some o) (hd : o.data = .set es ep t) : (hh.update a (Obj.putSet es' t')).get? a = some { o with data := .set es' (ep + 1) t' } := by
  have h := Heap.get?_update_self (Obj.putSet es' t') ho (by rw [putSet_of es' t' hd]; rfl)
  rwa [putSet_of es' t' hd] at h
theorem opt_rule {b : Bool} {r : String} {Q : Unit → Shared → Prop} (h : Q () s) : wpAny (model prog w) A (match b with | true => rule r | false => pure ()) Q E s := by
  cases b
  · exact wpAny_pure h
  · exact wpAny_rule h
theorem set_tail {g : Bool → Sem Unit} (hg : ∀ (b : Bool) (s₁ : Shared) (Q' : Unit → Shared → Prop), Q' () s₁ → wpAny (model prog w) A (g b) Q' E s₁) (ho : s.heap.get? a = some o) (hd : o.data = .set es ep t) {T : K → Prop} {n : Nat} {e1 : Array (Int × Value)} {t1 : SetTable} {b : Bool} (H : SetIs knd { o with data := .set e1 (ep + 1) t1 } T n e1 (ep + 1) t1) (hn : n < scanBound) {R : Option Bool → Shared → Prop}
    (h : ∀ h' es' ep' t', Heap.SameBut a s.heap h' → h'.get? a = some { o with data := .set es' ep' t' } → SetIs knd { o with data := .set es' ep' t' } T n es' ep' t' → R (some true) { s with heap := h' }) :
    wpAny (model prog w) A (do
        storeSet a e1 t1
        if (!b && t1.tooFull) = true then do
            g (relayAll t1 e1 (SetTable.grown e1.size)).2.2
            storeSet a (relayAll t1 e1 (SetTable.grown e1.size)).1 (relayAll t1 e1 (SetTable.grown e1.size)).2.1
            pure (some true)
          else pure (some true)) R E s := by
  have hz := H.n
  refine wpAny_bind (wpAny_storeSet_of ho hd ?_ (fits_of_scanBound (Nat.lt_of_le_of_lt hz hn)))
  have h1 := set_stored (es' := e1) (t' := t1) ho hd
  have s1 := Heap.SameBut.update s.heap a (Obj.putSet e1 t1)
  split
  · have p := relayAll_perm t1 e1 (SetTable.grown e1.size)
    have f := relayAll_fits t1 e1 (SetTable.grown e1.size)
    generalize relayAll t1 e1 (SetTable.grown e1.size) = r at p f ⊢
    have z : r.1.size = e1.size := by rw [← Array.length_toList, p.length_eq, Array.length_toList]
    refine wpAny_bind (hg _ _ _ (wpAny_bind (wpAny_storeSet_of h1 rfl ?_ (fits_of_scanBound (Nat.lt_of_le_of_lt (Nat.le_trans (Nat.le_of_eq z) hz) hn)))))
    refine wpAny_pure (h _ _ _ _ (s1.trans (Heap.SameBut.update _ a _)) (set_stored (o := { o with data := .set e1 (ep + 1) t1 }) h1 rfl) ⟨rfl, H.e.perm p, fun k => ?_, Nat.le_trans (Nat.le_of_eq z) hz, f⟩)
    rw [← H.m k]
    exact ⟨fun ⟨e, he, q⟩ => ⟨e, p.mem_iff.mp he, q⟩, fun ⟨e, he, q⟩ => ⟨e, p.mem_iff.mpr he, q⟩⟩
  · exact wpAny_pure (h _ _ _ _ s1 h1 H)
theorem set_add {T : K → Prop} {n : Nat} (hk : knd.is k x = true) (hx : x.scannable = true) (ho : s.heap.get? a = some o) (H : SetIs knd o T n es ep t) (hn : n + 1 < scanBound) {Q : Bool → Shared → Prop}
    (h : ∀ b h' es' ep' t', Heap.SameBut a s.heap h' → h'.get? a = some { o with data := .set es' ep' t' } → SetIs knd { o with data := .set es' ep' t' } (fun j => T j ∨ j = k) (n + 1) es' ep' t' → Q b { s with heap := h' }) :
    wpAny (model prog w) A (setAddHashed a x (knd.hash k)) Q E s := by
  have hz := H.n
  have hb : es.size < scanBound := by omega
  unfold setAddHashed setAddHashedIn
  refine wpAny_holding (wpAny_bind (wpAny_setState_of ho H.d H.f ?_))
  dsimp only
  rw [byScan_of hx hb H.e, if_pos rfl]
  unfold setAddByScan
  refine wpAny_bind (wpAny_bind (wpAny_rule (wpAny_bind (wpAny_setScan_of hk ho H.d H.f H.e ?_))))
  cases hr : List.findIdx? (fun e => knd.is k e.2) es.toList with
  | some j =>
    obtain ⟨hj, hp, _⟩ := List.findIdx?_eq_some_iff_getElem.mp hr
    have e1 : { o with data := .set es ep t } = o := by rw [← H.d]
    have hT : T k := (H.m k).mp ⟨_, List.getElem_mem hj, hp⟩
    exact wpAny_pure (wpAny_pure (h _ s.heap es ep t (Heap.SameBut.refl a s.heap) (by rw [e1]; exact ho) (by rw [e1]; exact ⟨H.d, H.e, fun i => (H.m i).trans ⟨.inl, fun q => q.elim id fun q => q ▸ hT⟩, Nat.le_succ_of_le hz, H.f⟩)))
  | none =>
    have p := layNew_perm t es (knd.hash k) x
    have f := layNew_fits t es (knd.hash k) x
    dsimp only
    generalize layNew t es (knd.hash k) x = L at p f ⊢
    obtain ⟨e1, t1, d1, g1⟩ := L
    dsimp only at p f ⊢
    rw [Array.toList_push] at p
    have z : e1.size = es.size + 1 := by rw [← Array.length_toList, p.length_eq, List.length_append, Array.length_toList]; rfl
    have mk : ∀ t2 : SetTable, t2.fits e1.size = true → SetIs knd { o with data := .set e1 (ep + 1) t2 } (fun j => T j ∨ j = k) (n + 1) e1 (ep + 1) t2 := fun t2 f2 => by
      refine ⟨rfl, (H.e.push hk hx).perm p, fun i => ?_, by rw [z]; exact Nat.succ_le_succ hz, f2⟩
      rw [← H.m i]
      constructor
      · rintro ⟨e, he, q⟩
        rcases List.mem_append.mp (p.mem_iff.mp he) with he | he
        · exact .inl ⟨e, he, q⟩
        · rw [List.mem_singleton.mp he] at q
          exact .inr (knd.inj x i k q hk)
      · rintro (⟨e, he, q⟩ | rfl)
        · exact ⟨e, p.mem_iff.mpr (List.mem_append_left _ he), q⟩
        · exact ⟨_, p.mem_iff.mpr (List.mem_append_right _ (.head _)), hk⟩
    refine wpAny_bind (opt_rule ?_)
    split
    · rw [hashByValue_scannable 8 hx]
      refine wpAny_bind (wpAny_pure ?_)
      refine set_tail (fun b s₁ Q' q => opt_rule q) ho H.d (mk _ ?_) hn fun h' es' ep' t' a1 a2 a3 => wpAny_pure (h _ h' es' ep' t' a1 a2 a3)
      split
      · exact f
      · exact SetTable.fits_plain_off f
    · refine wpAny_bind (wpAny_pure ?_)
      exact set_tail (fun b s₁ Q' q => opt_rule q) ho H.d (mk _ f) hn fun h' es' ep' t' a1 a2 a3 => wpAny_pure (h _ h' es' ep' t' a1 a2 a3)
end
section
variable {prog : Program} {w : World} {A : Around} {E : Value → Shared → Prop} {s : Shared} {l I S : Addr} {items : Array Value} {ls : List (List Nat)} {o : Obj}
theorem str_at {cs : List Value} (h : VRs (ls.map V.str) cs) {i : Nat} {v : Value} (hv : cs[i]? = some v) : ∃ x t, ls[i]? = some x ∧ v = .str (tx x) t := by
  obtain ⟨u, hu, hr⟩ := h.get' i v hv
  rw [List.getElem?_map] at hu
  cases hx : ls[i]? with
  | none => rw [hx] at hu; cases hu
  | some x =>
    rw [hx] at hu
    cases hu
    obtain ⟨t, rfl⟩ := hr
    exact ⟨x, t, rfl, rfl⟩
theorem set_loop (hh : A.in1.handled = none) (hv : VRs (ls.map V.str) items.toList) (hlI : l ≠ I) (hSI : S ≠ I) (hSl : S ≠ l) (hb : items.size + 1 < scanBound) {R : Result → Shared → Prop} :
    ∀ (k i : Nat) (s : Shared) (es : Array (Int × Value)) (ep : Nat) (t : SetTable), items.size - i = k → i ≤ items.size → s.heap.IsListIter I l i → s.heap.IsList l items → s.heap.get? S = some { o with data := .set es ep t } →
      SetIs (PySem.strKind prog w) { o with data := .set es ep t } (fun j => ∃ x ∈ ls.take i, j = tx x) i es ep t →
      (∀ h' tk es ep t, (∀ b ob, b ≠ I → b ≠ S → s.heap.get? b = some ob → h'.get? b = some ob) → h'.get? S = some { o with data := .set es ep t } →
        SetIs (PySem.strKind prog w) { o with data := .set es ep t } (fun j => ∃ x ∈ ls, j = tx x) ls.length es ep t → R (.ok (.ret .none)) { s with heap := h', toks := tk }) →
      codeAny (model prog w) A (.builtin "set.update.loop" ⟨[.ref S, .ref I], []⟩) R s := by
  have hls : ls.length = items.size := by have := hv.length; simpa using this
  intro k
  induction k with
  | zero =>
    intro i s es ep t hk hi h1 h2 hS H hR
    have e : i = items.size := by omega
    subst e
    rw [List.take_of_length_le (by omega), ← hls] at H
    refine codeAny_builtin PyProof.Rows.F.entry_set_update_loop ?_
    rw [Around.under_plainId PyProof.Rows.F.plain_set_update_loop _]
    show wpAny _ A.in1 (pyNext (.ref I) >>= _) _ _ s
    refine wpAny_bind (wpAny_pyNext_list_end hh h1 h2 (by simp) fun h' he => ?_)
    show wpAny _ A.in1 (ret Value.none) _ _ _
    exact wpAny_pure (hR h' s.toks es ep t (fun b ob hb _ e => he b ob hb e) (he _ _ hSI hS) H)
  | succ k ih =>
    intro i s es ep t hk hi h1 h2 hS H hR
    have hlt : i < items.size := by omega
    refine codeAny_builtin PyProof.Rows.F.entry_set_update_loop ?_
    rw [Around.under_plainId PyProof.Rows.F.plain_set_update_loop _]
    show wpAny _ A.in1 (pyNext (.ref I) >>= _) _ _ s
    refine wpAny_bind (wpAny_pyNext_list_item h1 h2 (x := items[i]) (by simp [hlt]) fun h' hit he => ?_)
    obtain ⟨x, u, hx, hxe⟩ := str_at hv (i := i) (v := items[i]) (by simp [hlt])
    rw [hxe]
    have hS' := he.extBut S _ hSI hS
    have h2' := h2.extBut he.extBut hlI
    show wpAny _ A.in1 (holding [Value.str (tx x) u] (setAdd S (.str (tx x) u)) >>= _) _ _ _
    refine wpAny_bind (wpAny_holding ?_)
    unfold setAdd
    refine wpAny_holding (wpAny_bind ((PySem.strKind prog w).pyHash (k := tx x) (strKind_is _ _ _ _) ?_))
    refine set_add (knd := PySem.strKind prog w) (strKind_is _ _ _ _) rfl hS' H (by omega) fun b h'' es' ep' t' a1 a2 a3 => ?_
    refine wpAny_pure ⟨plainId_quiet PyProof.Rows.F.plain_set_update_loop _, ?_⟩
    have ht : ls.take (i + 1) = ls.take i ++ [x] := by rw [List.take_add_one, hx]; rfl
    refine ih (i + 1) _ es' ep' t' (by omega) hlt ?_ ?_ a2 ⟨rfl, a3.e, fun j => ?_, a3.n, a3.f⟩ fun h3 tk es3 ep3 t3 b1 b2 b3 => ?_
    · exact hit.at fun ob e => (a1.2 I (fun e => hSI e.symm)).trans e
    · exact h2'.at fun ob e => (a1.2 l (fun e => hSl e.symm)).trans e
    · rw [a3.m j, ht]
      simp only [List.mem_append, List.mem_singleton]
      constructor
      · rintro (⟨y, hy, e⟩ | e)
        · exact ⟨y, .inl hy, e⟩
        · exact ⟨x, .inr rfl, e⟩
      · rintro ⟨y, hy | rfl, e⟩
        · exact .inl ⟨y, hy, e⟩
        · exact .inr e
    · exact hR h3 tk es3 ep3 t3 (fun c oc hc1 hc2 e => b1 c oc hc1 hc2 ((a1.2 c hc2).trans (he.extBut c oc hc1 e))) b2 b3
end
theorem fz_mro : mroOf (.type "frozenset") = pure [.type "frozenset", .type "object"] := by rw [mroOf_type]; kernel_rfl
theorem fz_new : typeLookup (.type "frozenset") "__new__" = pure (some (.builtin "frozenset.__new__")) := by rw [typeLookup_type, builtinLookup_eq_fast]; kernel_rfl
theorem fz_sub : isSubtype (.type "frozenset") (.type "frozenset") = pure true := by rw [isSubtype_type]; kernel_rfl
theorem fz_init : Slot "frozenset" "__init__" "object.__init__" :=
  .of (owner := "object") (n := "__init__") (by rw [typeLookup_type, builtinLookup_eq_fast]; kernel_rfl) (by decide +kernel) (by decide +kernel) (by decide +kernel)
    (by first | exact .inl (by decide +kernel) | exact .inr (by decide +kernel)) (by rw [isSubtype_type]; kernel_rfl)
theorem fz_called : TypeCalled "frozenset" "frozenset.__new__" "object.__init__" :=
  ⟨by decide +kernel, by decide +kernel, ⟨_, _, fz_mro⟩, madeBy_type fz_mro fz_new (by decide +kernel), by decide +kernel, fz_sub, fz_init⟩
theorem fz_typeCall (a : Value) : checkTypeCall "frozenset" ⟨[a], []⟩ = pure () := by kernel_rfl
theorem fz_newCall (a : Value) : checkBuiltinCall "frozenset.__new__" ⟨[.type "frozenset", a], []⟩ = pure () := by kernel_rfl
theorem fz_entry : entryFor table "frozenset.__new__" = some Builtin.«frozenset.__new__» := entryFor_of_tree (by kernel_rfl)
section
variable {prog : Program} {w : World} {A : Around} {E : Value → Shared → Prop} {s : Shared} {l : Addr} {items : Array Value} {ls : List (List Nat)}
theorem fz_list (hl : s.heap.IsList l items) (hv : VRs (ls.map V.str) items.toList) (hb : items.size + 1 < scanBound) (hh : A.handled = none) {Q : Value → Shared → Prop}
    (h : ∀ h' tk es ep t, (∀ b ob, s.heap.get? b = some ob → h'.get? b = some ob) → h'.get? s.heap.objs.size = some { cls := .type "frozenset", data := .set es ep t } →
      SetIs (PySem.strKind prog w) { cls := .type "frozenset", data := .set es ep t } (fun j => ∃ x ∈ ls, j = tx x) ls.length es ep t → Q (.ref s.heap.objs.size) { s with heap := h', toks := tk }) :
    wpAny (model prog w) A (call (.type "frozenset") [.ref l]) Q E s := by
  refine callType_newIn fz_called (by decide) (fz_typeCall _) (fz_newCall _) (fun obj => PySem.F.args_object_init_2 obj _) fz_entry
    (S := fun A R s => A.in1.handled = none ∧ s.heap.IsList l items ∧ ∀ h' tk es ep t, (∀ b ob, s.heap.get? b = some ob → h'.get? b = some ob) → h'.get? s.heap.objs.size = some { cls := .type "frozenset", data := .set es ep t } →
      SetIs (PySem.strKind prog w) { cls := .type "frozenset", data := .set es ep t } (fun j => ∃ x ∈ ls, j = tx x) ls.length es ep t → R (.ok (.ret (.ref s.heap.objs.size))) { s with heap := h', toks := tk }) ?_
    ⟨hh, hl, fun h' tk es ep t a1 a2 a3 => ⟨⟨_, a2, rfl⟩, h h' tk es ep t a1 a2 a3⟩⟩
  refine .of_wp fun A R s hS => ?_
  obtain ⟨hh, hl, h⟩ := hS
  have hsub := fz_sub
  have hinit := fz_init.lookup
  obtain ⟨hp, g, d, tk, os⟩ := s
  unfold Builtin.«frozenset.__new__» Builtin.Frozenset.newClass Builtin.Frozenset.newFrom newSet
  wp_walk
  obtain ⟨⟨lc, ld, lt, lsl⟩, hol, hcl, nl, hdl⟩ := id hl
  dsimp only at hcl hdl
  subst hcl hdl
  refine wpAny_loadPart hol (wpAny_pure ?_)
  rw [if_neg (show ¬ (Value.type "list" == Value.type "frozenset") = true by decide)]
  dsimp only
  unfold setsByText
  refine wpAny_bind (wpAny_bind (wpAny_bind (wpAny_bind (wpAny_askSetting (wpAny_pure ?_)))))
  dsimp only
  simp only [newObj]
  refine wpAny_bind (wpAny_alloc (wpAny_pure ?_))
  refine wpAny_bind (wpAny_pure ?_)
  refine wpAny_bind (wpAny_holding ?_)
  dsimp only
  generalize (!(model prog w).w.params.followText "set-order") = led
  have hnew : (hp.push { cls := .type "frozenset", data := .set #[] 0 (.fresh 0 0 led) }).get? hp.objs.size = some { cls := .type "frozenset", data := .set #[] 0 (.fresh 0 0 led) } := Heap.get?_push_size _ rfl
  have hol' : (hp.push { cls := .type "frozenset", data := .set #[] 0 (.fresh 0 0 led) }).get? l = some { cls := .type "list", dict := ld, data := .seq items nl, slots := lsl } := Heap.get?_push_of_some _ hol
  have hl1 : (hp.push { cls := .type "frozenset", data := .set #[] 0 (.fresh 0 0 led) }).IsList l items := ⟨_, hol', rfl, nl, rfl⟩
  have hlt : l < hp.objs.size := Heap.lt_size hol
  have hsls := PySem.F.sub_list_set
  have hslf := PySem.F.sub_list_frozenset
  have hne : (Value.type "list" == Value.type "dict") = false := by decide
  have up : ∀ b ob, hp.get? b = some ob → (hp.push { cls := .type "frozenset", data := .set #[] 0 (.fresh 0 0 led) }).get? b = some ob := fun b ob e => Heap.get?_push_of_some _ e
  have hz : (hp.push { cls := .type "frozenset", data := .set #[] 0 (.fresh 0 0 led) }).objs.size = hp.objs.size + 1 := Heap.size_push _ _
  have hst : SetIs (PySem.strKind prog w) { cls := .type "frozenset", data := .set #[] 0 (.fresh 0 0 led) } (fun j => ∃ x ∈ ls.take 0, j = tx x) 0 #[] 0 (.fresh 0 0 led) := ⟨rfl, fun e he => by simp at he, fun k => by simp, Nat.le_refl _, by rfl⟩
  generalize hp.push { cls := .type "frozenset", data := .set #[] 0 (.fresh 0 0 led) } = h1 at *
  unfold Builtin.Frozenset.updateFrom
  generalize hPI : pyIter = PI
  wp_walk
  subst hPI
  refine wpAny_pyIter_list hl1 (wpAny_bind (wpAny_runValue ?_))
  refine codeAny_mono (set_loop (A := A.in1) (o := { cls := .type "frozenset", data := .set #[] 0 (.fresh 0 0 led) }) (l := l) (I := h1.objs.size) (S := hp.objs.size) (R := fun r s' => match r with
      | .ok (.ret v) => ∃ h' tk es ep t, s' = ⟨h', g, d, tk, os⟩ ∧ (∀ b ob, hp.get? b = some ob → h'.get? b = some ob) ∧ h'.get? hp.objs.size = some { cls := .type "frozenset", data := .set es ep t } ∧
          SetIs (PySem.strKind prog w) { cls := .type "frozenset", data := .set es ep t } (fun j => ∃ x ∈ ls, j = tx x) ls.length es ep t
      | _ => False) (show A.in1.in1.handled = none from hh) hv (by rw [hz]; exact Nat.ne_of_lt (Nat.lt_succ_of_lt hlt)) (by rw [hz]; exact Nat.ne_of_lt (Nat.lt_succ_self _)) (Nat.ne_of_gt hlt) hb (items.size - 0) 0 _ #[] 0 (.fresh 0 0 led) rfl (Nat.zero_le _) ⟨_, Heap.get?_push_size _ rfl, rfl, rfl⟩ (hl1.push _) (Heap.get?_push_of_some _ hnew) hst fun h' tk es ep t b1 b2 b3 => ⟨h', tk, es, ep, t, rfl, fun b ob e => b1 b ob ?_ ?_ (Heap.get?_push_of_some _ (up b ob e)), b2, b3⟩) fun r s' hr => ?_
  · have q := Heap.lt_size e
    show b ≠ h1.objs.size
    rw [hz]
    exact Nat.ne_of_lt (Nat.lt_succ_of_lt q)
  · exact Nat.ne_of_lt (Heap.lt_size e)
  · match r with
    | .ok (.ret v) =>
      obtain ⟨h', tk, es, ep, t, rfl, c1, c2, c3⟩ := hr
      exact wpAny_pure (wpAny_pure (wpAny_pure ⟨_, rfl, h h' tk es ep t c1 c2 c3⟩))
    | .ok .next => exact hr.elim
    | .ok .brk => exact hr.elim
    | .ok .cont => exact hr.elim
    | .error e => exact hr.elim
end
end Mine
end
section
open PySem PySem.W PySem.Calls PySem.Spec PyProof.Rows
set_option Elab.async false
set_option maxRecDepth 100000
set_option linter.unusedVariables false
namespace Mine
theorem NowAt.grow {c : Cx} {z : List (Addr × Obj)} {lo : Loc} {ob : Obs} {s : Shared} {m : Str → Option Value} {os frs : List (Addr × Obj)} (n : NowAt c z lo ob s m os frs) {h' : Heap} {tk : Nat} {o : Obj} {b : Ob}
    (k : ∀ b o, s.heap.get? b = some o → h'.get? b = some o) (hD : h'.get? s.heap.objs.size = some o) (hb : obR c.g.w.params b o) : NowAt c z lo ((s.heap.objs.size, b) :: ob) { s with heap := h', toks := tk } m ((s.heap.objs.size, o) :: os) frs := by
  refine of_gen fun _ kg => ?_
  obtain ⟨oL, _, _, hL, _⟩ := n.F.ns
  refine kg ?_
  have hlt : c.L < s.heap.objs.size := Heap.lt_size hL
  refine n.add (n.F.keeps k) (fun p hp => ?_) hb (fun p hp => Nat.ne_of_lt (n.frs_lt p hp))
  rcases List.mem_cons.mp hp with rfl | hp
  · exact ⟨hD, Nat.ne_of_gt hlt, Heap.get?_none_of_le (Nat.le_trans n.F.above (Nat.le_of_lt hlt))⟩
  · exact ⟨k _ _ (n.N p hp).1, (n.N p hp).2⟩
section
variable {c : Cx} {lo : Loc} {ob ob' : Obs} {X : QT Addr} {Q : QT V} {a b : Addr} {vs ws : List V} {cs : List (List Nat)} {i j : Int} {l : List Nat}
/- lists -/
theorem signs_vrs {l : List Nat} {acc : List Value} (hz : acc.length = l.length) (h : ∀ j v, acc[j]? = some v → SignAt (tx l) j v) : VRs (l.map fun k => V.str [k]) acc := by
  induction acc generalizing l with
  | nil =>
    cases l with
    | nil => exact .nil
    | cons x r => cases hz
  | cons v r ih =>
    cases l with
    | nil => cases hz
    | cons x l =>
      obtain ⟨k, u, hk, rfl⟩ := h 0 v rfl
      have e : k = x := by
        have : (tx (x :: l)).cps[0]? = some x := rfl
        rw [this] at hk
        exact (Option.some.inj hk).symm
      subst e
      refine .cons ⟨u, rfl⟩ (ih (Nat.succ.inj hz) fun j v hv => ?_)
      obtain ⟨k, u, hk, e⟩ := h (j + 1) v hv
      exact ⟨k, u, by simpa [tx] using hk, e⟩
theorem list_str (hh : c.B.handled = none) (hz : l.length ≤ 100000) (h : ∀ d, Q (.ref d) lo ((d, .list (l.map fun k => .str [k])) :: ob)) : Cal c (.cv (.type "list")) [.str l] Q X lo ob := by
  rintro _ cv rfl hv z s n0
  refine of_gen fun _ kg => ?_
  obtain ⟨_, rfl, t, rfl⟩ := VRs1 hv
  obtain ⟨m, os, frs, n⟩ := n0
  refine kg (call_list_str hh (tx l) t (fun h' tk acc' c' hk hS hi => ?_) ?_)
  · have hr : VRs (l.map fun k => V.str [k]) acc'.toList := signs_vrs (by rw [Array.length_toList, hi.1]; exact tx_length l) fun j v hv => hi.2 j v (by rwa [Array.getElem?_toList] at hv)
    exact ⟨.ref s.heap.objs.size, lo, _, rfl, ⟨m, _, frs, n.grow (b := .list (l.map fun k => .str [k])) hk hS ⟨acc'.toList, c', by simp [W.listOf], hr⟩⟩, h _⟩
  · show (tx l).length ≤ _
    rw [tx_length, sizeLine_eq]; omega
theorem add_lists {vs ws : List V} (ha : (a, .list vs) ∈ ob) (hb : (b, .list ws) ∈ ob) (hz : vs.length + ws.length ≤ 100000) (h : ∀ d, Q (.ref d) lo ((d, .list (vs ++ ws)) :: ob)) : Bin c .Add (.ref a) (.ref b) Q X lo ob := by
  rintro _ _ rfl rfl z s n0
  refine of_gen fun _ kg => ?_
  obtain ⟨m, os, frs, n⟩ := n0
  obtain ⟨o1, _, _, g1, xs, k1, rfl, r1⟩ := n.mem ha
  obtain ⟨o2, _, _, g2, ys, k2, rfl, r2⟩ := n.mem hb
  refine kg (PyProof.Rows.add_lists n.F n.N (vs := xs) (ws := ys) ⟨_, g1, rfl, _, rfl⟩ ⟨_, g2, rfl, _, rfl⟩ (fun h' F' N' => ?_) ?_)
  · exact ⟨.ref s.heap.objs.size, lo, _, rfl, ⟨m, _, frs, n.add (b := .list (vs ++ ws)) (s' := { s with heap := h' }) F' N' ⟨xs ++ ys, 0, rfl, r1.append r2⟩ fun p hp => Nat.ne_of_lt (n.frs_lt p hp)⟩, h _⟩
  · rw [← r1.length, ← r2.length, sizeLine_eq]; omega
theorem inpl_list {M : Model} {A : Around} {E : Value → Shared → Prop} {s : Shared} {x y : Value} {Q : Value → Shared → Prop} (hx : s.TypeIs x "list") (hy : s.TypeIs y "list") (h : wpAny M A (call (.builtin "list.__iadd__") [x, y]) Q E s) : wpAny M A (inplaceOp .Add x y) Q E s := by
  have hs : isSeqSlot (some (.builtin "list.__iadd__")) = true := by decide +kernel
  have hf : fillsInplaceSlot (.type "list") "add" (Operator.Add == .Add) = pure false := by
    unfold fillsInplaceSlot
    show (typeLookup (.type "list") (dunderI "add") >>= fun fi => pure (fi.isSome && !isSeqSlot fi)) = pure false
    rw [PySem.F.slot_list_iadd.lookup, pure_bind, hs]; rfl
  unfold inplaceOp
  refine wpAny_holding (wpAny_bind (wpAny_typeOf hx (wpAny_bind (wpAny_of_eq hf ?_))))
  show wpAny M A (if false = true then _ else _) Q E s
  rw [if_neg Bool.false_ne_true]
  refine wpAny_bind (wpAny_binaryOp1_none (nm := "add") hx hy noFill_list_add ?_)
  exact wpAny_bind (wpAny_of_eq (PySem.seqSlot_of PySem.F.slot_list_iadd.lookup hs) (wpAny_bind (wpAny_rule h)))
theorem iadd_lists {vs ws : List V} (u : OUpd a (.list vs) (.list (vs ++ ws)) ob ob') (hb : (b, .list ws) ∈ ob) (hz : vs.length + ws.length ≤ 100000) (h : Q (.ref a) lo ob') : Inp c .Add (.ref a) (.ref b) Q X lo ob := by
  rintro _ _ rfl rfl z s n0
  refine of_gen fun _ kg => ?_
  obtain ⟨m, os, frs, n⟩ := n0
  obtain ⟨o2, _, _, g2, ys, k2, rfl, r2⟩ := n.mem hb
  obtain ⟨o, ⟨xs, k, rfl, r1⟩, hm, hu⟩ := n.upd u
  have hz' : xs.toArray.size + ys.toArray.size ≤ sizeLine := by rw [List.size_toArray, List.size_toArray, ← r1.length, ← r2.length, sizeLine_eq]; omega
  have hN := n.N _ (List.mem_append_left _ hm)
  obtain ⟨k', e⟩ : ∃ k', Obj.mapSeq (fun x => x ++ ys.toArray) (W.listOf xs.toArray k) = W.listOf (xs ++ ys).toArray k' := ⟨_, by rw [show W.listOf xs.toArray k = _ from rfl, mapSeq_app, List.append_toArray]⟩
  obtain ⟨os', U, fin⟩ := hu (W.listOf (xs ++ ys).toArray k') ⟨xs ++ ys, k', rfl, r1.append r2⟩
  refine kg (inpl_list ⟨_, hN.1, rfl⟩ ⟨_, g2, rfl⟩ (call_meets PySem.F.slot_list_iadd ⟨_, hN.1, rfl⟩ PySem.F.entry_list_iadd (PySem.F.args_list_iadd_2 _ _) (AutoSeq1.list___iadd___list_list_0 a xs.toArray k b ys.toArray k2 (extend_door hz') (Nat.le_trans (Nat.le_add_right _ _) hz') (Nat.le_succ_of_le hz')) ⟨hN.1, g2, ?_⟩))
  have hg : (s.heap.update a (Obj.mapSeq fun x => x ++ ys.toArray)).get? a = some (W.listOf (xs ++ ys).toArray k') := by rw [Heap.get?_update_self _ hN.1 (by rw [e]; rfl), e]
  refine of_gen fun _ kg => ?_
  obtain ⟨pre, post, e1, e2, g1, g2⟩ := U.split
  have N' := n.N
  rw [e1] at N'
  exact kg ⟨.ref a, lo, ob', rfl, ⟨m, os', frs, fin { s with heap := _ } ⟨rfl, rfl⟩ (n.F.change (Heap.SameBut.update ..) hN.2.1 hN.2.2) (e2 ▸ N'.setIn g1 g2 (Heap.SameBut.update ..) hg)⟩, h⟩
theorem rep_vrs {vs : List V} {cs : List Value} (h : VRs vs cs) : ∀ k : Nat, VRs (List.replicate k vs).flatten (List.replicate k cs).flatten
  | 0 => .nil
  | k + 1 => by rw [List.replicate_succ, List.replicate_succ, List.flatten_cons, List.flatten_cons]; exact h.append (rep_vrs h k)
theorem mul_list_int {v : V} (ha : (a, .list [v]) ∈ ob) (h0 : 0 ≤ i) (h1 : i ≤ 1000) (h : ∀ d, Q (.ref d) lo ((d, .list (List.replicate i.toNat v)) :: ob)) : Bin c .Mult (.ref a) (.int i) Q X lo ob := by
  rintro _ _ rfl ⟨t, rfl⟩ z s n0
  refine of_gen fun _ kg => ?_
  obtain ⟨m, os, frs, n⟩ := n0
  obtain ⟨o1, _, _, g1, xs, k1, rfl, r1⟩ := n.mem ha
  have hl : xs.length = 1 := r1.length.symm
  refine kg (mul_list n.F n.N g1 (by omega) (by omega) (by rw [List.size_toArray, hl]; omega) fun h' F' N' => ?_)
  have e : (List.foldl (fun x1 x2 => x1 ++ x2) #[] (List.replicate (if xs.toArray.isEmpty = true then 0 else i.toNat) xs.toArray)) = (List.replicate i.toNat xs).flatten.toArray := by
    rw [listMul_foldl_if]
  rw [e] at N'
  have er : (List.replicate i.toNat v) = (List.replicate i.toNat [v]).flatten := by
    induction i.toNat with
    | zero => rfl
    | succ k ih => rw [List.replicate_succ, List.replicate_succ, List.flatten_cons, ih]; rfl
  exact ⟨.ref s.heap.objs.size, lo, _, rfl, ⟨m, _, frs, n.add (b := .list (List.replicate i.toNat v)) (s' := { s with heap := h' }) F' N' ⟨_, 0, rfl, by rw [er]; exact rep_vrs r1 _⟩ fun p hp => Nat.ne_of_lt (n.frs_lt p hp)⟩, h _⟩
/- ints -/
theorem pow_ints (hn : 0 ≤ j) (hs : (Builtin.Int.intBits i : Int) * j ≤ 2 ^ 27) (h : Q (.int (i ^ j.toNat)) lo ob) : Bin c .Pow (.int i) (.int j) Q X lo ob := by
  rintro _ _ ⟨t, rfl⟩ ⟨u, rfl⟩ z s n
  exact pow_int hn hs (LQ.int (n.toks rfl) h)
theorem ifdiv_ints (hj : j ≠ 0) (hs : j.natAbs < 1073741824) (h : Q (.int (i.fdiv j)) lo ob) : Inp c .FloorDiv (.int i) (.int j) Q X lo ob := by
  rintro _ _ ⟨t, rfl⟩ ⟨u, rfl⟩ z s n
  exact PyProof.Rows.ifloordiv_int hj (LQ.int (n.toks rfl) h) (hp := .inl (PyProof.noPylong_small hs))
/- sets -/
theorem froz_list (hm : (a, .list (cs.map V.str)) ∈ ob) (hz : cs.length ≤ 4000) (hh : c.B.handled = none) (h : ∀ d, Q (.ref d) lo ((d, .set true cs) :: ob)) : Cal c (.cv (.type "frozenset")) [.ref a] Q X lo ob := by
  rintro _ cv rfl hv z s n0
  refine of_gen fun _ kg => ?_
  obtain ⟨_, rfl, rfl⟩ := VRs1 hv
  obtain ⟨m, os, frs, n⟩ := n0
  obtain ⟨o1, _, _, g1, xs, k1, rfl, r1⟩ := n.mem hm
  refine kg (fz_list (items := xs.toArray) ⟨_, g1, rfl, _, rfl⟩ r1 ?_ hh fun h' tk es ep t hk hS H => ?_)
  · rw [List.size_toArray, ← r1.length, List.length_map]; unfold scanBound; omega
  · exact ⟨.ref s.heap.objs.size, lo, _, rfl, ⟨m, _, frs, n.grow (b := .set true cs) hk hS ⟨_, _, es, ep, t, rfl, rfl, H.e, H.m, H.n, H.f⟩⟩, h _⟩

noncomputable def hasO (cs : List (List Nat)) : Option (List Nat) → Bool
  | some l => decide (l ∈ cs)
  | none => false
theorem optElems {prog prog' : Program} {w w' : World} (hw : w.params = w'.params) {es : List (Int × Value)} (h : ElemsOf (PySem.strKind prog w) es) : ElemsOf (optKind prog' w') es := fun e he => by
  obtain ⟨⟨k, a, b⟩, c⟩ := h e he
  exact ⟨⟨some k, a, b.trans (by show hashStr w k = hashStr w' k; unfold hashStr; rw [hw])⟩, c⟩
theorem contains_froz {prog : Program} {w : World} {A : Around} {E : Value → Shared → Prop} {s : Shared} {k : Option Str} {x : Value} {es : Array (Int × Value)} {ep : Nat} {t : SetTable} {S : Option Str → Bool} {Q : Bool → Shared → Prop} (hk : isOpt k x = true) (hx : x.scannable = true)
    (ho : s.heap.get? a = some { cls := .type "frozenset", data := .set es ep t }) (he : ElemsOf (optKind prog w) es.toList) (hm : ∀ k, S k = true ↔ ∃ e ∈ es.toList, isOpt k e.2 = true) (hz : es.size < scanBound) (hf : t.fits es.size = true)
    (h : Q (S k) { s with toks := s.toks + 1 }) : wpAny (model prog w) A (contains (.ref a) x) Q E s := by
  have hT : s.TypeIs (.ref a) "frozenset" := ⟨_, ho, rfl⟩
  refine wpAny_contains_slot hT FB.slot_frozenset_contains (wpAny_call_entry FB.slot_frozenset_contains hT FB.entry_frozenset_contains ?_ (FB.args_frozenset_contains_2 _ _))
  unfold Builtin.«frozenset.__contains__» Builtin.Frozenset.oneOther Builtin.Frozenset.addrOf Builtin.Frozenset.withSetAsKey setContains
  refine wpAny_bind (wpAny_pure ?_)
  refine wpAny_bind (wpAny_tryCatch (wpAny_holding (wpAny_bind ((optKind prog w).pyHash hk ?_))))
  refine wpAny_bind (setFind_any (knd := optKind prog w) (s := { s with toks := s.toks + 1 }) hk hx ho rfl he hm hz hf fun r hr => wpAny_pure ?_)
  show wpAny _ _ (ret (Value.bool r.isSome)) _ _ _
  rw [hr]
  exact wpAny_pure ⟨_, rfl, wpAny_truthy_bool h⟩
theorem set_has {o : Option (List Nat)} (hm : (a, .set true cs) ∈ ob) (hz : cs.length ≤ 4000) {z : List (Addr × Obj)} {s : Shared} (n0 : Now c z lo ob s) {x : Value} (hx : VR (ovV o) x) {A : Around} {E : Value → Shared → Prop} {Q : Bool → Shared → Prop}
    (h : ∀ s', Now c z lo ob s' → Q (hasO cs o) s') : wpAny c.g.M A (contains (.ref a) x) Q E s := by
  refine of_gen fun _ kg => ?_
  obtain ⟨m, os, frs, n⟩ := n0
  obtain ⟨_, _, _, g1, pr, w, es, ep, t, H⟩ := n.mem hm
  obtain rfl := H.ho
  refine kg ?_
  have hkx : isOpt (o.map tx) x = true ∧ x.scannable = true := by
    cases o with
    | none => obtain rfl := hx; exact ⟨rfl, rfl⟩
    | some l => obtain ⟨u, rfl⟩ := hx; exact ⟨(strKind_is c.g.prog c.g.w (tx l) u), rfl⟩
  refine contains_froz (S := fun k => match k with | some y => decide (∃ l ∈ cs, y = tx l) | none => false) hkx.1 hkx.2 g1 (optElems H.wp H.he) (fun k => ?_) (by have := H.hn; unfold scanBound; omega) H.hf ?_
  · cases k with
    | none =>
      refine ⟨fun q => (by cases q), fun ⟨e, he, q⟩ => ?_⟩
      obtain ⟨⟨y, hy, _⟩, _⟩ := H.he e he
      rw [isOpt_none q] at hy
      cases hy
    | some y => rw [decide_eq_true_eq]; exact (H.hm y).symm
  · have e : (match o.map tx with | some y => decide (∃ l ∈ cs, y = tx l) | none => false) = hasO cs o := by
      cases o with
      | none => rfl
      | some l =>
        refine decide_eq_decide.mpr ⟨fun ⟨y, hy, q⟩ => ?_, fun q => ⟨l, q, rfl⟩⟩
        rw [tx_inj] at q
        rw [q]; exact hy
    rw [e]
    exact h _ ⟨m, os, frs, n.toks rfl⟩
theorem notin_froz' {o : Option (List Nat)} (hm : (a, .set true cs) ∈ ob) (hz : cs.length ≤ 4000) (h : Q (.bool (!hasO cs o)) lo ob) : Cmp c .NotIn (ovV o) (.ref a) Q X lo ob := by
  rintro _ _ hx rfl z s n
  exact (wpAny_bind (set_has hm hz n hx fun s' n' => wpAny_pure (LQ.bool n' h)) : wpAny _ _ (do return Value.bool (!(← contains _ _))) _ _ s)
end
end Mine
end
section
open PySem PySem.W PySem.Calls PySem.Spec PyProof.Rows
set_option Elab.async false
set_option maxRecDepth 100000
set_option linter.unusedVariables false
namespace Mine
/- figures of base 16 -/
noncomputable abbrev hexL : List Nat := [48, 49, 50, 51, 52, 53, 54, 55, 56, 57, 97, 98, 99, 100, 101, 102]
noncomputable abbrev hexU : List Nat := [48, 49, 50, 51, 52, 53, 54, 55, 56, 57, 65, 66, 67, 68, 69, 70]
noncomputable abbrev hexA : List Nat := [48, 49, 50, 51, 52, 53, 54, 55, 56, 57, 97, 98, 99, 100, 101, 102, 65, 66, 67, 68, 69, 70]
noncomputable def lowF (k : Nat) : Nat := if 65 ≤ k ∧ k ≤ 70 then k + 32 else k
noncomputable def valF (k : Nat) : Nat := if 48 ≤ k ∧ k ≤ 57 then k - 48 else lowF k - 87
theorem low_all : ∀ k ∈ hexA, PySem.placed ⟨#[k]⟩ (fun i _ => Unicode.lowerAt (#[k] : Array Nat) i) = #[lowF k] := by decide +kernel
theorem idx_all : ∀ k ∈ hexA, PySem.Builtin.Str.occurrences (tx hexL) (tx [lowF k]) 0 (tx hexL).length 1 = [valF k] := by decide +kernel
section
variable {c : Cx} {lo : Loc} {ob : Obs} {X : QT Addr} {Q : QT V}
theorem lower_hex {k : Nat} (hk : k ∈ hexA) (h : Q (.str [lowF k]) lo ob) : Cal c (.cv (.builtin "str.lower")) [.str [k]] Q X lo ob := by
  rintro _ cs rfl hv z s n
  obtain ⟨_, rfl, t, rfl⟩ := VRs1 hv
  have e := low_all k hk
  refine call_gives PySem.F.slot_str_lower (typeIs_str _ _ _) PySem.F.entry_str_lower (PySem.F.args_str_lower_1 _) (gives_str_lower (tx [k]) t ?_) ?_
  · show PySem.Builtin.Str.tooLong (PySem.placed ⟨#[k]⟩ (fun i _ => Unicode.lowerAt (#[k] : Array Nat) i)).size = false
    rw [e]
    show PySem.Builtin.Str.tooLong 1 = false
    decide +kernel
  · show (Made.str ⟨PySem.placed ⟨#[k]⟩ (fun i _ => Unicode.lowerAt (#[k] : Array Nat) i)⟩).post _ s
    rw [e]
    exact ⟨by rw [sizeLine_eq]; exact (by decide : (1 : Nat) ≤ 16777216), LQ.str (l := [lowF k]) (n.toks rfl) h⟩
theorem index_hex {k : Nat} (hk : k ∈ hexA) (h : Q (.int (valF k : Int)) lo ob) : Cal c (.cv (.builtin "str.index")) [.str hexL, .str [lowF k]] Q X lo ob := by
  rintro _ cs rfl hv z s n
  obtain ⟨_, _, rfl, ⟨t, rfl⟩, u, rfl⟩ := VRs2 hv
  exact call_gives PySem.F.slot_str_index (typeIs_str _ _ _) PySem.F.entry_str_index (PySem.F.args_str_index_2 _ _) (gives_str_index (tx hexL) (tx [lowF k]) t u _ [] (idx_all k hk)) (LQ.int (n.toks rfl) h)

/- a dict's display, texts and ints -/
inductive DcE : List (Option Expr) → List Expr → List (List Nat × Int) → Prop
  | nil : DcE [] [] []
  | cons {x l k p i k2 p2 ks vs r} : x = tx l → DcE ks vs r → DcE (some (.Constant (.str x) k p) :: ks) (.Constant (.int i) k2 p2 :: vs) ((l, i) :: r)
inductive DcV : List (Value × Value) → List (List Nat × Int) → Prop
  | nil : DcV [] []
  | cons {l i t u vs r} : DcV vs r → DcV ((.str (tx l) t, .int i u) :: vs) ((l, i) :: r)
theorem DcE.all {ks : List (Option Expr)} {vs : List Expr} {r : List (List Nat × Int)} (h : DcE ks vs r) : ks.all (·.isSome) = true ∧ ks.length = vs.length ∧ ks.length = r.length := by
  induction h with
  | nil => exact ⟨rfl, rfl, rfl⟩
  | cons _ _ ih => exact ⟨ih.1, congrArg Nat.succ ih.2.1, congrArg Nat.succ ih.2.2⟩
theorem DcE.ev {ks : List (Option Expr)} {vs : List Expr} {r : List (List Nat × Int)} (h : DcE ks vs r) {prog : Program} {w : World} {A : Around} {E : Value → Shared → Prop} {env : Env} {pos : Pos} : ∀ {s : Shared} {Q : List (Value × Value) → Shared → Prop}, (∀ us tk, DcV us r → Q us { s with toks := tk }) → wpAny (model prog w) A (evalPairs (pairTrees ks vs env pos)) Q E s := by
  induction h with
  | nil => exact fun h => evalPairs_nil (h [] _ .nil)
  | @cons x l k p i k2 p2 ks vs r e _ ih =>
    intro s Q h
    subst e
    refine evalPairs_cons ?_
    refine (wpAny_mkText ?_ : wpAny _ _ (mkText (tx l)) _ _ _)
    refine wpAny_bind ((wpAny_mkInt ?_ : wpAny _ _ (mkInt i) _ _ _))
    refine wpAny_bind (wpAny_standAt (wpAny_pure ?_))
    exact ih fun us tk g => h _ _ (.cons g)
theorem DcV.str {us : List (Value × Value)} {r : List (List Nat × Int)} (h : DcV us r) : allStrKeys us = true ∧ (strPairs us).map (·.1) = r.map (fun p => tx p.1) ∧ (∀ q ∈ strPairs us, ∃ p ∈ r, q.1 = tx p.1 ∧ VR (.int p.2) q.2) ∧ ∀ p ∈ r, ∃ q ∈ strPairs us, q.1 = tx p.1 := by
  induction h with
  | nil => exact ⟨rfl, rfl, (fun _ h => nomatch h), fun _ h => nomatch h⟩
  | @cons l i t u vs r _ ih =>
    refine ⟨ih.1, congrArg (List.cons _) ih.2.1, fun q hq => ?_, fun p hp => ?_⟩
    · rcases List.mem_cons.mp hq with rfl | hq
      · exact ⟨_, .head _, rfl, u, rfl⟩
      · exact (ih.2.2.1 q hq).imp fun p h => ⟨.tail _ h.1, h.2⟩
    · rcases List.mem_cons.mp hp with rfl | hp
      · exact ⟨_, .head _, rfl⟩
      · exact (ih.2.2.2 p hp).imp fun q h => ⟨.tail _ h.1, h.2⟩
noncomputable def dcF (r : List (List Nat × Int)) (l : List Nat) : V := .int ((r.lookup l).getD 0)
theorem dcF_at {r : List (List Nat × Int)} (hn : (r.map (·.1)).Nodup) {p : List Nat × Int} (hp : p ∈ r) : dcF r p.1 = .int p.2 := by
  unfold dcF
  induction r with
  | nil => cases hp
  | cons q r ih =>
    rw [List.map_cons, List.nodup_cons] at hn
    obtain ⟨a, b⟩ := q
    rw [List.lookup_cons]
    rcases List.mem_cons.mp hp with rfl | hp
    · simp
    · have hne : p.1 ≠ a := fun e => hn.1 (e ▸ List.mem_map_of_mem (f := (·.1)) hp)
      have e : (p.1 == a) = false := by simpa using hne
      rw [e]
      exact ih hn.2 hp
theorem tx_nodup {r : List (List Nat × Int)} (hn : (r.map (·.1)).Nodup) : (r.map (fun p => tx p.1)).Nodup := by
  have : r.map (fun p => tx p.1) = (r.map (·.1)).map tx := by rw [List.map_map]; rfl
  rw [this]
  exact List.Pairwise.map _ (fun a b h e => h (tx_inj.mp e)) hn
theorem W_DictC {ks : List (Option Expr)} {vs : List Expr} {r : List (List Nat × Int)} {pos : Pos} (ok : c.Ok) (hd : DcE ks vs r) (h0 : ks ≠ []) (hz : ks.length ≤ 15) (hn : (r.map (·.1)).Nodup)
    (h : ∀ d, Q (.ref d) lo ((d, .fd (dcF r) (fun l => l ∈ r.map (·.1)) r.length) :: ob)) : W c VR (eval (.Dict ks vs pos) c.env) Q X lo ob := fun z s n0 => by
  refine of_gen fun _ kg => ?_
  obtain ⟨m, os, frs, n⟩ := n0
  refine kg (kdn_eval (knd := PySem.strKind c.g.prog c.g.w) n.F n.N ok.g.T.nolimit hd.all.1 hd.all.2.1 h0 hz fun d h' o F' N' hlt _ ho => hd.ev fun us tk g => ?_)
  have hg := g.str
  refine kdn_made_str (s := { s with heap := h', toks := tk }) F' N' (.head fun p hp => Nat.ne_of_lt (hlt p hp)) ho hg.1 (by rw [hg.2.1]; exact tx_nodup hn) fun h2 o2 F2 N2 ho2 => ?_
  refine ⟨.ref d, lo, _, rfl, ⟨m, _, frs, n.add (b := .fd (dcF r) (fun l => l ∈ r.map (·.1)) r.length) (s' := { s with heap := h2, toks := _ }) F2 N2 ⟨c.g.prog, c.g.w, _, rfl, ho2, ?_, fun q hq => ?_, fun l hl => ?_⟩ fun p hp => Nat.ne_of_lt (hlt p hp)⟩, h d⟩
  · have := congrArg List.length hg.2.1
    rw [List.length_map, List.length_map] at this
    exact Nat.le_of_eq this
  · obtain ⟨p, hp, e1, e2⟩ := hg.2.2.1 q hq
    exact ⟨p.1, e1, by rw [dcF_at hn hp]; exact e2⟩
  · obtain ⟨p, hp, rfl⟩ := List.mem_map.mp hl
    exact hg.2.2.2 p hp
/- a sign is struck from a text: the marks must have been given out -/
theorem S_consP {st : Stmt} {r : List Stmt} {Q : QT AF} (h : WP c FR (exec st c.env) (Then c r Q X) X lo ob) : WP c FR (execs (st :: r) c.env) Q X lo ob := fun z s n hp =>
  wpAny_execs_cons (thenQ (h z s n hp) fun f s' g lo ob hf n h => by
    cases g with
    | next => cases hf; exact h z s' n
    | brk => cases hf; exact ⟨AF.brk, lo, ob, rfl, n, h⟩
    | cont => cases hf; exact ⟨AF.cont, lo, ob, rfl, n, h⟩
    | ret v => obtain ⟨cv, rfl, hr⟩ := hf; exact ⟨AF.ret v, lo, ob, ⟨cv, rfl, hr⟩, n, h⟩)
theorem strike_bs (l : List Nat) : Txt.replace (tx l) (tx [92]) (tx []) = tx (l.filter (· != 92)) := by
  have h := replace_strikes (tx l) 92
  have e : ∀ x y : Str, x.cps.toList = y.cps.toList → x = y := fun x y h => by cases x; cases y; exact congrArg Str.mk (Array.toList_inj.mp h)
  exact e _ _ (h.trans (by simp [tx]))
theorem S_ReplP {pl : Sem Bool} {x fig y zz : Str} {px pn ap pos apos p1 p2 : Pos} {k1 k2 : Nat} {l : List Nat} {ns : Nms} {Q : QT AF} (ok : c.Ok) (hv : c.cv = none) (hns : c.ns = ns) (hx : Has ns lo fig (.str l)) (hz : l.length ≤ 1000) (e1 : y = tx [92]) (e2 : zz = tx [])
    (h : Sto c x (.str (l.filter (· != 92))) (Q .next) X lo ob) (hd : (fig == ("__debug__" : Str)) = false := by decide)
    (hs : swapsWith (.Call (.Attribute (.Name fig pn) "replace" ap) [.Constant (.str y) k1 p1, .Constant (.str zz) k2 p2] [] pos) (some (.Name x px)) apos.line c.env = pure false := by rfl)
    (he : eval (.Call (.Attribute (.Name fig pn) "replace" ap) [.Constant (.str y) k1 p1, .Constant (.str zz) k2 p2] [] pos) c.env = (do
      let ov ← eval (.Name fig pn) c.env
      standAt ap.atName
      let (f, first) ← holding [ov] (getMethod ov "replace" pl)
      callWith pos f first (backTo pos (starEach [.Constant (.str y) k1 p1, .Constant (.str zz) k2 p2] c.env)) []) := by rfl) :
    WP c FR (exec (.Assign [.Name x px] (.Call (.Attribute (.Name fig pn) "replace" ap) [.Constant (.str y) k1 p1, .Constant (.str zz) k2 p2] [] pos) apos) c.env) Q X lo ob := fun z s n0 hp => by
  subst hns e1 e2
  refine of_gen fun _ kg => ?_
  obtain ⟨m, os, frs, n⟩ := id n0
  obtain ⟨_, hm, t, rfl⟩ := n.lr fig _ hx
  refine kg ?_
  have e := ok.fn hv
  have hlk : c.env.scope.names.lookup fig = some .local := by
    rw [e]
    show c.fenv.scope.names.lookup fig = _
    rw [ok.fns]
    exact lookup_of_mem ok.nd hx.mem
  refine wpAny_Assign_Name (MethodCall_ (wpAny_Name (wpAny_loadName_local (m := m) ok.kind hlk (by rw [e]; exact n.F.ns) hm (GM.replace (callWith_of (P := fun _ => True) (by rw [backTo_any rfl]; rfl) (fun h _ => ⟨.machine, .inr (.inl rfl), Looks.now⟩) ?_))) hd) he) hs
  rw [starEach_of rfl]
  refine Calls.evalArgs_plain (Calls.spliced_cons ((wpAny_mkText ?_ : wpAny _ _ (mkText (tx [92])) _ _ _)))
  refine Calls.spliced_cons ((wpAny_mkText (Calls.spliced_nil ⟨trivial, ?_⟩) : wpAny _ _ (mkText (tx [])) _ _ _))
  refine SC.replace (Nat.ne_of_gt hp) (Nat.succ_ne_zero _) (Nat.ne_of_lt (Nat.lt_succ_self _)) (by decide) ?_ fun t' k => ?_
  · rw [tx_length, tx_length]; show l.length + (l.length + 1) * 0 ≤ _; omega
  · rw [strike_bs]
    exact thenQ (h _ ⟨t', rfl⟩ z _ (n0.toks rfl)) fun _ s' _ lo ob _ n h => ⟨AF.next, lo, ob, rfl, n, h⟩
theorem notin_none {a : Addr} {cs : List (List Nat)} (hm : (a, .set true cs) ∈ ob) (hz : cs.length ≤ 4000) (h : Q (.bool true) lo ob) : Cmp c .NotIn .none (.ref a) Q X lo ob := notin_froz' (o := none) hm hz h
theorem notin_str {a : Addr} {cs : List (List Nat)} {l : List Nat} (hm : (a, .set true cs) ∈ ob) (hz : cs.length ≤ 4000) (h : Q (.bool (!decide (l ∈ cs))) lo ob) : Cmp c .NotIn (.str l) (.ref a) Q X lo ob := notin_froz' (o := some l) hm hz h
theorem mul_ints {i j : Int} (h0 : 0 ≤ j) (h1 : j ≤ 1000) (h : Q (.int (i * j)) lo ob) : Bin c .Mult (.int i) (.int j) Q X lo ob := by
  rintro _ _ ⟨t, rfl⟩ ⟨u, rfl⟩ z s n
  exact PySem.P.mul_int (LQ.int (n.toks rfl) h) (IntMulOk.of_right (PySem.intBits_le_64 (by omega) (by omega)))
theorem pow_intsE {i j r : Int} (hn : 0 ≤ j) (hs : (Builtin.Int.intBits i : Int) * j ≤ 2 ^ 27) (he : i ^ j.toNat = r) (h : Q (.int r) lo ob) : Bin c .Pow (.int i) (.int j) Q X lo ob := pow_ints hn hs (he ▸ h)
theorem fnqP_G {t : Sem Flow} {R : V} {OB1 : Obs} (h : ∀ TQ : QT AF, (∀ {v : V} {lo : Loc} {ob ob2 d : Obs}, Picks ob ob2 d → v = R → ob2 = OB1 → TQ (.ret v) lo ob) → (∀ {lo : Loc} {ob ob2 d : Obs}, Picks ob ob2 d → V.none = R → ob2 = OB1 → TQ .next lo ob) → WP c FR t TQ X lo ob) :
    WP c FR t (FnQ fun v ob => Frg (fun ob => v = R ∧ ob = OB1) ob) X lo ob :=
  h _ (fun p e1 e2 => fnq_ret (frg_intro p ⟨e1, e2⟩)) fun p e1 e2 => fnq_next (frg_intro p ⟨e1, e2⟩)
theorem sub_str_is {value slice : Expr} {l : List Nat} {i : Int} {k : Nat} (hh : c.B.handled = none) (he : l[i.toNat]? = some k) (h0 : 0 ≤ i) (hz : l.length ≤ 100000) (h : Q (.str [k]) lo ob)
    (hs : ∀ t u, subscripted slice false (.str (tx l) t) (.int i u) = operate [.str (tx l) t, .int i u] (getItem (.str (tx l) t) (.int i u)) := by intro _ _; with_unfolding_all rfl) : Sub2 c value slice (.str l) (.int i) Q X lo ob :=
  sub_str_in hh h0 (by have := (List.getElem?_eq_some_iff.mp he).1; omega) hz (fun k' hk => by rw [he] at hk; cases hk; exact h) hs
theorem sub_fdE {value slice : Expr} {f : List Nat → V} {K : List Nat → Prop} {n : Nat} {a : Addr} {l : List Nat} {v : V} (hm : (a, .fd f K n) ∈ ob) (hk : K l) (he : f l = v) (h : Q v lo ob)
    (hs : ∀ u, subscripted slice false (.ref a) (.str (tx l) u) = operate [.ref a, .str (tx l) u] (getItem (.ref a) (.str (tx l) u)) := by intro _; with_unfolding_all rfl) : Sub2 c value slice (.ref a) (.str l) Q X lo ob :=
  sub_fd hm hk (he ▸ h) hs
theorem len_la {a : Addr} {vs : List V} (hm : LA c ob a vs) (hz : vs.length ≤ 100000) (h : Q (.int vs.length) lo ob) : Cal c (.cv (.builtin "len")) [.ref a] Q X lo ob := by
  rintro _ cs rfl hv z s n0
  refine of_gen fun _ kg => ?_
  obtain ⟨_, rfl, rfl⟩ := VRs1 hv
  obtain ⟨m, os, frs, n⟩ := n0
  obtain ⟨ks, hl, hr⟩ := hm.at n
  refine kg ?_
  have hlen : vs.length = ks.length := hr.length
  refine Calls.call_len_list (items := ks.toArray) hl (by rw [List.size_toArray, ← hlen]; omega) ?_
  rw [List.size_toArray, ← hlen]
  exact LQ.int ⟨m, os, frs, n.toks rfl⟩ h
theorem froz_listE (cs : List (List Nat)) {a : Addr} {vs : List V} (hm : (a, .list vs) ∈ ob) (hv : vs = cs.map V.str) (hz : cs.length ≤ 4000) (hh : c.B.handled = none) (h : ∀ d, Q (.ref d) lo ((d, .set true cs) :: ob)) : Cal c (.cv (.type "frozenset")) [.ref a] Q X lo ob := froz_list (hv ▸ hm) hz hh h
end
end Mine
end
section
open PySem PySem.W PySem.Calls PySem.Spec PyProof.Rows
set_option Elab.async false
set_option maxRecDepth 100000
set_option linter.unusedVariables false
namespace Mine
/- signs of a pattern -/
noncomputable def SgO (s : List Nat) : Prop := (∃ c, c ≠ 92 ∧ s = [c]) ∨ ∃ d, s = [92, d]
theorem SgO.pos {s : List Nat} (h : SgO s) : 1 ≤ s.length ∧ s.length ≤ 2 := by
  rcases h with ⟨c, _, rfl⟩ | ⟨d, rfl⟩ <;> exact ⟨Nat.le_of_ble_eq_true rfl, Nat.le_of_ble_eq_true rfl⟩
structure ToksAt (l : List Nat) (ss : List (List Nat)) (i : Nat) (o : Option (List Nat)) (p : Nat) : Prop where
  g : ∀ s ∈ ss, SgO s
  e : l.drop p = ss.flatten
  z : p ≤ l.length
  n : nxt l p = some (i, o)
noncomputable def Toks (l : List Nat) (ss : List (List Nat)) (i : Nat) (o : Option (List Nat)) : Prop := ∃ p, ToksAt l ss i o p
theorem toks_mk {l : List Nat} {ss : List (List Nat)} {p : Nat} (g : ∀ s ∈ ss, SgO s) (e : l.drop p = ss.flatten) (z : p ≤ l.length) : ∃ i o, ToksAt l ss i o p := by
  have hd : ∀ k, l[p + k]? = (ss.flatten)[k]? := fun k => by rw [← e, List.getElem?_drop]
  cases ss with
  | nil =>
    have h0 := hd 0
    refine ⟨p, none, g, e, z, ?_⟩
    unfold nxt
    rw [Nat.add_zero] at h0
    rw [h0]; rfl
  | cons s r =>
    have h0 := hd 0
    have h1 := hd 1
    rw [Nat.add_zero] at h0
    rcases g s (.head _) with ⟨c, hc, rfl⟩ | ⟨d, rfl⟩
    · refine ⟨p + 1, some [c], g, e, z, ?_⟩
      unfold nxt
      rw [h0]
      exact if_neg hc
    · refine ⟨p + 2, some [92, d], g, e, z, ?_⟩
      unfold nxt
      rw [h0]
      dsimp only [List.flatten_cons, List.cons_append, List.getElem?_cons_zero]
      rw [if_pos rfl, h1]
      rfl
theorem toks_at_nil {l : List Nat} {i p : Nat} {o : Option (List Nat)} (h : ToksAt l [] i o p) : o = none ∧ i = p := by
  have e := h.e
  have hn := h.n
  unfold nxt at hn
  have h0 : l[p]? = none := by
    rw [List.getElem?_eq_none_iff]
    exact List.drop_eq_nil_iff.mp e
  rw [h0] at hn
  cases hn
  exact ⟨rfl, rfl⟩
theorem toks_at_cons {l s : List Nat} {ss : List (List Nat)} {i p : Nat} {o : Option (List Nat)} (h : ToksAt l (s :: ss) i o p) : o = some s ∧ i = p + s.length ∧ i ≤ l.length ∧ ∃ i' o', nxt l i = some (i', o') ∧ ToksAt l ss i' o' i := by
  have hd : ∀ k, l[p + k]? = ((s :: ss).flatten)[k]? := fun k => by rw [← h.e, List.getElem?_drop]
  have hn := h.n
  have hs : SgO s := h.g s (.head _)
  have key : o = some s ∧ i = p + s.length := by
    have h0 := hd 0
    have h1 := hd 1
    rw [Nat.add_zero] at h0
    unfold nxt at hn
    rw [h0] at hn
    rcases hs with ⟨c, hc, rfl⟩ | ⟨d, rfl⟩
    · dsimp only [List.flatten_cons, List.cons_append, List.getElem?_cons_zero] at hn
      rw [if_neg hc] at hn
      cases hn
      exact ⟨rfl, rfl⟩
    · dsimp only [List.flatten_cons, List.cons_append, List.getElem?_cons_zero] at hn
      rw [if_pos rfl, h1] at hn
      cases hn
      exact ⟨rfl, rfl⟩
  obtain ⟨rfl, rfl⟩ := key
  have e2 : l.drop (p + s.length) = ss.flatten := by
    rw [← List.drop_drop, h.e, List.flatten_cons, List.drop_left]
  have hz : p + s.length ≤ l.length := by
    have q := congrArg List.length h.e
    rw [List.length_drop, List.flatten_cons, List.length_append] at q
    have := h.z
    omega
  obtain ⟨i', o', H⟩ := toks_mk (fun t ht => h.g t (.tail _ ht)) e2 hz
  exact ⟨rfl, rfl, hz, i', o', H.n, H⟩
theorem toks_start {l : List Nat} {ss : List (List Nat)} (g : ∀ s ∈ ss, SgO s) (e : l = ss.flatten) : ∃ i o, nxt l 0 = some (i, o) ∧ Toks l ss i o := by
  obtain ⟨i, o, h⟩ := toks_mk (l := l) (p := 0) g (e ▸ List.drop_zero) (Nat.zero_le _)
  exact ⟨i, o, h.n, 0, h⟩
theorem toks_nil {l : List Nat} {i : Nat} {o : Option (List Nat)} (h : Toks l [] i o) : o = none := h.elim fun _ h => (toks_at_nil h).1
theorem toks_le {l : List Nat} {ss : List (List Nat)} {i : Nat} {o : Option (List Nat)} (h : Toks l ss i o) : i ≤ l.length := by
  obtain ⟨p, h⟩ := h
  cases ss with
  | nil => rw [(toks_at_nil h).2]; exact h.z
  | cons s ss => exact (toks_at_cons h).2.2.1
theorem toks_cons {l s : List Nat} {ss : List (List Nat)} {i : Nat} {o : Option (List Nat)} (h : Toks l (s :: ss) i o) : o = some s ∧ SgO s ∧ ∃ i' o', nxt l i = some (i', o') ∧ Toks l ss i' o' := by
  obtain ⟨p, h⟩ := h
  obtain ⟨a, _, _, i', o', b, d⟩ := toks_at_cons h
  exact ⟨a, h.g s (.head _), i', o', b, i, d⟩
theorem toks_one {l : List Nat} {ss : List (List Nat)} {i i' : Nat} {o o' : Option (List Nat)} (h : Toks l ss i o) (h' : Toks l ss i' o') : i = i' ∧ o = o' := by
  obtain ⟨p, h⟩ := h
  obtain ⟨q, h'⟩ := h'
  have e : p = q := by
    have a := congrArg List.length h.e
    have b := congrArg List.length h'.e
    rw [List.length_drop] at a b
    have := h.z
    have := h'.z
    omega
  subst e
  have := h.n.symm.trans h'.n
  cases this
  exact ⟨rfl, rfl⟩
theorem toks_drop {l : List Nat} {ss : List (List Nat)} {i : Nat} {o : Option (List Nat)} (h : Toks l ss i o) : ∀ k, ∃ i' o', Toks l (ss.drop k) i' o' := by
  intro k
  induction k generalizing ss i o with
  | zero => exact ⟨i, o, h⟩
  | succ k ih =>
    cases ss with
    | nil => exact ⟨i, o, h⟩
    | cons s ss =>
      obtain ⟨_, _, i', o', _, h⟩ := toks_cons h
      exact ih h
/- getwhile -/
noncomputable def gwS (cs : List (List Nat)) (n : Nat) (ss : List (List Nat)) : List (List Nat) := (ss.take n).takeWhile fun s => decide (s ∈ cs)
theorem gw_stop {cs ss : List (List Nat)} {n k : Nat} (hk : k ≤ n) (hs : k ≤ ss.length) (ha : ∀ s ∈ ss.take k, s ∈ cs) (hb : k = n ∨ ∀ s r, ss.drop k = s :: r → s ∉ cs) : gwS cs n ss = ss.take k := by
  unfold gwS
  have e : ss.take n = ss.take k ++ (ss.drop k).take (n - k) := by
    rw [← List.take_append_drop k (ss.take n), List.take_take, Nat.min_eq_left hk, List.drop_take]
  rw [e, List.takeWhile_append_of_pos (fun s h => decide_eq_true (ha s h))]
  have : ((ss.drop k).take (n - k)).takeWhile (fun s => decide (s ∈ cs)) = [] := by
    rcases hb with rfl | hb
    · rw [Nat.sub_self]; rfl
    · cases hd : ss.drop k with
      | nil => rw [List.take_nil]; rfl
      | cons s r =>
        cases hm : n - k with
        | zero => rfl
        | succ m =>
          rw [List.take_succ_cons, List.takeWhile_cons_of_neg]
          simpa using hb s r hd
  rw [this, List.append_nil]
theorem gw_all {cs ss rest : List (List Nat)} (ha : ∀ s ∈ ss, s ∈ cs) : gwS cs ss.length (ss ++ rest) = ss := by
  have h := gw_stop (cs := cs) (ss := ss ++ rest) (n := ss.length) (k := ss.length) (Nat.le_refl _) (by rw [List.length_append]; exact Nat.le_add_right _ _) (by rw [List.take_left]; exact ha) (.inl rfl)
  rwa [List.take_left] at h
theorem mem_tw {α : Type} {p : α → Bool} {x : α} : ∀ {l : List α}, x ∈ l.takeWhile p → p x = true
  | [], h => by cases h
  | a :: r, h => by
    rw [List.takeWhile_cons] at h
    split at h
    · rcases List.mem_cons.mp h with rfl | h
      · assumption
      · exact mem_tw h
    · cases h
theorem gw_in {cs ss : List (List Nat)} {n : Nat} : ∀ s ∈ gwS cs n ss, s ∈ cs ∧ s ∈ ss := by
  intro s hs
  exact ⟨of_decide_eq_true (mem_tw (p := fun s => decide (s ∈ cs)) hs), List.mem_of_mem_take ((List.takeWhile_sublist _).mem hs)⟩
theorem gw_len {cs ss : List (List Nat)} {n : Nat} : (gwS cs n ss).length ≤ n := Nat.le_trans (List.takeWhile_sublist _).length_le (List.length_take_le _ _)
/- figures -/
noncomputable abbrev octA : List Nat := [48, 49, 50, 51, 52, 53, 54, 55]
noncomputable def sixA : List (List Nat) := hexA.map (fun k => [k]) ++ octA.map (fun k => [92, k])
noncomputable def eigA : List (List Nat) := octA.map (fun k => [k]) ++ octA.map (fun k => [92, k])
noncomputable def figF (v : Nat) : List Nat := if v % 3 = 0 then hexU else hexL
noncomputable def figG (F : List Nat) (b u k : Nat) : List Nat := if (u + k) % 3 = 0 ∧ u % b < 8 then [92, F.getD (u % b) 0] else [F.getD (u % b) 0]
noncomputable def figS (F : List Nat) (b v : Nat) : Nat → List (List Nat)
  | 0 => []
  | k + 1 => figG F b (v / b ^ k) k :: figS F b v k
theorem figS_len {F : List Nat} {b v : Nat} : ∀ k, (figS F b v k).length = k
  | 0 => rfl
  | k + 1 => congrArg Nat.succ (figS_len k)
noncomputable def bare (l : List Nat) : List Nat := l.filter (· != 92)
noncomputable def worV (b : Nat) (l : List Nat) : Nat := l.foldl (fun v c => v * b + valF c) 0
noncomputable def worL (l : List Nat) (b w : Nat) : Int := if (bare l).length = w then (worV b (bare l) : Int) else -1 - ((bare l).length : Int)
theorem fig_dig0 : ∀ F ∈ [hexL, hexU], ∀ d ∈ List.range 16, F.getD d 0 ≠ 92 ∧ valF (F.getD d 0) = d ∧ F.getD d 0 ∈ hexA ∧ (d < 8 → F.getD d 0 ∈ octA) ∧ ([F.getD d 0] ∈ sixA) ∧ (d < 8 → [92, F.getD d 0] ∈ sixA) ∧ (d < 8 → [F.getD d 0] ∈ eigA ∧ [92, F.getD d 0] ∈ eigA) := by decide +kernel
theorem fig_dig (F : List Nat) (hF : F ∈ [hexL, hexU]) (d : Nat) (hd : d < 16) : F.getD d 0 ≠ 92 ∧ valF (F.getD d 0) = d ∧ F.getD d 0 ∈ hexA ∧ (d < 8 → F.getD d 0 ∈ octA) ∧ ([F.getD d 0] ∈ sixA) ∧ (d < 8 → [92, F.getD d 0] ∈ sixA) ∧ (d < 8 → [F.getD d 0] ∈ eigA ∧ [92, F.getD d 0] ∈ eigA) := fig_dig0 F hF d (List.mem_range.mpr hd)
theorem figF_in (v : Nat) : figF v ∈ [hexL, hexU] := by
  unfold figF
  split
  · exact .tail _ (.head _)
  · exact .head _
theorem figG_bare {F : List Nat} (hF : F ∈ [hexL, hexU]) {b u k : Nat} (hb : 0 < b) (hb2 : b ≤ 16) : bare (figG F b u k) = [F.getD (u % b) 0] := by
  have h := (fig_dig F hF (u % b) (Nat.lt_of_lt_of_le (Nat.mod_lt _ hb) hb2)).1
  unfold figG bare
  generalize F.getD (u % b) 0 = x at *
  split <;> simp [h]
theorem figS_bare {F : List Nat} (hF : F ∈ [hexL, hexU]) {b v : Nat} (hb : 0 < b) (hb2 : b ≤ 16) : ∀ k, (bare (figS F b v k).flatten).length = k ∧ ∀ a, (bare (figS F b v k).flatten).foldl (fun v c => v * b + valF c) a = a * b ^ k + v % b ^ k := by
  intro k
  induction k with
  | zero => exact ⟨rfl, fun a => by rw [Nat.pow_zero, Nat.mod_one, Nat.mul_one]; rfl⟩
  | succ k ih =>
    have e : bare (figS F b v (k + 1)).flatten = [F.getD (v / b ^ k % b) 0] ++ bare (figS F b v k).flatten := by
      rw [← figG_bare hF (k := k) hb hb2]
      unfold bare
      rw [show (figS F b v (k + 1)) = figG F b (v / b ^ k) k :: figS F b v k from rfl, List.flatten_cons, List.filter_append]
    rw [e]
    refine ⟨by rw [List.length_append, ih.1]; exact Nat.add_comm 1 k, fun a => ?_⟩
    rw [List.foldl_append, List.foldl_cons, List.foldl_nil, ih.2, (fig_dig F hF (v / b ^ k % b) (Nat.lt_of_lt_of_le (Nat.mod_lt _ hb) hb2)).2.1, Nat.pow_succ, Nat.mod_mul, Nat.add_mul, Nat.mul_assoc, Nat.mul_comm b (b ^ k), Nat.add_assoc, Nat.mul_comm (v / b ^ k % b) (b ^ k), Nat.add_comm (b ^ k * _)]
theorem figS_in {F : List Nat} (hF : F ∈ [hexL, hexU]) {v : Nat} : ∀ k, ∀ s ∈ figS F 16 v k, s ∈ sixA
  | 0, s, h => by cases h
  | k + 1, s, h => by
    rcases List.mem_cons.mp h with rfl | h
    · have q := fig_dig F hF (v / 16 ^ k % 16) (Nat.mod_lt _ (by decide))
      unfold figG
      split
      · rename_i hc; exact q.2.2.2.2.2.1 hc.2
      · exact q.2.2.2.2.1
    · exact figS_in hF k s h
theorem figS_in8 {F : List Nat} (hF : F ∈ [hexL, hexU]) {v : Nat} : ∀ k, ∀ s ∈ figS F 8 v k, s ∈ eigA
  | 0, s, h => by cases h
  | k + 1, s, h => by
    rcases List.mem_cons.mp h with rfl | h
    · have hl : v / 8 ^ k % 8 < 8 := Nat.mod_lt _ (by decide)
      have q := (fig_dig F hF (v / 8 ^ k % 8) (Nat.lt_trans hl (by decide))).2.2.2.2.2.2 hl
      unfold figG
      split
      · exact q.2
      · exact q.1
    · exact figS_in8 hF k s h
theorem six_ok : ∀ s ∈ sixA, (∀ k ∈ s, k = 92 ∨ k ∈ hexA) ∧ s.length ≤ 2 ∧ (∀ k ∈ s, k < 256) ∧ (s.length = 1 ∧ s ≠ [92] ∨ s.head? = some 92 ∧ s.length = 2) := by decide +kernel
theorem eig_six : ∀ s ∈ eigA, s ∈ sixA := by decide +kernel
theorem six_sg {s : List Nat} (h : s ∈ sixA) : SgO s := by
  obtain ⟨_, _, _, h⟩ := six_ok s h
  rcases h with ⟨h1, h2⟩ | ⟨h1, h2⟩
  · match s, h1, h2 with
    | [c], _, h2 => exact .inl ⟨c, fun e => h2 (by rw [e]), rfl⟩
  · match s, h1, h2 with
    | [a, d], h1, _ => cases h1; exact .inr ⟨d, rfl⟩
theorem gw_bare {cs ss : List (List Nat)} {n : Nat} (hc : ∀ s ∈ cs, s ∈ sixA) : ∀ k ∈ bare (gwS cs n ss).flatten, k ∈ hexA := by
  intro k hk
  obtain ⟨h1, h2⟩ := List.mem_filter.mp hk
  obtain ⟨s, hs, hk⟩ := List.mem_flatten.mp h1
  exact ((six_ok s (hc s (gw_in s hs).1)).1 k hk).resolve_left (by simpa using h2)
theorem gw_flat {cs ss : List (List Nat)} {n : Nat} (hc : ∀ s ∈ cs, s ∈ sixA) : (gwS cs n ss).flatten.length ≤ 2 * n := by
  have h : ∀ t : List (List Nat), (∀ s ∈ t, s.length ≤ 2) → t.flatten.length ≤ 2 * t.length := by
    intro t
    induction t with
    | nil => exact fun _ => Nat.le_refl _
    | cons s t ih =>
      intro h
      rw [List.flatten_cons, List.length_append, List.length_cons, Nat.mul_succ, Nat.add_comm]
      exact Nat.add_le_add (ih fun x hx => h x (.tail _ hx)) (h s (.head _))
  exact Nat.le_trans (h _ fun s hs => (six_ok s (hc s (gw_in s hs).1)).2.1) (Nat.mul_le_mul_left 2 gw_len)
/- the pieces -/
noncomputable abbrev sA6 : List Nat := [97, 55, 102, 71, 46, 10]
noncomputable abbrev xuU : List Nat := [120, 117, 85]
noncomputable def wid (d : Nat) : Nat := if d = 120 then 2 else if d = 117 then 4 else 8
inductive Dec : List (List Nat) → List Int → Prop
  | nil : Dec [] []
  | one {c ss r} : c ≠ 92 → Dec ss r → Dec ([c] :: ss) ((c : Int) :: r)
  | hex {d ss r} : d ∈ xuU → Dec (ss.drop (gwS sixA (wid d) ss).length) r → Dec ([92, d] :: ss) (worL (gwS sixA (wid d) ss).flatten 16 (wid d) :: r)
  | oct {d ss r} : d ∈ hexA → Dec (ss.drop (gwS eigA 2 ss).length) r → Dec ([92, d] :: ss) (worL ([d] ++ (gwS eigA 2 ss).flatten) 8 3 :: r)
noncomputable def pc0 (n : Int) : Nat := (sA6[((n.fdiv 5).fmod 6).toNat]?).getD 97
noncomputable def pc4 (n : Int) : Nat := (octA[(((n.fdiv 5).fdiv 64).fmod 8).toNat]?).getD 48
noncomputable def pcX (n : Int) : Nat := (xuU[(n.fmod 5 - 1).toNat]?).getD 120
noncomputable def pcK (n : Int) : Nat := 2 ^ (n.fmod 5).toNat
noncomputable def pcV (n : Int) : Nat := ((n.fdiv 5).fmod ((16 ^ pcK n : Nat) : Int)).toNat
noncomputable def pcO (n : Int) : Nat := ((n.fdiv 5).fmod 64).toNat
noncomputable def pcS (n : Int) : List (List Nat) :=
  if n.fmod 5 = 0 then [[pc0 n]]
  else if n.fmod 5 = 4 then [92, pc4 n] :: figS (figF (pcO n)) 8 (pcO n) 2
  else [92, pcX n] :: figS (figF (pcV n)) 16 (pcV n) (pcK n)
noncomputable def pcW (n : Int) : Int :=
  if n.fmod 5 = 0 then (pc0 n : Int)
  else if n.fmod 5 = 4 then (n.fdiv 5).fmod 512
  else (n.fdiv 5).fmod ((16 ^ pcK n : Nat) : Int)
theorem getD_in {l : List Nat} {i d : Nat} (hd : d ∈ l) : (l[i]?).getD d ∈ l := by
  cases h : l[i]? with
  | none => exact hd
  | some x => exact List.mem_of_getElem? h
theorem sA6_ok : ∀ c ∈ sA6, c ≠ 92 ∧ c < 256 := by decide
theorem xuU_ok : ∀ c ∈ xuU, c < 256 ∧ 2 ≤ wid c ∧ wid c ≤ 8 := by decide
theorem oct_ok : ∀ c ∈ octA, c ∈ hexA ∧ c ≠ 92 ∧ c < 256 ∧ c ∉ xuU := by decide
theorem oct_val : ∀ k ∈ List.range 8, valF ((octA[k]?).getD 48) = k := by decide
theorem hex_ok : ∀ c ∈ hexA, c ≠ 92 ∧ c < 256 ∧ c ∉ xuU := by decide
theorem kind_lt (n : Int) : 0 ≤ n.fmod 5 ∧ n.fmod 5 < 5 := ⟨fmod_lo n (by decide), fmod_hi n (by decide)⟩
theorem kinds {n : Int} (h0 : ¬ n.fmod 5 = 0) (h4 : ¬ n.fmod 5 = 4) : ∃ d ∈ xuU, pcX n = d ∧ pcK n = wid d ∧ pcK n ≤ 8 ∧ 2 ≤ pcK n ∧ ((n.fmod 5).toNat = 1 ∨ (n.fmod 5).toNat = 2 ∨ (n.fmod 5).toNat = 3) := by
  have := kind_lt n
  have h : n.fmod 5 = 1 ∨ n.fmod 5 = 2 ∨ n.fmod 5 = 3 := by omega
  unfold pcX pcK
  rcases h with h | h | h <;> rw [h]
  · exact ⟨120, by decide, by decide, by decide, by decide, by decide, by decide⟩
  · exact ⟨117, by decide, by decide, by decide, by decide, by decide, by decide⟩
  · exact ⟨85, by decide, by decide, by decide, by decide, by decide, by decide⟩
theorem worL_fig {F : List Nat} (hF : F ∈ [hexL, hexU]) {b v w : Nat} (hb : 0 < b) (hb2 : b ≤ 16) : worL (figS F b v w).flatten b w = ((v % b ^ w : Nat) : Int) := by
  obtain ⟨h1, h2⟩ := figS_bare hF (v := v) hb hb2 w
  unfold worL worV
  rw [if_pos h1, h2, Nat.zero_mul, Nat.zero_add]
theorem worL_oct {F : List Nat} (hF : F ∈ [hexL, hexU]) {d v : Nat} (hd : d ≠ 92) : worL ([d] ++ (figS F 8 v 2).flatten) 8 3 = ((valF d * 64 + v % 64 : Nat) : Int) := by
  obtain ⟨h1, h2⟩ := figS_bare hF (b := 8) (v := v) (by decide) (by decide) 2
  have e : bare ([d] ++ (figS F 8 v 2).flatten) = d :: bare (figS F 8 v 2).flatten := by
    unfold bare
    simp [hd]
  unfold worL worV
  rw [e, List.length_cons, h1, if_pos rfl, List.foldl_cons, h2, Nat.zero_mul, Nat.zero_add]
theorem dec_piece {n : Int} {rest : List (List Nat)} {r : List Int} (h : Dec rest r) : Dec (pcS n ++ rest) (pcW n :: r) := by
  unfold pcS pcW
  by_cases h0 : n.fmod 5 = 0
  · rw [if_pos h0, if_pos h0]
    exact .one (sA6_ok _ (getD_in (by decide))).1 h
  · rw [if_neg h0, if_neg h0]
    by_cases h4 : n.fmod 5 = 4
    · rw [if_pos h4, if_pos h4]
      have hc : pc4 n ∈ octA := getD_in (by decide)
      have g : gwS eigA 2 (figS (figF (pcO n)) 8 (pcO n) 2 ++ rest) = figS (figF (pcO n)) 8 (pcO n) 2 := gw_all (figS_in8 (figF_in _) 2)
      have e : (n.fdiv 5).fmod 512 = worL ([pc4 n] ++ (gwS eigA 2 (figS (figF (pcO n)) 8 (pcO n) 2 ++ rest)).flatten) 8 3 := by
        rw [g, worL_oct (figF_in _) (oct_ok _ hc).2.1]
        have hv := oct_val (((n.fdiv 5).fdiv 64).fmod 8).toNat (List.mem_range.mpr (by have := fmod_hi ((n.fdiv 5).fdiv 64) (n := 8) (by decide); have := fmod_lo ((n.fdiv 5).fdiv 64) (n := 8) (by decide); omega))
        unfold pc4
        rw [hv]
        unfold pcO
        generalize n.fdiv 5 = v
        rw [Int.fdiv_eq_ediv_of_nonneg _ (by decide), Int.fmod_eq_emod_of_nonneg _ (by decide), Int.fmod_eq_emod_of_nonneg _ (by decide), Int.fmod_eq_emod_of_nonneg _ (by decide)]
        omega
      rw [e]
      rw [List.cons_append]
      refine .oct (oct_ok _ hc).1 ?_
      rw [g, List.drop_left]
      exact h
    · rw [if_neg h4, if_neg h4]
      obtain ⟨d, hd, e1, e2, _, _, _⟩ := kinds h0 h4
      have g : gwS sixA (wid d) (figS (figF (pcV n)) 16 (pcV n) (pcK n) ++ rest) = figS (figF (pcV n)) 16 (pcV n) (pcK n) := by
        have := gw_all (rest := rest) (figS_in (figF_in (pcV n)) (v := pcV n) (pcK n))
        rw [figS_len] at this
        rw [← e2]; exact this
      have e : (n.fdiv 5).fmod ((16 ^ pcK n : Nat) : Int) = worL (gwS sixA (wid d) (figS (figF (pcV n)) 16 (pcV n) (pcK n) ++ rest)).flatten 16 (wid d) := by
        have hp : (0 : Int) < ((16 ^ pcK n : Nat) : Int) := Int.ofNat_lt.mpr (Nat.pow_pos (by decide))
        have h1 := fmod_lo (n.fdiv 5) hp
        have h2 := fmod_hi (n.fdiv 5) hp
        rw [g, ← e2, worL_fig (figF_in _) (by decide) (by decide), Nat.mod_eq_of_lt]
        · unfold pcV; exact (Int.toNat_of_nonneg h1).symm
        · unfold pcV; omega
      rw [e1, e, List.cons_append]
      refine .hex hd ?_
      rw [g, List.drop_left]
      exact h
noncomputable def tlS (a b : Nat) : List (List Nat) := [[92, 55], [56], [92, 120]] ++ List.replicate a [55] ++ List.replicate b [92, 56]
noncomputable def tlW (a b : Nat) : List Int := [-2, 56, -1 - (a : Int)] ++ List.replicate b (-2)
theorem dec_tail {a b : Nat} (ha : a ≤ 1) (hb : b ≤ 1) : Dec (tlS a b) (tlW a b) := by
  have h8 : Dec (List.replicate b [92, 56]) (List.replicate b (-2)) := by
    match b, hb with
    | 0, _ => exact .nil
    | 1, _ => exact .oct (d := 56) (ss := []) (r := []) (by decide) .nil
  have hx : Dec ([92, 120] :: (List.replicate a [55] ++ List.replicate b [92, 56])) ((-1 - (a : Int)) :: List.replicate b (-2)) := by
    match a, b, ha, hb, h8 with
    | 0, 0, _, _, h8 => exact .hex (d := 120) (ss := []) (by decide) h8
    | 0, 1, _, _, h8 => exact .hex (d := 120) (ss := [[92, 56]]) (by decide) h8
    | 1, 0, _, _, h8 => exact .hex (d := 120) (ss := [[55]]) (by decide) h8
    | 1, 1, _, _, h8 => exact .hex (d := 120) (ss := [[55], [92, 56]]) (by decide) h8
  unfold tlS tlW
  exact .oct (d := 55) (ss := [56] :: [92, 120] :: (List.replicate a [55] ++ List.replicate b [92, 56])) (by decide) (.one (by decide) hx)
theorem dec_all {ms : List Int} {ts : List (List Nat)} {r : List Int} (h : Dec ts r) : Dec (ms.flatMap pcS ++ ts) (ms.map pcW ++ r) := by
  induction ms with
  | nil => exact h
  | cons n ms ih =>
    rw [List.flatMap_cons, List.append_assoc]
    exact dec_piece ih
/- what the pattern is: its signs, its letters, its length -/
noncomputable def SgA (s : List Nat) : Prop := SgO s ∧ ∀ k ∈ s, k < 256
theorem sgA_six {s : List Nat} (h : s ∈ sixA) : SgA s := ⟨six_sg h, (six_ok s h).2.2.1⟩
theorem pcS_ok (n : Int) : (∀ s ∈ pcS n, SgA s) ∧ (pcS n).length ≤ 9 := by
  have two : ∀ d < 256, SgA [92, d] := fun d hd => ⟨.inr ⟨d, rfl⟩, fun k hk => by
    rcases List.mem_cons.mp hk with rfl | hk
    · decide
    · rw [List.mem_singleton.mp hk]; exact hd⟩
  unfold pcS
  by_cases h0 : n.fmod 5 = 0
  · rw [if_pos h0]
    have hc : pc0 n ∈ sA6 := getD_in (by decide)
    exact ⟨fun s hs => by rw [List.mem_singleton.mp hs]; exact ⟨.inl ⟨_, (sA6_ok _ hc).1, rfl⟩, fun k hk => by rw [List.mem_singleton.mp hk]; exact (sA6_ok _ hc).2⟩, Nat.le_of_ble_eq_true rfl⟩
  · rw [if_neg h0]
    by_cases h4 : n.fmod 5 = 4
    · rw [if_pos h4]
      refine ⟨fun s hs => ?_, by rw [List.length_cons, figS_len]; decide⟩
      rcases List.mem_cons.mp hs with rfl | hs
      · exact two _ (oct_ok _ (getD_in (by decide))).2.2.1
      · exact sgA_six (eig_six s (figS_in8 (figF_in _) 2 s hs))
    · rw [if_neg h4]
      obtain ⟨d, hd, e1, _, e3, _⟩ := kinds h0 h4
      refine ⟨fun s hs => ?_, by rw [List.length_cons, figS_len]; exact Nat.succ_le_succ e3⟩
      rcases List.mem_cons.mp hs with rfl | hs
      · rw [e1]; exact two _ (xuU_ok d hd).1
      · exact sgA_six (figS_in (figF_in _) _ s hs)
theorem flat_two {ss : List (List Nat)} (h : ∀ s ∈ ss, SgA s) : ss.flatten.length ≤ 2 * ss.length := by
  induction ss with
  | nil => exact Nat.le_refl _
  | cons s t ih =>
    rw [List.flatten_cons, List.length_append, List.length_cons, Nat.mul_succ, Nat.add_comm]
    exact Nat.add_le_add (ih fun x hx => h x (.tail _ hx)) (h s (.head _)).1.pos.2
theorem pcs_ok (ms : List Int) : (∀ s ∈ ms.flatMap pcS, SgA s) ∧ (ms.flatMap pcS).length ≤ 9 * ms.length := by
  induction ms with
  | nil => exact ⟨fun s hs => (nomatch hs), Nat.le_refl _⟩
  | cons n ms ih =>
    refine ⟨fun s hs => ?_, ?_⟩
    · rcases List.mem_append.mp hs with h | h
      · exact (pcS_ok n).1 s h
      · exact ih.1 s h
    · rw [List.flatMap_cons, List.length_append, List.length_cons, Nat.mul_succ, Nat.add_comm]
      exact Nat.add_le_add ih.2 (pcS_ok n).2
theorem pcs_flat (ms : List Int) : (ms.flatMap pcS).flatten.length ≤ 18 * ms.length := by
  have h := flat_two (pcs_ok ms).1
  have := (pcs_ok ms).2
  omega
theorem tl_ok {a b : Nat} (ha : a ≤ 1) (hb : b ≤ 1) : (∀ s ∈ tlS a b, SgA s) ∧ (tlS a b).length ≤ 5 := by
  have h : ∀ s ∈ ([[92, 55], [56], [92, 120], [55], [92, 56]] : List (List Nat)), SgA s := by
    intro s hs
    simp only [List.mem_cons, List.not_mem_nil, or_false] at hs
    rcases hs with rfl | rfl | rfl | rfl | rfl
    · exact ⟨.inr ⟨_, rfl⟩, by decide⟩
    · exact ⟨.inl ⟨_, by decide, rfl⟩, by decide⟩
    · exact ⟨.inr ⟨_, rfl⟩, by decide⟩
    · exact ⟨.inl ⟨_, by decide, rfl⟩, by decide⟩
    · exact ⟨.inr ⟨_, rfl⟩, by decide⟩
  match a, b, ha, hb with
  | 0, 0, _, _ => exact ⟨fun s hs => h s (by revert s; decide), by decide⟩
  | 0, 1, _, _ => exact ⟨fun s hs => h s (by revert s; decide), by decide⟩
  | 1, 0, _, _ => exact ⟨fun s hs => h s (by revert s; decide), by decide⟩
  | 1, 1, _, _ => exact ⟨fun s hs => h s (by revert s; decide), by decide⟩
/- what the functions' loops keep -/
theorem fdiv_nat {u b : Nat} : ((u : Nat) : Int).fdiv ((b : Nat) : Int) = ((u / b : Nat) : Int) := by rw [Int.fdiv_eq_ediv_of_nonneg _ (Int.natCast_nonneg b)]; rfl
theorem fmod_nat {u b : Nat} : ((u : Nat) : Int).fmod ((b : Nat) : Int) = ((u % b : Nat) : Int) := by rw [Int.fmod_eq_emod_of_nonneg _ (Int.natCast_nonneg b)]; rfl
theorem fig_div {v b k : Nat} : (((v / b ^ k : Nat) : Int)).fdiv ((b : Nat) : Int) = ((v / b ^ (k + 1) : Nat) : Int) := by rw [fdiv_nat, Nat.div_div_eq_div_mul, Nat.pow_succ]
theorem figF_no {v : Nat} (h : ((v : Nat) : Int).fmod 3 ≠ 0) : figF v = hexL := by
  unfold figF
  rw [if_neg]
  intro e
  exact h (by rw [show (3 : Int) = ((3 : Nat) : Int) from rfl, fmod_nat, e]; rfl)
theorem figF_yes {v : Nat} (h : ¬ ((v : Nat) : Int).fmod 3 ≠ 0) : figF v = hexU := by
  unfold figF
  rw [if_pos]
  have e := Decidable.not_not.mp h
  rw [show (3 : Int) = ((3 : Nat) : Int) from rfl, fmod_nat] at e
  exact Int.ofNat.inj e
theorem figF_len (v : Nat) : (figF v).length = 16 := by unfold figF; split <;> rfl
section
variable {F : List Nat} {b u k x : Nat}
theorem fig_x (hx : F[(((u : Nat) : Int).fmod ((b : Nat) : Int)).toNat]? = some x) : F.getD (u % b) 0 = x := by
  rw [fmod_nat, Int.toNat_natCast] at hx
  rw [List.getD_eq_getElem?_getD, hx]; rfl
theorem fig_three : (((u : Nat) : Int) + ((k : Nat) : Int)).fmod 3 = 0 ↔ (u + k) % 3 = 0 := by
  rw [show ((u : Nat) : Int) + ((k : Nat) : Int) = ((u + k : Nat) : Int) from rfl, show (3 : Int) = ((3 : Nat) : Int) from rfl, fmod_nat]
  exact ⟨fun h => Int.ofNat.inj h, fun h => by rw [h]; rfl⟩
theorem fig_eight : ((u : Nat) : Int).fmod ((b : Nat) : Int) < 8 ↔ u % b < 8 := by
  rw [fmod_nat]; exact Int.ofNat_lt
theorem fig_yes (h1 : (((u : Nat) : Int) + ((k : Nat) : Int)).fmod 3 = 0) (h2 : ((u : Nat) : Int).fmod ((b : Nat) : Int) < 8) (hx : F[(((u : Nat) : Int).fmod ((b : Nat) : Int)).toNat]? = some x) : [92] ++ [x] = figG F b u k := by
  unfold figG
  rw [if_pos ⟨fig_three.mp h1, fig_eight.mp h2⟩, fig_x hx]; rfl
theorem fig_no1 (h1 : ¬ (((u : Nat) : Int) + ((k : Nat) : Int)).fmod 3 = 0) (hx : F[(((u : Nat) : Int).fmod ((b : Nat) : Int)).toNat]? = some x) : [] ++ [x] = figG F b u k := by
  unfold figG
  rw [if_neg (fun h => h1 (fig_three.mpr h.1)), fig_x hx]; rfl
theorem fig_no2 (h2 : ¬ ((u : Nat) : Int).fmod ((b : Nat) : Int) < 8) (hx : F[(((u : Nat) : Int).fmod ((b : Nat) : Int)).toNat]? = some x) : [] ++ [x] = figG F b u k := by
  unfold figG
  rw [if_neg (fun h => h2 (fig_eight.mpr h.2)), fig_x hx]; rfl
end
theorem figS_flat {F : List Nat} {b v : Nat} : ∀ k, (figS F b v k).flatten.length ≤ 2 * k
  | 0 => Nat.le_refl _
  | k + 1 => by
    rw [show (figS F b v (k + 1)) = figG F b (v / b ^ k) k :: figS F b v k from rfl, List.flatten_cons, List.length_append, Nat.mul_succ, Nat.add_comm]
    refine Nat.add_le_add (figS_flat k) ?_
    unfold figG
    split <;> exact Nat.le_of_ble_eq_true rfl
theorem toks_flat {l : List Nat} {ss : List (List Nat)} {i : Nat} {o : Option (List Nat)} (h : Toks l ss i o) (k : Nat) : (ss.take k).flatten.length ≤ l.length := by
  obtain ⟨p, h⟩ := h
  have a := congrArg List.length h.e
  have b := congrArg (fun t => (List.flatten t).length) (List.take_append_drop k ss)
  rw [List.flatten_append, List.length_append] at b
  rw [List.length_drop] at a
  omega
theorem take_step {ss : List (List Nat)} {k : Nat} {s : List Nat} {r : List (List Nat)} (h : ss.drop k = s :: r) : k < ss.length ∧ ss.take (k + 1) = ss.take k ++ [s] ∧ ss.drop (k + 1) = r := by
  have hk : k < ss.length := by
    apply Decidable.byContradiction
    intro hn
    rw [List.drop_eq_nil_iff.mpr (Nat.le_of_not_lt hn)] at h
    cases h
  rw [List.drop_eq_getElem_cons hk] at h
  injection h with h1 h2
  exact ⟨hk, by rw [List.take_add_one, List.getElem?_eq_getElem hk, h1]; rfl, h2⟩
theorem wor_step {b : Nat} {l : List Nat} {k c : Nat} (h : l[k]? = some c) : ((worV b (l.take k) : Nat) : Int) * ((b : Nat) : Int) + ((valF c : Nat) : Int) = ((worV b (l.take (k + 1)) : Nat) : Int) := by
  unfold worV
  rw [List.take_add_one, h, List.foldl_append]
  rfl
theorem worL_yes {s : List Nat} {b w : Nat} (h : (bare s).length = w) : ((worV b ((bare s).take (bare s).length) : Nat) : Int) = worL s b w := by
  unfold worL
  rw [if_pos h, List.take_length]
theorem worL_no {s : List Nat} {b w : Nat} (h : ¬ (((bare s).length : Nat) : Int) = ((w : Nat) : Int)) : -1 - (((bare s).length : Nat) : Int) = worL s b w := by
  unfold worL
  rw [if_neg fun e => h (by rw [e])]
theorem bare_len (s : List Nat) : (bare s).length ≤ s.length := List.length_filter_le _ _
/- a turn of the law's first loop -/
theorem get_at {l : List Nat} {i d : Nat} (h : i < l.length) : l[i]? = some ((l[i]?).getD d) := by rw [List.getElem?_eq_getElem h]; rfl
theorem pc0_at (n : Int) : sA6[((n.fdiv 5).fmod 6).toNat]? = some (pc0 n) :=
  get_at (by have h1 := fmod_lo (n.fdiv 5) (n := 6) (by decide); have h2 := fmod_hi (n.fdiv 5) (n := 6) (by decide); show _ < 6; omega)
theorem pc4_at (n : Int) : octA[(((n.fdiv 5).fdiv 64).fmod 8).toNat]? = some (pc4 n) :=
  get_at (by have h1 := fmod_lo ((n.fdiv 5).fdiv 64) (n := 8) (by decide); have h2 := fmod_hi ((n.fdiv 5).fdiv 64) (n := 8) (by decide); show _ < 8; omega)
theorem pcX_at {n : Int} (h0 : ¬ n.fmod 5 = 0) (h4 : ¬ n.fmod 5 = 4) : xuU[(n.fmod 5 - 1).toNat]? = some (pcX n) ∧ 0 ≤ n.fmod 5 - 1 := by
  have := kind_lt n
  exact ⟨get_at (by show _ < 3; omega), by omega⟩
theorem pow_nat {b k : Nat} : ((b : Nat) : Int) ^ k = ((b ^ k : Nat) : Int) := (Int.natCast_pow b k).symm
theorem pcK_at {n : Int} : (2 : Int) ^ (n.fmod 5).toNat = ((pcK n : Nat) : Int) := pow_nat (b := 2)
theorem pcM_at {w : Nat} : (16 : Int) ^ ((w : Nat) : Int).toNat = ((16 ^ w : Nat) : Int) := pow_nat (b := 16)
theorem pcK_bits (n : Int) : (Builtin.Int.intBits 2 : Int) * n.fmod 5 ≤ 2 ^ 27 := by
  have h := kind_lt n
  have e : Builtin.Int.intBits 2 ≤ 10 := by decide +kernel
  have e2 : (Builtin.Int.intBits 2 : Int) ≤ 10 := Int.ofNat_le.mpr e
  have h2 : (Builtin.Int.intBits 2 : Int) * n.fmod 5 ≤ 10 * 5 := Int.mul_le_mul e2 (Int.le_of_lt h.2) h.1 (by decide)
  exact Int.le_trans h2 (by decide)
theorem pcM_bits {w : Nat} (h : w ≤ 8) : (Builtin.Int.intBits 16 : Int) * ((w : Nat) : Int) ≤ 2 ^ 27 := by
  have e : Builtin.Int.intBits 16 ≤ 10 := by decide +kernel
  have h2 : (Builtin.Int.intBits 16 : Int) * ((w : Nat) : Int) ≤ 10 * 8 := Int.mul_le_mul (Int.ofNat_le.mpr e) (Int.ofNat_le.mpr h) (Int.natCast_nonneg _) (by decide)
  exact Int.le_trans h2 (by decide)
theorem pow_pos16 {w : Nat} : (0 : Int) < ((16 ^ w : Nat) : Int) := Int.ofNat_lt.mpr (Nat.pow_pos (by decide))
theorem pcV_at (n : Int) : (n.fdiv 5).fmod ((16 ^ pcK n : Nat) : Int) = ((pcV n : Nat) : Int) := (Int.toNat_of_nonneg (fmod_lo _ pow_pos16)).symm
theorem pcO_at (n : Int) : (n.fdiv 5).fmod 64 = ((pcO n : Nat) : Int) := (Int.toNat_of_nonneg (fmod_lo _ (by decide))).symm
theorem pcs_0 {n : Int} (h0 : n.fmod 5 = 0) : (pcS n).flatten = [pc0 n] ∧ pcW n = ((pc0 n : Nat) : Int) := by
  unfold pcS pcW
  rw [if_pos h0, if_pos h0]
  exact ⟨rfl, rfl⟩
theorem pcs_4 {n : Int} (h0 : ¬ n.fmod 5 = 0) (h4 : n.fmod 5 = 4) : (pcS n).flatten = [92] ++ [pc4 n] ++ (figS (figF (pcO n)) 8 (pcO n) 2).flatten ∧ pcW n = (n.fdiv 5).fmod 512 := by
  unfold pcS pcW
  rw [if_neg h0, if_neg h0, if_pos h4, if_pos h4]
  exact ⟨rfl, rfl⟩
theorem pcs_x {n : Int} (h0 : ¬ n.fmod 5 = 0) (h4 : ¬ n.fmod 5 = 4) : (pcS n).flatten = [92] ++ [pcX n] ++ (figS (figF (pcV n)) 16 (pcV n) (pcK n)).flatten ∧ pcW n = (n.fdiv 5).fmod ((16 ^ pcK n : Nat) : Int) := by
  unfold pcS pcW
  rw [if_neg h0, if_neg h0, if_neg h4, if_neg h4]
  exact ⟨rfl, rfl⟩
theorem piece_step {ms : List Int} {k : Nat} {n : Int} (h : ms[k]? = some n) : ((ms.take (k + 1)).flatMap pcS).flatten = ((ms.take k).flatMap pcS).flatten ++ (pcS n).flatten ∧ ((ms.take (k + 1)).map pcW).map V.int = ((ms.take k).map pcW).map V.int ++ [V.int (pcW n)] := by
  rw [List.take_add_one, h]
  refine ⟨?_, ?_⟩
  · rw [List.flatMap_append, List.flatten_append]
    show _ ++ ([n].flatMap pcS).flatten = _
    rw [List.flatMap_cons, List.flatMap_nil, List.append_nil]
  · rw [List.map_append, List.map_append]; rfl
theorem tail_text {ss : List (List Nat)} {a b : Nat} : ss.flatten ++ ([92, 55, 56, 92, 120] ++ (List.replicate a [55]).flatten ++ (List.replicate b [92, 56]).flatten) = (ss ++ tlS a b).flatten := by
  unfold tlS
  rw [List.flatten_append, List.flatten_append, List.flatten_append]
  rfl
theorem tail_want {ws : List Int} {a b : Nat} {x : Int} (h : x = ((a : Nat) : Int)) : ws.map V.int ++ ([V.int (-2), V.int 56, V.int (-1 - x)] ++ List.replicate b (V.int (-2))) = (ws ++ tlW a b).map V.int := by
  subst h
  unfold tlW
  rw [List.map_append, List.map_append, List.map_replicate]
  rfl
theorem Dec.nil_eq {r : List Int} (h : Dec [] r) : r = [] := by cases h; rfl
end Mine
end
section
open PySem PySem.W PyProof.Rows PySem.Spec PySem.Calls
set_option Elab.async false
set_option linter.unusedVariables false
set_option pp.maxSteps 600
namespace Mine
set_option maxRecDepth 100000
set_option maxHeartbeats 4000000
structure GK (g : G) : Prop where
  hp : g.prog = PySem.Challenge.rw_kq0017_05.row.prog
  hK : g.K = Mine.hd.heap_39 g.w.params
  tk : TkF g 133 58 [Str.ofString "istext", Str.ofString "string", Str.ofString "decoded_string", Str.ofString "index", Str.ofString "next"] [(Str.ofString "_Tokenizer__next", 65), (Str.ofString "get", 79), (Str.ofString "getwhile", 86)] [(Str.ofString "Tokenizer", 133), (Str.ofString "_law_octets", 142), (Str.ofString "_law_figures", 149), (Str.ofString "_law_worth", 156)] [(Str.ofString "isinstance", .builtin "isinstance"), (Str.ofString "str", .type "str"), (Str.ofString "IndexError", .type "IndexError"), (Str.ofString "len", .builtin "len"), (Str.ofString "range", .type "range"), (Str.ofString "sum", .builtin "sum"), (Str.ofString "bytes", .type "bytes"), (Str.ofString "ord", .builtin "ord"), (Str.ofString "list", .type "list"), (Str.ofString "frozenset", .type "frozenset")]
  ex0 : exmOne g.K (.type "IndexError") (.type "IndexError") = some true
theorem gk_key : ∀ (g : G), g.prog = PySem.Challenge.rw_kq0017_05.row.prog → g.K = Mine.hd.heap_39 g.w.params → (plainGet g.K 133 (Str.ofString "istext") = true
   ∧ findIn g.K (.ref 133) (Str.ofString "istext") = some none
   ∧ takerIn g.K 133 (Str.ofString "istext") = some none
   ∧ plainGet g.K 133 (Str.ofString "string") = true
   ∧ findIn g.K (.ref 133) (Str.ofString "string") = some none
   ∧ takerIn g.K 133 (Str.ofString "string") = some none
   ∧ plainGet g.K 133 (Str.ofString "decoded_string") = true
   ∧ findIn g.K (.ref 133) (Str.ofString "decoded_string") = some none
   ∧ takerIn g.K 133 (Str.ofString "decoded_string") = some none
   ∧ plainGet g.K 133 (Str.ofString "index") = true
   ∧ findIn g.K (.ref 133) (Str.ofString "index") = some none
   ∧ takerIn g.K 133 (Str.ofString "index") = some none
   ∧ plainGet g.K 133 (Str.ofString "next") = true
   ∧ findIn g.K (.ref 133) (Str.ofString "next") = some none
   ∧ takerIn g.K 133 (Str.ofString "next") = some none
   ∧ plainGet g.K 133 (Str.ofString "_Tokenizer__next") = true
   ∧ findIn g.K (.ref 133) (Str.ofString "_Tokenizer__next") = some (some (.ref 65))
   ∧ isFn g.K (.ref 65) = true
   ∧ keepIn g.K (.ref 65) = true
   ∧ plainGet g.K 133 (Str.ofString "get") = true
   ∧ findIn g.K (.ref 133) (Str.ofString "get") = some (some (.ref 79))
   ∧ isFn g.K (.ref 79) = true
   ∧ keepIn g.K (.ref 79) = true
   ∧ plainGet g.K 133 (Str.ofString "getwhile") = true
   ∧ findIn g.K (.ref 133) (Str.ofString "getwhile") = some (some (.ref 86))
   ∧ isFn g.K (.ref 86) = true
   ∧ keepIn g.K (.ref 86) = true
   ∧ nsIn g.K mainGlobals (Str.ofString "Tokenizer") = some (some (.ref 133))
   ∧ keepIn g.K (.ref 133) = true
   ∧ nsIn g.K mainGlobals (Str.ofString "_law_octets") = some (some (.ref 142))
   ∧ keepIn g.K (.ref 142) = true
   ∧ nsIn g.K mainGlobals (Str.ofString "_law_figures") = some (some (.ref 149))
   ∧ keepIn g.K (.ref 149) = true
   ∧ nsIn g.K mainGlobals (Str.ofString "_law_worth") = some (some (.ref 156))
   ∧ keepIn g.K (.ref 156) = true
   ∧ nsIn g.K mainGlobals (Str.ofString "isinstance") = some none
   ∧ nsIn g.K mainGlobals (Str.ofString "str") = some none
   ∧ nsIn g.K mainGlobals (Str.ofString "IndexError") = some none
   ∧ nsIn g.K mainGlobals (Str.ofString "len") = some none
   ∧ nsIn g.K mainGlobals (Str.ofString "range") = some none
   ∧ nsIn g.K mainGlobals (Str.ofString "sum") = some none
   ∧ nsIn g.K mainGlobals (Str.ofString "bytes") = some none
   ∧ nsIn g.K mainGlobals (Str.ofString "ord") = some none
   ∧ nsIn g.K mainGlobals (Str.ofString "list") = some none
   ∧ nsIn g.K mainGlobals (Str.ofString "frozenset") = some none
   ∧ noGet g.K none = true
   ∧ hasDictIn g.K 133 = true
   ∧ findIn g.K (.ref 133) "__setattr__" = some (some (.builtin "object.__setattr__"))
   ∧ plainOver g.K 133 = true
   ∧ makesIn g.K 133 = true
   ∧ findIn g.K (.ref 133) "__init__" = some (some (.ref 58))
   ∧ isFn g.K (.ref 58) = true
   ∧ exmOne g.K (.type "IndexError") (.type "IndexError") = some true) := by
  k_fill
  intro g hp hK
  rw [hK]
  refine ⟨?_, ?_, ?_, ?_, ?_, ?_, ?_, ?_, ?_, ?_, ?_, ?_, ?_, ?_, ?_, ?_, ?_, ?_, ?_, ?_, ?_, ?_, ?_, ?_, ?_, ?_, ?_, ?_, ?_, ?_, ?_, ?_, ?_, ?_, ?_, ?_, ?_, ?_, ?_, ?_, ?_, ?_, ?_, ?_, ?_, ?_, ?_, ?_, ?_, ?_, ?_, ?_, ?_⟩
  all_goals first | k_is | kts_exm
theorem gk : ∀ (g : G), g.prog = PySem.Challenge.rw_kq0017_05.row.prog → g.K = Mine.hd.heap_39 g.w.params → GK g := fun g hp hK => ⟨hp, hK, ⟨List.forall_mem_cons.mpr ⟨⟨((gk_key g hp hK).1), ((gk_key g hp hK).2.1), ((gk_key g hp hK).2.2.1)⟩, List.forall_mem_cons.mpr ⟨⟨((gk_key g hp hK).2.2.2.1), ((gk_key g hp hK).2.2.2.2.1), ((gk_key g hp hK).2.2.2.2.2.1)⟩, List.forall_mem_cons.mpr ⟨⟨((gk_key g hp hK).2.2.2.2.2.2.1), ((gk_key g hp hK).2.2.2.2.2.2.2.1), ((gk_key g hp hK).2.2.2.2.2.2.2.2.1)⟩, List.forall_mem_cons.mpr ⟨⟨((gk_key g hp hK).2.2.2.2.2.2.2.2.2.1), ((gk_key g hp hK).2.2.2.2.2.2.2.2.2.2.1), ((gk_key g hp hK).2.2.2.2.2.2.2.2.2.2.2.1)⟩, List.forall_mem_cons.mpr ⟨⟨((gk_key g hp hK).2.2.2.2.2.2.2.2.2.2.2.2.1), ((gk_key g hp hK).2.2.2.2.2.2.2.2.2.2.2.2.2.1), ((gk_key g hp hK).2.2.2.2.2.2.2.2.2.2.2.2.2.2.1)⟩, fun _ h => nomatch h⟩⟩⟩⟩⟩, List.forall_mem_cons.mpr ⟨⟨((gk_key g hp hK).2.2.2.2.2.2.2.2.2.2.2.2.2.2.2.1), ((gk_key g hp hK).2.2.2.2.2.2.2.2.2.2.2.2.2.2.2.2.1), ((gk_key g hp hK).2.2.2.2.2.2.2.2.2.2.2.2.2.2.2.2.2.1), ((gk_key g hp hK).2.2.2.2.2.2.2.2.2.2.2.2.2.2.2.2.2.2.1)⟩, List.forall_mem_cons.mpr ⟨⟨((gk_key g hp hK).2.2.2.2.2.2.2.2.2.2.2.2.2.2.2.2.2.2.2.1), ((gk_key g hp hK).2.2.2.2.2.2.2.2.2.2.2.2.2.2.2.2.2.2.2.2.1), ((gk_key g hp hK).2.2.2.2.2.2.2.2.2.2.2.2.2.2.2.2.2.2.2.2.2.1), ((gk_key g hp hK).2.2.2.2.2.2.2.2.2.2.2.2.2.2.2.2.2.2.2.2.2.2.1)⟩, List.forall_mem_cons.mpr ⟨⟨((gk_key g hp hK).2.2.2.2.2.2.2.2.2.2.2.2.2.2.2.2.2.2.2.2.2.2.2.1), ((gk_key g hp hK).2.2.2.2.2.2.2.2.2.2.2.2.2.2.2.2.2.2.2.2.2.2.2.2.1), ((gk_key g hp hK).2.2.2.2.2.2.2.2.2.2.2.2.2.2.2.2.2.2.2.2.2.2.2.2.2.1), ((gk_key g hp hK).2.2.2.2.2.2.2.2.2.2.2.2.2.2.2.2.2.2.2.2.2.2.2.2.2.2.1)⟩, fun _ h => nomatch h⟩⟩⟩, List.forall_mem_cons.mpr ⟨⟨((gk_key g hp hK).2.2.2.2.2.2.2.2.2.2.2.2.2.2.2.2.2.2.2.2.2.2.2.2.2.2.2.1), ((gk_key g hp hK).2.2.2.2.2.2.2.2.2.2.2.2.2.2.2.2.2.2.2.2.2.2.2.2.2.2.2.2.1), by decide⟩, List.forall_mem_cons.mpr ⟨⟨((gk_key g hp hK).2.2.2.2.2.2.2.2.2.2.2.2.2.2.2.2.2.2.2.2.2.2.2.2.2.2.2.2.2.1), ((gk_key g hp hK).2.2.2.2.2.2.2.2.2.2.2.2.2.2.2.2.2.2.2.2.2.2.2.2.2.2.2.2.2.2.1), by decide⟩, List.forall_mem_cons.mpr ⟨⟨((gk_key g hp hK).2.2.2.2.2.2.2.2.2.2.2.2.2.2.2.2.2.2.2.2.2.2.2.2.2.2.2.2.2.2.2.1), ((gk_key g hp hK).2.2.2.2.2.2.2.2.2.2.2.2.2.2.2.2.2.2.2.2.2.2.2.2.2.2.2.2.2.2.2.2.1), by decide⟩, List.forall_mem_cons.mpr ⟨⟨((gk_key g hp hK).2.2.2.2.2.2.2.2.2.2.2.2.2.2.2.2.2.2.2.2.2.2.2.2.2.2.2.2.2.2.2.2.2.1), ((gk_key g hp hK).2.2.2.2.2.2.2.2.2.2.2.2.2.2.2.2.2.2.2.2.2.2.2.2.2.2.2.2.2.2.2.2.2.2.1), by decide⟩, fun _ h => nomatch h⟩⟩⟩⟩, List.forall_mem_cons.mpr ⟨⟨((gk_key g hp hK).2.2.2.2.2.2.2.2.2.2.2.2.2.2.2.2.2.2.2.2.2.2.2.2.2.2.2.2.2.2.2.2.2.2.2.1), by first | exact PyProof.Rows.Boot.«isinstance» | boot_fast, by decide, by decide⟩, List.forall_mem_cons.mpr ⟨⟨((gk_key g hp hK).2.2.2.2.2.2.2.2.2.2.2.2.2.2.2.2.2.2.2.2.2.2.2.2.2.2.2.2.2.2.2.2.2.2.2.2.1), by first | exact PyProof.Rows.Boot.«str» | boot_fast, by decide, by decide⟩, List.forall_mem_cons.mpr ⟨⟨((gk_key g hp hK).2.2.2.2.2.2.2.2.2.2.2.2.2.2.2.2.2.2.2.2.2.2.2.2.2.2.2.2.2.2.2.2.2.2.2.2.2.1), by first | exact PyProof.Rows.Boot.«IndexError» | boot_fast, by decide, by decide⟩, List.forall_mem_cons.mpr ⟨⟨((gk_key g hp hK).2.2.2.2.2.2.2.2.2.2.2.2.2.2.2.2.2.2.2.2.2.2.2.2.2.2.2.2.2.2.2.2.2.2.2.2.2.2.1), by first | exact PyProof.Rows.Boot.«len» | boot_fast, by decide, by decide⟩, List.forall_mem_cons.mpr ⟨⟨((gk_key g hp hK).2.2.2.2.2.2.2.2.2.2.2.2.2.2.2.2.2.2.2.2.2.2.2.2.2.2.2.2.2.2.2.2.2.2.2.2.2.2.2.1), by first | exact PyProof.Rows.Boot.«range» | boot_fast, by decide, by decide⟩, List.forall_mem_cons.mpr ⟨⟨((gk_key g hp hK).2.2.2.2.2.2.2.2.2.2.2.2.2.2.2.2.2.2.2.2.2.2.2.2.2.2.2.2.2.2.2.2.2.2.2.2.2.2.2.2.1), by first | exact PyProof.Rows.Boot.«sum» | boot_fast, by decide, by decide⟩, List.forall_mem_cons.mpr ⟨⟨((gk_key g hp hK).2.2.2.2.2.2.2.2.2.2.2.2.2.2.2.2.2.2.2.2.2.2.2.2.2.2.2.2.2.2.2.2.2.2.2.2.2.2.2.2.2.1), by first | exact PyProof.Rows.Boot.«bytes» | boot_fast, by decide, by decide⟩, List.forall_mem_cons.mpr ⟨⟨((gk_key g hp hK).2.2.2.2.2.2.2.2.2.2.2.2.2.2.2.2.2.2.2.2.2.2.2.2.2.2.2.2.2.2.2.2.2.2.2.2.2.2.2.2.2.2.1), by first | exact PyProof.Rows.Boot.«ord» | boot_fast, by decide, by decide⟩, List.forall_mem_cons.mpr ⟨⟨((gk_key g hp hK).2.2.2.2.2.2.2.2.2.2.2.2.2.2.2.2.2.2.2.2.2.2.2.2.2.2.2.2.2.2.2.2.2.2.2.2.2.2.2.2.2.2.2.1), by first | exact PyProof.Rows.Boot.«list» | boot_fast, by decide, by decide⟩, List.forall_mem_cons.mpr ⟨⟨((gk_key g hp hK).2.2.2.2.2.2.2.2.2.2.2.2.2.2.2.2.2.2.2.2.2.2.2.2.2.2.2.2.2.2.2.2.2.2.2.2.2.2.2.2.2.2.2.2.1), by first | exact PyProof.Rows.Boot.«frozenset» | boot_fast, by decide, by decide⟩, fun _ h => nomatch h⟩⟩⟩⟩⟩⟩⟩⟩⟩⟩, ((gk_key g hp hK).2.2.2.2.2.2.2.2.2.2.2.2.2.2.2.2.2.2.2.2.2.2.2.2.2.2.2.2.2.2.2.2.2.2.2.2.2.2.2.2.2.2.2.2.2.1), ((gk_key g hp hK).2.2.2.2.2.2.2.2.2.2.2.2.2.2.2.2.2.2.2.2.2.2.2.2.2.2.2.2.2.2.2.2.2.2.2.2.2.2.2.2.2.2.2.2.2.2.1), ((gk_key g hp hK).2.2.2.2.2.2.2.2.2.2.2.2.2.2.2.2.2.2.2.2.2.2.2.2.2.2.2.2.2.2.2.2.2.2.2.2.2.2.2.2.2.2.2.2.2.2.2.1), ((gk_key g hp hK).2.2.2.2.2.2.2.2.2.2.2.2.2.2.2.2.2.2.2.2.2.2.2.2.2.2.2.2.2.2.2.2.2.2.2.2.2.2.2.2.2.2.2.2.2.2.2.2.1), ((gk_key g hp hK).2.2.2.2.2.2.2.2.2.2.2.2.2.2.2.2.2.2.2.2.2.2.2.2.2.2.2.2.2.2.2.2.2.2.2.2.2.2.2.2.2.2.2.2.2.2.2.2.2.1), ((gk_key g hp hK).2.2.2.2.2.2.2.2.2.2.2.2.2.2.2.2.2.2.2.2.2.2.2.2.2.2.2.2.2.2.2.2.2.2.2.2.2.2.2.2.2.2.2.2.2.2.2.2.2.2.1), ((gk_key g hp hK).2.2.2.2.2.2.2.2.2.2.2.2.2.2.2.2.2.2.2.2.2.2.2.2.2.2.2.2.2.2.2.2.2.2.2.2.2.2.2.2.2.2.2.2.2.2.2.2.2.2.2.1)⟩, ((gk_key g hp hK).2.2.2.2.2.2.2.2.2.2.2.2.2.2.2.2.2.2.2.2.2.2.2.2.2.2.2.2.2.2.2.2.2.2.2.2.2.2.2.2.2.2.2.2.2.2.2.2.2.2.2.2)⟩
theorem lit0 : Str.ofString "" = tx [] := by decide +kernel
theorem lit1 : Str.ofString "\\" = tx [92] := by decide +kernel
theorem lit2 : Str.ofString "latin1" = tx [108, 97, 116, 105, 110, 49] := by decide +kernel
theorem lit3 : Str.ofString "0123456789abcdef" = tx [48, 49, 50, 51, 52, 53, 54, 55, 56, 57, 97, 98, 99, 100, 101, 102] := by decide +kernel
theorem lit4 : Str.ofString "0123456789ABCDEF" = tx [48, 49, 50, 51, 52, 53, 54, 55, 56, 57, 65, 66, 67, 68, 69, 70] := by decide +kernel
theorem lit5 : Str.ofString "a7fG.\n" = tx [97, 55, 102, 71, 46, 10] := by decide +kernel
theorem lit6 : Str.ofString "01234567" = tx [48, 49, 50, 51, 52, 53, 54, 55] := by decide +kernel
theorem lit7 : Str.ofString "xuU" = tx [120, 117, 85] := by decide +kernel
theorem lit8 : Str.ofString "\\78\\x" = tx [92, 55, 56, 92, 120] := by decide +kernel
theorem lit9 : Str.ofString "7" = tx [55] := by decide +kernel
theorem lit10 : Str.ofString "\\8" = tx [92, 56] := by decide +kernel
theorem lit11 : Str.ofString "8" = tx [56] := by decide +kernel
theorem lit12 : Str.ofString "0123456789abcdefABCDEF" = tx [48, 49, 50, 51, 52, 53, 54, 55, 56, 57, 97, 98, 99, 100, 101, 102, 65, 66, 67, 68, 69, 70] := by decide +kernel
theorem lit13 : Str.ofString "x" = tx [120] := by decide +kernel
theorem lit14 : Str.ofString "u" = tx [117] := by decide +kernel
theorem lit15 : Str.ofString "U" = tx [85] := by decide +kernel
theorem next_F : ∀ {g : G} (HG : GK g) {t d : Addr} {it st : V} {l : List Nat} {iz : Int} {i : Nat} {nv : V} (hl : l.length ≤ 1000) (hi : i ≤ 2000) (hiz : iz = (i : Int)) {j : Nat} {o : Option (List Nat)} (hn : nxt l i = some (j, o)), FnE g 65 [.ref t] 1 false (.none) ([(t, .inst 133 d), (d, .dct (tokE it st l (j : Int) (ovV o)))]) ([(t, .inst 133 d), (d, .dct (tokE it st l iz nv))]) := by
  k_fill
  intro g HG t d it st l iz i nv hl hi hiz j o hn
  have H := HG.tk
  have hp := HG.hp
  have hK := HG.hK
  skip
  refine FnC.forget ?_
  refine' fn_intro (pn := [Str.ofString "self"]) (lo0 := [some (.ref t), none, none, none, none, none]) (X := fun _ _ _ => False) ?ho ?hcd ?hb ?hpn ?hlo ?hloc ?hnd ?hcell leaves_never ?h ?c1 ?c2 ?c3
  case ho => rw [hK]; k_is
  case hcd => rw [hK]; k_is
  case hb => intro s' cas' X' hv'; obtain ⟨c1', rfl, h1'⟩ := VRs1 hv'; first | exact BindsTo.of_eq rfl | (rw [hK] at X'; exact binds_K X' rfl (by k_is) rfl rfl rfl)
  case hpn => decide
  case hlo => rfl
  case hloc => decide
  case hnd => decide
  case hcell => decide
  case h =>
    intro c ok hg henv hns hns' hcv hd hhq
    subst hg
    dsimp only at hns hns'
    have hh := hhq rfl
    subst hiz
    refine fnq_G ?_
    intro TQ hTr hTn
    repeat' (first | ((with_reducible show Then _ _ _ _ _ _ _); first | ((with_reducible refine then_next ?_)) | ((with_reducible refine then_ret ?_))) | ((with_reducible show W _ FR (execs _ _) _ _ _ _); first | ((with_reducible refine S_cons ?_)) | ((with_reducible refine S_nil ?_))) | ((with_reducible show W _ VR (eval (Expr.Name _ _) _) _ _ _ _); first | ((with_reducible refine W_local (by first | ((k_dflt (assumption)); done) | fail) (by first | ((k_dflt (assumption)); done) | fail) (by first | ((k_dflt (assumption)); done) | fail) (by first | ((k_dflt ((with_reducible repeat (first | exact Has.here | apply Has.there)))); done) | fail) ?_))) | ((with_reducible show W _ VR (eval (Expr.Constant Const.none _ _) _) _ _ _ _); first | ((with_reducible refine W_none ?_))) | ((with_reducible show W _ VR (eval (Expr.Constant (Const.int _) _ _) _) _ _ _ _); first | ((with_reducible refine W_int ?_))) | ((with_reducible show W _ VR (eval (Expr.Constant (Const.str _) _ _) _) _ _ _ _); first | ((with_reducible refine W_str lit1 ?_))) | ((with_reducible show W _ VR (eval (Expr.Attribute _ _ _) _) _ _ _ _); first | (refine W_Attr ?_)) | ((with_reducible show W _ VR (eval (Expr.BinOp _ _ _ _) _) _ _ _ _); first | ((with_reducible refine W_BinOp ?_))) | ((with_reducible show W _ VR (eval (Expr.Subscript _ _ _) _) _ _ _ _); first | (refine W_Sub ?_)) | ((with_reducible show W _ FR (exec (Stmt.Assign [Expr.Name _ _] _ _) _) _ _ _ _); first | (refine S_Assign ?_)) | ((with_reducible show W _ FR (exec (Stmt.Assign [Expr.Attribute _ _ _] _ _) _) _ _ _ _); first | (refine S_AssignA ?_)) | ((with_reducible show W _ FR (exec (Stmt.If _ _ _ _) _) _ _ _ _); first | ((with_reducible refine S_If ?_))) | ((with_reducible show W _ FR (exec (Stmt.Return none _) _) _ _ _ _); first | ((with_reducible refine S_Return0 ?_))) | ((with_reducible show W _ FR (exec (Stmt.AugAssign (Expr.Name _ _) _ _ _) _) _ _ _ _); first | ((with_reducible refine S_Aug (by first | ((k_dflt (assumption)); done) | fail) (by first | ((k_dflt (assumption)); done) | fail) (by first | ((k_dflt (assumption)); done) | fail) (by first | ((k_dflt ((with_reducible repeat (first | exact Has.here | apply Has.there)))); done) | fail) ?_))) | ((with_reducible show W _ FR (exec (Stmt.Try _ _ _ _ _) _) _ _ _ _); first | (refine S_Try (by assumption) (by assumption) ?_)) | ((with_reducible show W _ BR (isTrue (Expr.Compare _ _ _ _) _ _) _ _ _ _); first | (refine T_Compare ?_)) | ((with_reducible show Op2 _ _ _ _ _ _ _ _); first | ((with_reducible refine add_ints ?_)) | ((with_reducible refine iadd_ints ?_)) | ((with_reducible refine eq_strs ?_)) | ((with_reducible refine iadd_strs (by first | ((k_dflt ((first | assumption | omega | decide | (simp only [List.length_append, List.length_cons, List.length_nil, List.length_drop, List.length_take, List.length_map]; omega) | (simp only [List.length_append, List.length_cons, List.length_nil, List.length_drop, List.length_take, List.length_map] at *; omega)))); done) | fail) ?_))) | ((with_reducible show Tru _ _ _ _ _ _); first | ((with_reducible refine tru_bool ?_))) | ((with_reducible show Br (decide _) _ _); first | (with_reducible refine br_dec ?_ ?_ <;> intro _)) | ((with_reducible show Sto _ _ _ _ _ _ _); first | ((with_reducible refine Sto_local (by first | ((k_dflt (assumption)); done) | fail) (by first | ((k_dflt (assumption)); done) | fail) (by first | ((k_dflt (assumption)); done) | fail) (by first | ((k_dflt ((with_reducible repeat (first | exact Put.here | apply Put.there)))); done) | fail) ?_))) | ((with_reducible show GetA _ _ _ _ _ _ _); first | ((with_reducible refine geta_tk (by first | ((k_dflt (assumption)); done) | fail) (by first | ((k_dflt (assumption)); done) | fail) (by first | ((k_dflt ((with_reducible_and_instances repeat (first | exact List.Mem.head _ | apply List.Mem.tail)))); done) | fail) (by first | ((k_dflt ((with_reducible_and_instances repeat (first | exact List.Mem.head _ | apply List.Mem.tail)))); done) | fail) (by first | ((k_dflt ((with_reducible_and_instances repeat (first | exact List.Mem.head _ | apply List.Mem.tail)))); done) | fail) (by first | ((k_dflt ((with_reducible repeat (first | exact Ent.here | (apply Ent.there; (focus decide)))))); done) | fail) (by first | ((k_dflt (first | exact rfl | exact handed_ovV _ | assumption)); done) | fail) ?_))) | ((with_reducible show SetA _ _ _ _ _ _ _ _); first | ((with_reducible refine seta_tk (by first | ((k_dflt (assumption)); done) | fail) (by first | ((k_dflt (assumption)); done) | fail) (by first | ((k_dflt ((with_reducible_and_instances repeat (first | exact List.Mem.head _ | apply List.Mem.tail)))); done) | fail) (by first | ((k_dflt ((with_reducible repeat (first | exact OUpd.head | apply OUpd.tail)))); done) | fail) (by first | ((k_dflt ((with_reducible_and_instances repeat (first | exact List.Mem.head _ | apply List.Mem.tail)))); done) | fail) (by first | ((k_dflt ((with_reducible repeat (first | exact EPut.here | exact EPut.nil | (apply EPut.there; (focus decide)))))); done) | fail) (by first | ((k_dflt (exact Nat.le_of_ble_eq_true rfl)); done) | fail) ?_))) | ((with_reducible show Hdl _ _ _ _ _ _ _ _); first | ((with_reducible refine hdl_bltT (by first | ((k_dflt (assumption)); done) | fail) (by first | ((k_dflt (assumption)); done) | fail) (by first | ((k_dflt ((with_reducible_and_instances repeat (first | exact List.Mem.head _ | apply List.Mem.tail)))); done) | fail) (by first | ((k_dflt (assumption)); done) | fail) (by first | ((k_dflt ((with_reducible repeat (first | exact InN.here | apply InN.there)))); done) | fail) (by first | ((k_dflt ((with_reducible_and_instances repeat (first | exact List.Mem.head _ | apply List.Mem.tail)))); done) | fail) (by first | ((k_dflt (first | exact GK.ex0 (by assumption))); done) | fail) ?_); intro _)) | ((with_reducible show Sub2 _ _ _ _ _ _ _ _ _); first | ((refine sub_str (by assumption) (by omega) (by omega) ?_ ?_); (focus (intro _ _)); rotate_left; (focus (intro _; first | (exfalso; exact stepA_bad (by assumption) (by assumption) (by assumption) (by assumption)) | (exfalso; exact run_outA (by assumption) (by assumption)) | intro _)); rotate_right)) | fail)
    all_goals first
      | (obtain ⟨e1, e2⟩ := stepA_two hn (by assumption) (by assumption) (by assumption); subst e1 e2; (first | (refine' hTr (ob2 := [(t, .inst 133 d), (d, .dct _)]) ?fp ?fe0 ?fe1; (case fp => (with_reducible repeat (first | exact Picks.nil | (apply Picks.cons; (focus (with_reducible repeat (first | exact Pick.head | apply Pick.tail))))))); (case fe0 => rfl); (case fe1 => rfl)) | (refine' hTn (ob2 := [(t, .inst 133 d), (d, .dct _)]) ?fp ?fe0 ?fe1; (case fp => (with_reducible repeat (first | exact Picks.nil | (apply Picks.cons; (focus (with_reducible repeat (first | exact Pick.head | apply Pick.tail))))))); (case fe0 => rfl); (case fe1 => rfl))))
      | (obtain ⟨e1, e2⟩ := stepA_one hn (by assumption) (by assumption); subst e1 e2; (first | (refine' hTr (ob2 := [(t, .inst 133 d), (d, .dct _)]) ?fp ?fe0 ?fe1; (case fp => (with_reducible repeat (first | exact Picks.nil | (apply Picks.cons; (focus (with_reducible repeat (first | exact Pick.head | apply Pick.tail))))))); (case fe0 => rfl); (case fe1 => rfl)) | (refine' hTn (ob2 := [(t, .inst 133 d), (d, .dct _)]) ?fp ?fe0 ?fe1; (case fp => (with_reducible repeat (first | exact Picks.nil | (apply Picks.cons; (focus (with_reducible repeat (first | exact Pick.head | apply Pick.tail))))))); (case fe0 => rfl); (case fe1 => rfl))))
      | (obtain ⟨e1, e2⟩ := step_end hn (by assumption); subst e1 e2; (first | (refine' hTr (ob2 := [(t, .inst 133 d), (d, .dct _)]) ?fp ?fe0 ?fe1; (case fp => (with_reducible repeat (first | exact Picks.nil | (apply Picks.cons; (focus (with_reducible repeat (first | exact Pick.head | apply Pick.tail))))))); (case fe0 => rfl); (case fe1 => rfl)) | (refine' hTn (ob2 := [(t, .inst 133 d), (d, .dct _)]) ?fp ?fe0 ?fe1; (case fp => (with_reducible repeat (first | exact Picks.nil | (apply Picks.cons; (focus (with_reducible repeat (first | exact Pick.head | apply Pick.tail))))))); (case fe0 => rfl); (case fe1 => rfl))))
  case c1 => exact rfl
  case c2 => exact rfl
  case c3 => exact rfl
theorem get_F : ∀ {g : G} (HG : GK g) {t d : Addr} {it st : V} {l : List Nat} {i : Nat} {nv : V} (hv : handedV nv = true) (hl : l.length ≤ 1000) (hi : i ≤ 2000) {j : Nat} {o : Option (List Nat)} (hn : nxt l i = some (j, o)), FnE g 79 [.ref t] 2 false (nv) ([(t, .inst 133 d), (d, .dct (tokE it st l (j : Int) (ovV o)))]) ([(t, .inst 133 d), (d, .dct (tokE it st l (i : Int) nv))]) := by
  k_fill
  intro g HG t d it st l i nv hv hl hi j o hn
  have H := HG.tk
  have hp := HG.hp
  have hK := HG.hK
  skip
  refine FnC.forget ?_
  refine' fn_intro (pn := [Str.ofString "self"]) (lo0 := [some (.ref t), none]) (X := fun _ _ _ => False) ?ho ?hcd ?hb ?hpn ?hlo ?hloc ?hnd ?hcell leaves_never ?h ?c1 ?c2 ?c3
  case ho => rw [hK]; k_is
  case hcd => rw [hK]; k_is
  case hb => intro s' cas' X' hv'; obtain ⟨c1', rfl, h1'⟩ := VRs1 hv'; first | exact BindsTo.of_eq rfl | (rw [hK] at X'; exact binds_K X' rfl (by k_is) rfl rfl rfl)
  case hpn => decide
  case hlo => rfl
  case hloc => decide
  case hnd => decide
  case hcell => decide
  case h =>
    intro c ok hg henv hns hns' hcv hd hhq
    subst hg
    dsimp only at hns hns'
    have hh := hhq rfl
    skip
    refine fnq_G ?_
    intro TQ hTr hTn
    repeat' (first | ((with_reducible show Cal _ _ _ _ _ _ _); first | ((refine cal_E (by first | ((k_dflt (assumption)); done) | fail) (by first | ((k_dflt ((with_reducible repeat (first | exact Picks.nil | (apply Picks.cons; (focus (with_reducible repeat (first | exact Pick.head | apply Pick.tail)))))))); done) | fail) (next_F (by assumption) (by first | ((k_dflt (assumption)); done) | fail) (by first | ((k_dflt (first | omega | exact Nat.zero_le _)); done) | fail) (by first | ((k_dflt (first | exact rfl | exact (rfl : (0 : Int) = ((0 : Nat) : Int)))); done) | fail) (by first | ((k_dflt (assumption)); done) | fail)) (by first | ((k_dflt ((with_reducible repeat (first | exact App.nil | apply App.cons)))); done) | fail) (by first | ((k_dflt (((try dsimp only); omega))); done) | fail) (by first | ((k_dflt (first | exact .inl rfl | exact .inr (by assumption))); done) | fail) ?_))) | ((with_reducible show Then _ _ _ _ _ _ _); first | ((with_reducible refine then_next ?_)) | ((with_reducible refine then_ret ?_))) | ((with_reducible show W _ FR (execs _ _) _ _ _ _); first | ((with_reducible refine S_cons ?_))) | ((with_reducible show W _ VR (eval (Expr.Name _ _) _) _ _ _ _); first | ((with_reducible refine W_local (by first | ((k_dflt (assumption)); done) | fail) (by first | ((k_dflt (assumption)); done) | fail) (by first | ((k_dflt (assumption)); done) | fail) (by first | ((k_dflt ((with_reducible repeat (first | exact Has.here | apply Has.there)))); done) | fail) ?_))) | ((with_reducible show W _ VR (eval (Expr.Attribute _ _ _) _) _ _ _ _); first | (refine W_Attr ?_)) | ((with_reducible show W _ VR (eval (Expr.Call (Expr.Attribute _ _ _) _ _ _) _) _ _ _ _); first | (refine W_Method (by assumption) (by rfl) ?_)) | ((with_reducible show W _ FR (exec (Stmt.Assign [Expr.Name _ _] _ _) _) _ _ _ _); first | (refine S_Assign ?_)) | ((with_reducible show W _ FR (exec (Stmt.Return (some _) _) _) _ _ _ _); first | ((with_reducible refine S_Return ?_))) | ((with_reducible show W _ FR (exec (Stmt.Expr _ _) _) _ _ _ _); first | (refine S_ExprV ?_ (inter (by assumption)))) | ((with_reducible show Args _ _ _ _ _ _); first | ((with_reducible refine args_nil' ?_))) | ((with_reducible show Kp _ _ ∧ _); first | ((with_reducible refine kp_met (by first | ((k_dflt (assumption)); done) | fail) (by first | ((k_dflt ((with_reducible_and_instances repeat (first | exact List.Mem.head _ | apply List.Mem.tail)))); done) | fail) ?_))) | ((with_reducible show plainV _ = true ∧ _); first | ((with_reducible refine plain_and rfl ?_))) | ((with_reducible show Sto _ _ _ _ _ _ _); first | ((with_reducible refine Sto_local (by first | ((k_dflt (assumption)); done) | fail) (by first | ((k_dflt (assumption)); done) | fail) (by first | ((k_dflt (assumption)); done) | fail) (by first | ((k_dflt ((with_reducible repeat (first | exact Put.here | apply Put.there)))); done) | fail) ?_))) | ((with_reducible show GetM _ _ _ _ _ _ _); first | ((with_reducible refine getm_tk (by first | ((k_dflt (assumption)); done) | fail) (by first | ((k_dflt (assumption)); done) | fail) (by first | ((k_dflt ((with_reducible_and_instances repeat (first | exact List.Mem.head _ | apply List.Mem.tail)))); done) | fail) (by first | ((k_dflt ((with_reducible_and_instances repeat (first | exact List.Mem.head _ | apply List.Mem.tail)))); done) | fail) (by first | ((k_dflt ((with_reducible_and_instances repeat (first | exact List.Mem.head _ | apply List.Mem.tail)))); done) | fail) (by first | ((k_dflt ((repeat (first | with_reducible exact NoEnt.nil | (with_reducible apply NoEnt.cons; (focus decide)))))); done) | fail) ?_))) | ((with_reducible show GetA _ _ _ _ _ _ _); first | ((with_reducible refine geta_tk (by first | ((k_dflt (assumption)); done) | fail) (by first | ((k_dflt (assumption)); done) | fail) (by first | ((k_dflt ((with_reducible_and_instances repeat (first | exact List.Mem.head _ | apply List.Mem.tail)))); done) | fail) (by first | ((k_dflt ((with_reducible_and_instances repeat (first | exact List.Mem.head _ | apply List.Mem.tail)))); done) | fail) (by first | ((k_dflt ((with_reducible_and_instances repeat (first | exact List.Mem.head _ | apply List.Mem.tail)))); done) | fail) (by first | ((k_dflt ((with_reducible repeat (first | exact Ent.here | (apply Ent.there; (focus decide)))))); done) | fail) (by first | ((k_dflt (first | exact rfl | exact handed_ovV _ | assumption)); done) | fail) ?_))) | fail)
    all_goals first | ((first | (refine' hTr (ob2 := [(t, .inst 133 d), (d, .dct _)]) ?fp ?fe0 ?fe1; (case fp => (with_reducible repeat (first | exact Picks.nil | (apply Picks.cons; (focus (with_reducible repeat (first | exact Pick.head | apply Pick.tail))))))); (case fe0 => rfl); (case fe1 => rfl)) | (refine' hTn (ob2 := [(t, .inst 133 d), (d, .dct _)]) ?fp ?fe0 ?fe1; (case fp => (with_reducible repeat (first | exact Picks.nil | (apply Picks.cons; (focus (with_reducible repeat (first | exact Pick.head | apply Pick.tail))))))); (case fe0 => rfl); (case fe1 => rfl))))
  case c1 => exact rfl
  case c2 => exact rfl
  case c3 => exact rfl
theorem init_S : ∀ {g : G} (HG : GK g) {t d : Addr} {l : List Nat} (hl : l.length ≤ 1000) {j : Nat} {o : Option (List Nat)} (hn : nxt l 0 = some (j, o)), FnE g 58 [.ref t, .str l] 2 false (.none) ([(t, .inst 133 d), (d, .dct (tokE (.bool true) (.str l) l (j : Int) (ovV o)))]) ([(t, .inst 133 d), (d, .dct [])]) := by
  k_fill
  intro g HG t d l hl j o hn
  have H := HG.tk
  have hp := HG.hp
  have hK := HG.hK
  skip
  refine FnC.forget ?_
  refine' fn_intro (pn := [Str.ofString "self", Str.ofString "string"]) (lo0 := [some (.ref t), some (.str l), none, none]) (X := fun _ _ _ => False) ?ho ?hcd ?hb ?hpn ?hlo ?hloc ?hnd ?hcell leaves_never ?h ?c1 ?c2 ?c3
  case ho => rw [hK]; k_is
  case hcd => rw [hK]; k_is
  case hb => intro s' cas' X' hv'; obtain ⟨c1', c2', rfl, h1', h2'⟩ := VRs2 hv'; first | exact BindsTo.of_eq rfl | (rw [hK] at X'; exact binds_K X' rfl (by k_is) rfl rfl rfl)
  case hpn => decide
  case hlo => rfl
  case hloc => decide
  case hnd => decide
  case hcell => decide
  case h =>
    intro c ok hg henv hns hns' hcv hd hhq
    subst hg
    dsimp only at hns hns'
    have hh := hhq rfl
    skip
    refine fnq_G ?_
    intro TQ hTr hTn
    repeat' (first | ((with_reducible show Cal _ _ _ _ _ _ _); first | ((refine cal_E (by first | ((k_dflt (assumption)); done) | fail) (by first | ((k_dflt ((with_reducible repeat (first | exact Picks.nil | (apply Picks.cons; (focus (with_reducible repeat (first | exact Pick.head | apply Pick.tail)))))))); done) | fail) (next_F (by assumption) (by first | ((k_dflt (assumption)); done) | fail) (by first | ((k_dflt (first | omega | exact Nat.zero_le _)); done) | fail) (by first | ((k_dflt (first | exact rfl | exact (rfl : (0 : Int) = ((0 : Nat) : Int)))); done) | fail) (by first | ((k_dflt (assumption)); done) | fail)) (by first | ((k_dflt ((with_reducible repeat (first | exact App.nil | apply App.cons)))); done) | fail) (by first | ((k_dflt (((try dsimp only); omega))); done) | fail) (by first | ((k_dflt (first | exact .inl rfl | exact .inr (by assumption))); done) | fail) ?_))) | ((with_reducible show Then _ _ _ _ _ _ _); first | ((with_reducible refine then_next ?_))) | ((with_reducible show W _ FR (execs _ _) _ _ _ _); first | ((with_reducible refine S_cons ?_)) | ((with_reducible refine S_nil ?_))) | ((with_reducible show W _ VR (eval (Expr.Name _ _) _) _ _ _ _); first | ((with_reducible refine W_local (by first | ((k_dflt (assumption)); done) | fail) (by first | ((k_dflt (assumption)); done) | fail) (by first | ((k_dflt (assumption)); done) | fail) (by first | ((k_dflt ((with_reducible repeat (first | exact Has.here | apply Has.there)))); done) | fail) ?_)) | ((with_reducible refine W_bltT (by first | ((k_dflt (assumption)); done) | fail) (by first | ((k_dflt (assumption)); done) | fail) (by first | ((k_dflt (assumption)); done) | fail) (by first | ((k_dflt ((with_reducible repeat (first | exact InN.here | apply InN.there)))); done) | fail) (by first | ((k_dflt ((with_reducible_and_instances repeat (first | exact List.Mem.head _ | apply List.Mem.tail)))); done) | fail) ?_))) | ((with_reducible show W _ VR (eval (Expr.Constant Const.none _ _) _) _ _ _ _); first | ((with_reducible refine W_none ?_))) | ((with_reducible show W _ VR (eval (Expr.Constant (Const.int _) _ _) _) _ _ _ _); first | ((with_reducible refine W_int ?_))) | ((with_reducible show W _ VR (eval (Expr.Attribute _ _ _) _) _ _ _ _); first | (refine W_Attr ?_)) | ((with_reducible show W _ VR (eval (Expr.Call (Expr.Attribute _ _ _) _ _ _) _) _ _ _ _); first | (refine W_Method (by assumption) (by rfl) ?_)) | ((with_reducible show W _ VR (eval (Expr.Call _ _ _ _) _) _ _ _ _); first | (refine W_Call (by assumption) (by rfl) ?_)) | ((with_reducible show W _ FR (exec (Stmt.Assign [Expr.Attribute _ _ _] _ _) _) _ _ _ _); first | (refine S_AssignA ?_)) | ((with_reducible show W _ FR (exec (Stmt.If _ _ _ _) _) _ _ _ _); first | ((with_reducible refine S_If ?_))) | ((with_reducible show W _ FR (exec (Stmt.Expr _ _) _) _ _ _ _); first | (refine S_ExprV ?_ (inter (by assumption)))) | ((with_reducible show W _ BR (isTrue (Expr.UnaryOp UnaryOp.Not _ _) _ _) _ _ _ _); first | ((with_reducible refine T_Not ?_))) | ((with_reducible show W _ BR (isTrue _ _ _) _ _ _ _); first | (refine T_plain rfl ?_)) | ((with_reducible show Tru _ _ _ _ _ _); first | ((with_reducible refine tru_bool ?_))) | ((with_reducible show Cal _ _ _ _ _ _ _); first | ((with_reducible refine isi_str_str ?_))) | ((with_reducible show Br true _ _); first | ((with_reducible refine br_t ?_))) | ((with_reducible show Br (! _) _ _); first | ((with_reducible refine br_not ?_))) | ((with_reducible show Args _ _ _ _ _ _); first | ((with_reducible refine args_cons' ?_)) | ((with_reducible refine args_nil' ?_))) | ((with_reducible show Kp _ _ ∧ _); first | ((with_reducible refine kp_and kp_blt ?_)) | ((with_reducible refine kp_met (by first | ((k_dflt (assumption)); done) | fail) (by first | ((k_dflt ((with_reducible_and_instances repeat (first | exact List.Mem.head _ | apply List.Mem.tail)))); done) | fail) ?_))) | ((with_reducible show plainV _ = true ∧ _); first | ((with_reducible refine plain_and rfl ?_))) | ((with_reducible show GetM _ _ _ _ _ _ _); first | ((with_reducible refine getm_tk (by first | ((k_dflt (assumption)); done) | fail) (by first | ((k_dflt (assumption)); done) | fail) (by first | ((k_dflt ((with_reducible_and_instances repeat (first | exact List.Mem.head _ | apply List.Mem.tail)))); done) | fail) (by first | ((k_dflt ((with_reducible_and_instances repeat (first | exact List.Mem.head _ | apply List.Mem.tail)))); done) | fail) (by first | ((k_dflt ((with_reducible_and_instances repeat (first | exact List.Mem.head _ | apply List.Mem.tail)))); done) | fail) (by first | ((k_dflt ((repeat (first | with_reducible exact NoEnt.nil | (with_reducible apply NoEnt.cons; (focus decide)))))); done) | fail) ?_))) | ((with_reducible show GetA _ _ _ _ _ _ _); first | ((with_reducible refine geta_tk (by first | ((k_dflt (assumption)); done) | fail) (by first | ((k_dflt (assumption)); done) | fail) (by first | ((k_dflt ((with_reducible_and_instances repeat (first | exact List.Mem.head _ | apply List.Mem.tail)))); done) | fail) (by first | ((k_dflt ((with_reducible_and_instances repeat (first | exact List.Mem.head _ | apply List.Mem.tail)))); done) | fail) (by first | ((k_dflt ((with_reducible_and_instances repeat (first | exact List.Mem.head _ | apply List.Mem.tail)))); done) | fail) (by first | ((k_dflt ((with_reducible repeat (first | exact Ent.here | (apply Ent.there; (focus decide)))))); done) | fail) (by first | ((k_dflt (first | exact rfl | exact handed_ovV _ | assumption)); done) | fail) ?_))) | ((with_reducible show SetA _ _ _ _ _ _ _ _); first | ((with_reducible refine seta_tk (by first | ((k_dflt (assumption)); done) | fail) (by first | ((k_dflt (assumption)); done) | fail) (by first | ((k_dflt ((with_reducible_and_instances repeat (first | exact List.Mem.head _ | apply List.Mem.tail)))); done) | fail) (by first | ((k_dflt ((with_reducible repeat (first | exact OUpd.head | apply OUpd.tail)))); done) | fail) (by first | ((k_dflt ((with_reducible_and_instances repeat (first | exact List.Mem.head _ | apply List.Mem.tail)))); done) | fail) (by first | ((k_dflt ((with_reducible repeat (first | exact EPut.here | exact EPut.nil | (apply EPut.there; (focus decide)))))); done) | fail) (by first | ((k_dflt (exact Nat.le_of_ble_eq_true rfl)); done) | fail) ?_))) | fail)
    all_goals first | ((first | (refine' hTr (ob2 := [(t, .inst 133 d), (d, .dct _)]) ?fp ?fe0 ?fe1; (case fp => (with_reducible repeat (first | exact Picks.nil | (apply Picks.cons; (focus (with_reducible repeat (first | exact Pick.head | apply Pick.tail))))))); (case fe0 => rfl); (case fe1 => rfl)) | (refine' hTn (ob2 := [(t, .inst 133 d), (d, .dct _)]) ?fp ?fe0 ?fe1; (case fp => (with_reducible repeat (first | exact Picks.nil | (apply Picks.cons; (focus (with_reducible repeat (first | exact Pick.head | apply Pick.tail))))))); (case fe0 => rfl); (case fe1 => rfl))))
  case c1 => exact rfl
  case c2 => exact rfl
  case c3 => exact rfl
theorem init_B : ∀ {g : G} (HG : GK g) {t d : Addr} {l : List Nat} (hl : l.length ≤ 1000) {j : Nat} {o : Option (List Nat)} (hn : nxt l 0 = some (j, o)), FnE g 58 [.ref t, .bytes l] 2 false (.none) ([(t, .inst 133 d), (d, .dct (tokE (.bool false) (.bytes l) l (j : Int) (ovV o)))]) ([(t, .inst 133 d), (d, .dct [])]) := by
  k_fill
  intro g HG t d l hl j o hn
  have H := HG.tk
  have hp := HG.hp
  have hK := HG.hK
  skip
  refine FnC.forget ?_
  refine' fn_intro (pn := [Str.ofString "self", Str.ofString "string"]) (lo0 := [some (.ref t), some (.bytes l), none, none]) (X := fun _ _ _ => False) ?ho ?hcd ?hb ?hpn ?hlo ?hloc ?hnd ?hcell leaves_never ?h ?c1 ?c2 ?c3
  case ho => rw [hK]; k_is
  case hcd => rw [hK]; k_is
  case hb => intro s' cas' X' hv'; obtain ⟨c1', c2', rfl, h1', h2'⟩ := VRs2 hv'; first | exact BindsTo.of_eq rfl | (rw [hK] at X'; exact binds_K X' rfl (by k_is) rfl rfl rfl)
  case hpn => decide
  case hlo => rfl
  case hloc => decide
  case hnd => decide
  case hcell => decide
  case h =>
    intro c ok hg henv hns hns' hcv hd hhq
    subst hg
    dsimp only at hns hns'
    have hh := hhq rfl
    skip
    refine fnq_G ?_
    intro TQ hTr hTn
    repeat' (first | ((with_reducible show Cal _ _ _ _ _ _ _); first | ((refine cal_E (by first | ((k_dflt (assumption)); done) | fail) (by first | ((k_dflt ((with_reducible repeat (first | exact Picks.nil | (apply Picks.cons; (focus (with_reducible repeat (first | exact Pick.head | apply Pick.tail)))))))); done) | fail) (next_F (by assumption) (by first | ((k_dflt (assumption)); done) | fail) (by first | ((k_dflt (first | omega | exact Nat.zero_le _)); done) | fail) (by first | ((k_dflt (first | exact rfl | exact (rfl : (0 : Int) = ((0 : Nat) : Int)))); done) | fail) (by first | ((k_dflt (assumption)); done) | fail)) (by first | ((k_dflt ((with_reducible repeat (first | exact App.nil | apply App.cons)))); done) | fail) (by first | ((k_dflt (((try dsimp only); omega))); done) | fail) (by first | ((k_dflt (first | exact .inl rfl | exact .inr (by assumption))); done) | fail) ?_))) | ((with_reducible show Then _ _ _ _ _ _ _); first | ((with_reducible refine then_next ?_))) | ((with_reducible show W _ FR (execs _ _) _ _ _ _); first | ((with_reducible refine S_cons ?_)) | ((with_reducible refine S_nil ?_))) | ((with_reducible show W _ VR (eval (Expr.Name _ _) _) _ _ _ _); first | ((with_reducible refine W_local (by first | ((k_dflt (assumption)); done) | fail) (by first | ((k_dflt (assumption)); done) | fail) (by first | ((k_dflt (assumption)); done) | fail) (by first | ((k_dflt ((with_reducible repeat (first | exact Has.here | apply Has.there)))); done) | fail) ?_)) | ((with_reducible refine W_bltT (by first | ((k_dflt (assumption)); done) | fail) (by first | ((k_dflt (assumption)); done) | fail) (by first | ((k_dflt (assumption)); done) | fail) (by first | ((k_dflt ((with_reducible repeat (first | exact InN.here | apply InN.there)))); done) | fail) (by first | ((k_dflt ((with_reducible_and_instances repeat (first | exact List.Mem.head _ | apply List.Mem.tail)))); done) | fail) ?_))) | ((with_reducible show W _ VR (eval (Expr.Constant Const.none _ _) _) _ _ _ _); first | ((with_reducible refine W_none ?_))) | ((with_reducible show W _ VR (eval (Expr.Constant (Const.int _) _ _) _) _ _ _ _); first | ((with_reducible refine W_int ?_))) | ((with_reducible show W _ VR (eval (Expr.Constant (Const.str _) _ _) _) _ _ _ _); first | ((with_reducible refine W_str lit2 ?_))) | ((with_reducible show W _ VR (eval (Expr.Attribute _ _ _) _) _ _ _ _); first | (refine W_Attr ?_)) | ((with_reducible show W _ VR (eval (Expr.Call (Expr.Attribute _ _ _) _ _ _) _) _ _ _ _); first | (refine W_Method (by assumption) (by rfl) ?_)) | ((with_reducible show W _ VR (eval (Expr.Call _ _ _ _) _) _ _ _ _); first | (refine W_Call (by assumption) (by rfl) ?_)) | ((with_reducible show W _ FR (exec (Stmt.Assign [Expr.Name _ _] _ _) _) _ _ _ _); first | (refine S_Assign ?_)) | ((with_reducible show W _ FR (exec (Stmt.Assign [Expr.Attribute _ _ _] _ _) _) _ _ _ _); first | (refine S_AssignA ?_)) | ((with_reducible show W _ FR (exec (Stmt.If _ _ _ _) _) _ _ _ _); first | ((with_reducible refine S_If ?_))) | ((with_reducible show W _ FR (exec (Stmt.Expr _ _) _) _ _ _ _); first | (refine S_ExprV ?_ (inter (by assumption)))) | ((with_reducible show W _ BR (isTrue (Expr.UnaryOp UnaryOp.Not _ _) _ _) _ _ _ _); first | ((with_reducible refine T_Not ?_))) | ((with_reducible show W _ BR (isTrue _ _ _) _ _ _ _); first | (refine T_plain rfl ?_)) | ((with_reducible show Tru _ _ _ _ _ _); first | ((with_reducible refine tru_bool ?_))) | ((with_reducible show Cal _ _ _ _ _ _ _); first | ((with_reducible refine isi_bytes_str (by first | ((k_dflt (assumption)); done) | fail) ?_)) | ((with_reducible refine str_latin1 (by first | ((k_dflt ((first | assumption | omega | decide | (simp only [List.length_append, List.length_cons, List.length_nil, List.length_drop, List.length_take, List.length_map]; omega) | (simp only [List.length_append, List.length_cons, List.length_nil, List.length_drop, List.length_take, List.length_map] at *; omega)))); done) | fail) ?_))) | ((with_reducible show Br false _ _); first | ((with_reducible refine br_f ?_))) | ((with_reducible show Br (! _) _ _); first | ((with_reducible refine br_not ?_))) | ((with_reducible show Args _ _ _ _ _ _); first | ((with_reducible refine args_cons' ?_)) | ((with_reducible refine args_nil' ?_))) | ((with_reducible show Kp _ _ ∧ _); first | ((with_reducible refine kp_and kp_blt ?_)) | ((with_reducible refine kp_and kp_type ?_)) | ((with_reducible refine kp_met (by first | ((k_dflt (assumption)); done) | fail) (by first | ((k_dflt ((with_reducible_and_instances repeat (first | exact List.Mem.head _ | apply List.Mem.tail)))); done) | fail) ?_))) | ((with_reducible show plainV _ = true ∧ _); first | ((with_reducible refine plain_and rfl ?_))) | ((with_reducible show Sto _ _ _ _ _ _ _); first | ((with_reducible refine Sto_local (by first | ((k_dflt (assumption)); done) | fail) (by first | ((k_dflt (assumption)); done) | fail) (by first | ((k_dflt (assumption)); done) | fail) (by first | ((k_dflt ((with_reducible repeat (first | exact Put.here | apply Put.there)))); done) | fail) ?_))) | ((with_reducible show GetM _ _ _ _ _ _ _); first | ((with_reducible refine getm_tk (by first | ((k_dflt (assumption)); done) | fail) (by first | ((k_dflt (assumption)); done) | fail) (by first | ((k_dflt ((with_reducible_and_instances repeat (first | exact List.Mem.head _ | apply List.Mem.tail)))); done) | fail) (by first | ((k_dflt ((with_reducible_and_instances repeat (first | exact List.Mem.head _ | apply List.Mem.tail)))); done) | fail) (by first | ((k_dflt ((with_reducible_and_instances repeat (first | exact List.Mem.head _ | apply List.Mem.tail)))); done) | fail) (by first | ((k_dflt ((repeat (first | with_reducible exact NoEnt.nil | (with_reducible apply NoEnt.cons; (focus decide)))))); done) | fail) ?_))) | ((with_reducible show GetA _ _ _ _ _ _ _); first | ((with_reducible refine geta_tk (by first | ((k_dflt (assumption)); done) | fail) (by first | ((k_dflt (assumption)); done) | fail) (by first | ((k_dflt ((with_reducible_and_instances repeat (first | exact List.Mem.head _ | apply List.Mem.tail)))); done) | fail) (by first | ((k_dflt ((with_reducible_and_instances repeat (first | exact List.Mem.head _ | apply List.Mem.tail)))); done) | fail) (by first | ((k_dflt ((with_reducible_and_instances repeat (first | exact List.Mem.head _ | apply List.Mem.tail)))); done) | fail) (by first | ((k_dflt ((with_reducible repeat (first | exact Ent.here | (apply Ent.there; (focus decide)))))); done) | fail) (by first | ((k_dflt (first | exact rfl | exact handed_ovV _ | assumption)); done) | fail) ?_))) | ((with_reducible show SetA _ _ _ _ _ _ _ _); first | ((with_reducible refine seta_tk (by first | ((k_dflt (assumption)); done) | fail) (by first | ((k_dflt (assumption)); done) | fail) (by first | ((k_dflt ((with_reducible_and_instances repeat (first | exact List.Mem.head _ | apply List.Mem.tail)))); done) | fail) (by first | ((k_dflt ((with_reducible repeat (first | exact OUpd.head | apply OUpd.tail)))); done) | fail) (by first | ((k_dflt ((with_reducible_and_instances repeat (first | exact List.Mem.head _ | apply List.Mem.tail)))); done) | fail) (by first | ((k_dflt ((with_reducible repeat (first | exact EPut.here | exact EPut.nil | (apply EPut.there; (focus decide)))))); done) | fail) (by first | ((k_dflt (exact Nat.le_of_ble_eq_true rfl)); done) | fail) ?_))) | fail)
    all_goals first | ((first | (refine' hTr (ob2 := [(t, .inst 133 d), (d, .dct _)]) ?fp ?fe0 ?fe1; (case fp => (with_reducible repeat (first | exact Picks.nil | (apply Picks.cons; (focus (with_reducible repeat (first | exact Pick.head | apply Pick.tail))))))); (case fe0 => rfl); (case fe1 => rfl)) | (refine' hTn (ob2 := [(t, .inst 133 d), (d, .dct _)]) ?fp ?fe0 ?fe1; (case fp => (with_reducible repeat (first | exact Picks.nil | (apply Picks.cons; (focus (with_reducible repeat (first | exact Pick.head | apply Pick.tail))))))); (case fe0 => rfl); (case fe1 => rfl))))
  case c1 => exact rfl
  case c2 => exact rfl
  case c3 => exact rfl
theorem new_S {c : Cx} (ok : c.Ok) (HG : GK c.g) {l : List Nat} (hl : l.length ≤ 1000) {j : Nat} {o : Option (List Nat)} (hn : nxt l 0 = some (j, o)) (hd : 3 ≤ c.d) (hh : c.B.handled = none) {Q : QT V} {X : QT Addr} {lo : Loc} {ob : Obs}
    (h : ∀ x dx, Q (.ref x) lo ((x, .inst 133 dx) :: (dx, .dct (tokE (.bool true) (.str l) l (j : Int) (ovV o))) :: ob)) : Cal c (.ref 133) [.str l] Q X lo ob :=
  cal_new (small := []) (oth := []) (ob2 := fun x dx => (x, .inst 133 dx) :: (dx, .dct (tokE (.bool true) (.str l) l (j : Int) (ovV o))) :: ob) ok HG.tk.mi HG.tk.ii HG.tk.isf (fun x dx => init_S HG hl hn) (fun x dx => .cons (.cons .nil)) (by omega) (.inr hh) h
theorem new_B {c : Cx} (ok : c.Ok) (HG : GK c.g) {l : List Nat} (hl : l.length ≤ 1000) {j : Nat} {o : Option (List Nat)} (hn : nxt l 0 = some (j, o)) (hd : 3 ≤ c.d) (hh : c.B.handled = none) {Q : QT V} {X : QT Addr} {lo : Loc} {ob : Obs}
    (h : ∀ x dx, Q (.ref x) lo ((x, .inst 133 dx) :: (dx, .dct (tokE (.bool false) (.bytes l) l (j : Int) (ovV o))) :: ob)) : Cal c (.ref 133) [.bytes l] Q X lo ob :=
  cal_new (small := []) (oth := []) (ob2 := fun x dx => (x, .inst 133 dx) :: (dx, .dct (tokE (.bool false) (.bytes l) l (j : Int) (ovV o))) :: ob) ok HG.tk.mi HG.tk.ii HG.tk.isf (fun x dx => init_B HG hl hn) (fun x dx => .cons (.cons .nil)) (by omega) (.inr hh) h
theorem octets_F : ∀ {g : G} (HG : GK g) {l : List Nat} (hl : l.length ≤ 1000) (hc : ∀ k ∈ l, k < 256), FnE g 142 [.str l] 1 false (.bytes l) ([]) ([]) := by
  k_fill
  intro g HG l hl hc
  have H := HG.tk
  have hp := HG.hp
  have hK := HG.hK
  skip
  refine FnC.forget ?_
  refine' fn_intro (pn := [Str.ofString "text"]) (lo0 := [some (.str l), none]) (X := fun _ _ _ => False) ?ho ?hcd ?hb ?hpn ?hlo ?hloc ?hnd ?hcell leaves_never ?h ?c1 ?c2 ?c3
  case ho => rw [hK]; k_is
  case hcd => rw [hK]; k_is
  case hb => intro s' cas' X' hv'; obtain ⟨c1', rfl, h1'⟩ := VRs1 hv'; first | exact BindsTo.of_eq rfl | (rw [hK] at X'; exact binds_K X' rfl (by k_is) rfl rfl rfl)
  case hpn => decide
  case hlo => rfl
  case hloc => decide
  case hnd => decide
  case hcell => decide
  case h =>
    intro c ok hg henv hns hns' hcv hd hhq
    subst hg
    dsimp only at hns hns'
    have hh := hhq rfl
    skip
    refine fnq_G ?_
    intro TQ hTr hTn
    repeat' (first | ((with_reducible show W _ FR (execs _ _) _ _ _ _); first | ((with_reducible refine S_cons ?_))) | ((with_reducible show W _ VR (eval (Expr.Name _ _) _) _ _ _ _); first | ((with_reducible refine W_local (by first | ((k_dflt (assumption)); done) | fail) (by first | ((k_dflt (assumption)); done) | fail) (by first | ((k_dflt (assumption)); done) | fail) (by first | ((k_dflt ((with_reducible repeat (first | exact Has.here | apply Has.there)))); done) | fail) ?_)) | ((with_reducible refine W_bltT (by first | ((k_dflt (assumption)); done) | fail) (by first | ((k_dflt (assumption)); done) | fail) (by first | ((k_dflt (assumption)); done) | fail) (by first | ((k_dflt ((with_reducible repeat (first | exact InN.here | apply InN.there)))); done) | fail) (by first | ((k_dflt ((with_reducible_and_instances repeat (first | exact List.Mem.head _ | apply List.Mem.tail)))); done) | fail) ?_))) | ((with_reducible show W _ VR (eval (Expr.Call _ _ _ _) _) _ _ _ _); first | (refine W_Call (by assumption) (by rfl) ?_)) | ((with_reducible show W _ VR (eval (Expr.ListComp _ _ _ _) _) _ _ _ _); first | ((refine W_Comp0 (by first | ((k_dflt (assumption)); done) | fail) (by first | ((k_dflt (decide)); done) | fail) (by first | ((k_dflt (exact rfl)); done) | fail) (by first | ((k_dflt (decide)); done) | fail) (by first | ((k_dflt (exact rfl)); done) | fail) (by first | ((k_dflt (decide)); done) | fail) (by first | ((k_dflt (exact rfl)); done) | fail) (by first | ((k_dflt (decide)); done) | fail) ?_))) | ((with_reducible show W _ FR (exec (Stmt.Return (some _) _) _) _ _ _ _); first | ((with_reducible refine S_Return ?_))) | ((with_reducible show Args _ _ _ _ _ _); first | ((with_reducible refine args_cons' ?_))) | ((with_reducible show Kp _ _ ∧ _); first | ((with_reducible refine kp_and kp_type ?_))) | ((with_reducible show CompF _ _ _ _ _ _ _ _ _); first | ((refine compF (Itr_str (by first | ((k_dflt (assumption)); done) | fail)) (by first | ((k_dflt ((first | assumption | omega | decide | (simp only [List.length_append, List.length_cons, List.length_nil, List.length_drop, List.length_take, List.length_map]; omega) | (simp only [List.length_append, List.length_cons, List.length_nil, List.length_drop, List.length_take, List.length_map] at *; omega)))); done) | fail) ?_))) | fail)
    refine CompE.mapk (fun (k : Nat) => V.int (k : Int)) (fun k hk c2 ok2 hg2 hns2 hcv2 hd2 hB2 => ?_) ?_
    · have H2 : GK c2.g := by rw [hg2]; exact HG
      have H3 := H2.tk
      dsimp only at hns2
      repeat' (first | ((with_reducible show W _ VR (eval (Expr.Name _ _) _) _ _ _ _); first | ((with_reducible refine W_bltT (by first | ((k_dflt (assumption)); done) | fail) (by first | ((k_dflt (assumption)); done) | fail) (by first | ((k_dflt (assumption)); done) | fail) (by first | ((k_dflt ((with_reducible repeat (first | exact InN.here | apply InN.there)))); done) | fail) (by first | ((k_dflt ((with_reducible_and_instances repeat (first | exact List.Mem.head _ | apply List.Mem.tail)))); done) | fail) ?_)) | ((with_reducible refine W_comp (by first | ((k_dflt (assumption)); done) | fail) (by first | ((k_dflt (assumption)); done) | fail) (by first | ((k_dflt (assumption)); done) | fail) (by first | ((k_dflt ((with_reducible repeat (first | exact InN.here | apply InN.there)))); done) | fail) (by first | ((k_dflt ((with_reducible_and_instances repeat (first | exact List.Mem.head _ | apply List.Mem.tail)))); done) | fail) ?_))) | ((with_reducible show W _ VR (eval (Expr.Call _ _ _ _) _) _ _ _ _); first | (refine W_Call (by assumption) (by rfl) ?_)) | ((with_reducible show Cal _ _ _ _ _ _ _); first | ((with_reducible refine ord_1 ?_))) | ((with_reducible show Args _ _ _ _ _ _); first | ((with_reducible refine args_cons' ?_)) | ((with_reducible refine args_nil' ?_))) | ((with_reducible show Kp _ _ ∧ _); first | ((with_reducible refine kp_and kp_blt ?_))) | fail)
      all_goals exact ⟨rfl, rfl, rfl⟩
    · intro D
      repeat' (first | ((with_reducible show Args _ _ _ _ _ _); first | ((with_reducible refine args_nil' ?_))) | fail)
      refine' bytes_list ?oh ?om ?oc ?oz ?_
      case oh => assumption
      case om => exact .inl (by ((with_reducible_and_instances repeat (first | exact List.Mem.head _ | apply List.Mem.tail))))
      case oc => assumption
      case oz => omega
      repeat' (first | ((with_reducible show Then _ _ _ _ _ _ _); first | ((with_reducible refine then_ret ?_))) | fail)
      all_goals (first | (refine' hTr (ob2 := []) ?fp ?fe0 ?fe1; (case fp => (with_reducible repeat (first | exact Picks.nil | (apply Picks.cons; (focus (with_reducible repeat (first | exact Pick.head | apply Pick.tail))))))); (case fe0 => rfl); (case fe1 => rfl)) | (refine' hTn (ob2 := []) ?fp ?fe0 ?fe1; (case fp => (with_reducible repeat (first | exact Picks.nil | (apply Picks.cons; (focus (with_reducible repeat (first | exact Pick.head | apply Pick.tail))))))); (case fe0 => rfl); (case fe1 => rfl)))
  case c1 => exact rfl
  case c2 => exact rfl
  case c3 => exact rfl
end Mine
end
section
open PySem PySem.W PyProof.Rows PySem.Spec PySem.Calls
set_option Elab.async false
set_option linter.unusedVariables false
set_option pp.maxSteps 600
namespace Mine
set_option maxRecDepth 100000
set_option maxHeartbeats 4000000
theorem gw_F : ∀ {g : G} (HG : GK g) {t d F : Addr} {it st : V} {l : List Nat} {ss cs : List (List Nat)} {nz : Int} {n i i2 : Nat} {o o2 : Option (List Nat)} (hl : l.length ≤ 1000) (hnz : nz = (n : Int)) (hn8 : n ≤ 8) (hcs : cs.length ≤ 4000) (H0 : Toks l ss i o) (H2 : Toks l (ss.drop (gwS cs n ss).length) i2 o2), FnE g 86 [.ref t, .int nz, .ref F] 3 false (.str (gwS cs n ss).flatten) ([(t, .inst 133 d), (d, .dct (tokE it st l (i2 : Int) (ovV o2))), (F, .set true cs)]) ([(t, .inst 133 d), (d, .dct (tokE it st l (i : Int) (ovV o))), (F, .set true cs)]) := by
  k_fill
  intro g HG t d F it st l ss cs nz n i i2 o o2 hl hnz hn8 hcs H0 H2
  have H := HG.tk
  have hp := HG.hp
  have hK := HG.hK
  skip
  refine FnC.forget ?_
  refine' fn_intro (pn := [Str.ofString "self", Str.ofString "n", Str.ofString "charset"]) (lo0 := [some (.ref t), some (.int nz), some (.ref F), none, none, none, none]) (X := fun _ _ _ => False) ?ho ?hcd ?hb ?hpn ?hlo ?hloc ?hnd ?hcell leaves_never ?h ?c1 ?c2 ?c3
  case ho => rw [hK]; k_is
  case hcd => rw [hK]; k_is
  case hb => intro s' cas' X' hv'; obtain ⟨c1', c2', c3', rfl, h1', h2', h3'⟩ := VRs3 hv'; first | exact BindsTo.of_eq rfl | (rw [hK] at X'; exact binds_K X' rfl (by k_is) rfl rfl rfl)
  case hpn => decide
  case hlo => rfl
  case hloc => decide
  case hnd => decide
  case hcell => decide
  case h =>
    intro c ok hg henv hns hns' hcv hd hhq
    subst hg
    dsimp only at hns hns'
    have hh := hhq rfl
    subst hnz
    refine fnq_G ?_
    intro TQ hTr hTn
    repeat' (first | ((with_reducible show Then _ _ _ _ _ _ _); first | ((with_reducible refine then_next ?_))) | ((with_reducible show W _ FR (execs _ _) _ _ _ _); first | ((with_reducible refine S_cons ?_))) | ((with_reducible show W _ VR (eval (Expr.Name _ _) _) _ _ _ _); first | ((with_reducible refine W_local (by first | ((k_dflt (assumption)); done) | fail) (by first | ((k_dflt (assumption)); done) | fail) (by first | ((k_dflt (assumption)); done) | fail) (by first | ((k_dflt ((with_reducible repeat (first | exact Has.here | apply Has.there)))); done) | fail) ?_)) | ((with_reducible refine W_bltT (by first | ((k_dflt (assumption)); done) | fail) (by first | ((k_dflt (assumption)); done) | fail) (by first | ((k_dflt (assumption)); done) | fail) (by first | ((k_dflt ((with_reducible repeat (first | exact InN.here | apply InN.there)))); done) | fail) (by first | ((k_dflt ((with_reducible_and_instances repeat (first | exact List.Mem.head _ | apply List.Mem.tail)))); done) | fail) ?_))) | ((with_reducible show W _ VR (eval (Expr.Constant (Const.str _) _ _) _) _ _ _ _); first | ((with_reducible refine W_str lit0 ?_))) | ((with_reducible show W _ VR (eval (Expr.Call _ _ _ _) _) _ _ _ _); first | (refine W_Call (by assumption) (by rfl) ?_)) | ((with_reducible show W _ FR (exec (Stmt.Assign [Expr.Name _ _] _ _) _) _ _ _ _); first | (refine S_Assign ?_)) | ((with_reducible show W _ FR (exec (Stmt.For _ _ _ _ _) _) _ _ _ _); first | (refine S_For ?_)) | ((with_reducible show Cal _ _ _ _ _ _ _); first | ((with_reducible refine range_1 ?_); intro _)) | ((with_reducible show Args _ _ _ _ _ _); first | ((with_reducible refine args_cons' ?_)) | ((with_reducible refine args_nil' ?_))) | ((with_reducible show Kp _ _ ∧ _); first | ((with_reducible refine kp_and kp_type ?_))) | ((with_reducible show Sto _ _ _ _ _ _ _); first | ((with_reducible refine Sto_local (by first | ((k_dflt (assumption)); done) | fail) (by first | ((k_dflt (assumption)); done) | fail) (by first | ((k_dflt (assumption)); done) | fail) (by first | ((k_dflt ((with_reducible repeat (first | exact Put.here | apply Put.there)))); done) | fail) ?_))) | fail)
    refine' For_range (n := n) ?rh ?rE ?rp ?rs ?rn ?_
    case rh => assumption
    case rE => exact passes_never
    case rp => (with_reducible repeat (first | exact Picks.nil | (apply Picks.cons; (focus (with_reducible repeat (first | exact Pick.head | apply Pick.tail))))))
    case rs => exact small_one (by omega) (by omega) (by omega) (by omega)
    case rn => exact rangeSize_nat _ _
    refine Wkn.of (forW_inv (fun k lo ob => ∃ pv cv ik ok, (Toks l (ss.drop k) ik ok ∧ k ≤ n ∧ k ≤ ss.length ∧ ∀ s ∈ ss.take k, s ∈ cs) ∧ lo = [some (.ref t), some (.int (n : Int)), some (.ref F), some (.str (ss.take k).flatten), pv, cv, none] ∧ ob = [(t, .inst 133 d), (d, .dct (tokE it st l (ik : Int) (ovV ok))), (F, .set true cs)]) (fun k v lo ob hv hI => ?_) (fun lo ob hI => ?_) ⟨_, _, i, o, ⟨H0, Nat.zero_le _, Nat.zero_le _, (fun _ h => nomatch h)⟩, rfl, rfl⟩)
    · obtain ⟨pv, cv, ik, ok, ⟨Hk, hk1, hk2, hk3⟩, rfl, rfl⟩ := hI
      obtain ⟨hkn, rfl⟩ : k < n ∧ V.int (0 + (k : Int)) = v := by
        rw [List.getElem?_map] at hv
        by_cases hk : k < n
        · rw [List.getElem?_range hk] at hv
          exact ⟨hk, Option.some.inj hv⟩
        · rw [List.getElem?_eq_none (by simpa using hk)] at hv
          cases hv
      clear hv
      rw [Int.zero_add]
      have hik := Nat.le_trans (toks_le Hk) (Nat.le_trans hl (by decide : 1000 ≤ 2000))
      have hfl := Nat.le_trans (toks_flat H0 k) hl
      cases hd : ss.drop k with
      | nil =>
        rw [hd] at Hk
        obtain rfl := toks_nil Hk
        have e1 : gwS cs n ss = ss.take k := gw_stop hk1 hk2 hk3 (.inr fun s r e => by rw [hd] at e; cases e)
        rw [e1, List.length_take, Nat.min_eq_left hk2, hd] at H2
        obtain ⟨rfl, rfl⟩ := toks_one H2 Hk
        rw [show ovV none = V.none from rfl]
        rw [e1] at hTr
        rw [show ovV none = V.none from rfl] at hTr
        repeat' (first | ((with_reducible show Op2 _ _ _ _ _ _ _ _); first | ((with_reducible refine notin_none (by first | ((k_dflt ((with_reducible_and_instances repeat (first | exact List.Mem.head _ | apply List.Mem.tail)))); done) | fail) (by first | ((k_dflt (assumption)); done) | fail) ?_))) | ((with_reducible show Then _ _ _ _ _ _ _); first | ((with_reducible refine then_next ?_)) | ((with_reducible refine then_ret ?_)) | ((with_reducible refine then_brk ?_))) | ((with_reducible show W _ FR (execs _ _) _ _ _ _); first | ((with_reducible refine S_cons ?_))) | ((with_reducible show W _ VR (eval (Expr.Name _ _) _) _ _ _ _); first | ((with_reducible refine W_local (by first | ((k_dflt (assumption)); done) | fail) (by first | ((k_dflt (assumption)); done) | fail) (by first | ((k_dflt (assumption)); done) | fail) (by first | ((k_dflt ((with_reducible repeat (first | exact Has.here | apply Has.there)))); done) | fail) ?_))) | ((with_reducible show W _ VR (eval (Expr.Attribute _ _ _) _) _ _ _ _); first | (refine W_Attr ?_)) | ((with_reducible show W _ FR (exec (Stmt.Assign [Expr.Name _ _] _ _) _) _ _ _ _); first | (refine S_Assign ?_)) | ((with_reducible show W _ FR (exec (Stmt.If _ _ _ _) _) _ _ _ _); first | ((with_reducible refine S_If ?_))) | ((with_reducible show W _ FR (exec (Stmt.Return (some _) _) _) _ _ _ _); first | ((with_reducible refine S_Return ?_))) | ((with_reducible show W _ FR (exec (Stmt.Break _) _) _ _ _ _); first | ((with_reducible refine S_Break ?_))) | ((with_reducible show W _ BR (isTrue (Expr.Compare _ _ _ _) _ _) _ _ _ _); first | (refine T_Compare ?_)) | ((with_reducible show Tru _ _ _ _ _ _); first | ((with_reducible refine tru_bool ?_))) | ((with_reducible show Br true _ _); first | ((with_reducible refine br_t ?_))) | ((with_reducible show TurnQ _ _ _ _ _); first | ((with_reducible refine turn_brk ?_))) | ((with_reducible show Asg _ _ _ _ _ _ _); first | ((with_reducible refine asg_name ?_))) | ((with_reducible show Sto _ _ _ _ _ _ _); first | ((with_reducible refine Sto_local (by first | ((k_dflt (assumption)); done) | fail) (by first | ((k_dflt (assumption)); done) | fail) (by first | ((k_dflt (assumption)); done) | fail) (by first | ((k_dflt ((with_reducible repeat (first | exact Put.here | apply Put.there)))); done) | fail) ?_))) | ((with_reducible show GetA _ _ _ _ _ _ _); first | ((with_reducible refine geta_tk (by first | ((k_dflt (assumption)); done) | fail) (by first | ((k_dflt (assumption)); done) | fail) (by first | ((k_dflt ((with_reducible_and_instances repeat (first | exact List.Mem.head _ | apply List.Mem.tail)))); done) | fail) (by first | ((k_dflt ((with_reducible_and_instances repeat (first | exact List.Mem.head _ | apply List.Mem.tail)))); done) | fail) (by first | ((k_dflt ((with_reducible_and_instances repeat (first | exact List.Mem.head _ | apply List.Mem.tail)))); done) | fail) (by first | ((k_dflt ((with_reducible repeat (first | exact Ent.here | (apply Ent.there; (focus decide)))))); done) | fail) (by first | ((k_dflt (first | exact rfl | exact handed_ovV _ | assumption)); done) | fail) ?_))) | fail)
        all_goals first | (refine' hTr (ob2 := [(t, .inst 133 d), (d, .dct _), (F, .set true cs)]) ?fp ?fe0 ?fe1; (case fp => (with_reducible repeat (first | exact Picks.nil | (apply Picks.cons; (focus (with_reducible repeat (first | exact Pick.head | apply Pick.tail))))))); (case fe0 => first | rfl | assumption); (case fe1 => rfl))
      | cons s r =>
        rw [hd] at Hk
        obtain ⟨rfl, hsg, i', o', hn', Hk'⟩ := toks_cons Hk
        obtain ⟨g1, g2, g3⟩ := take_step hd
        rw [show ovV (some s) = V.str s from rfl]
        have hs2 := hsg.pos.2
        by_cases hsc : s ∈ cs
        · have hq : ∀ x ∈ ss.take (k + 1), x ∈ cs := fun x hx => by
            rw [g2] at hx
            exact (List.mem_append.mp hx).elim (hk3 x) fun h => by rw [List.mem_singleton.mp h]; exact hsc
          have hfe : (ss.take k).flatten ++ s = (ss.take (k + 1)).flatten := by rw [g2, List.flatten_append, List.flatten_singleton]
          have hz9 : (ss.take k).flatten.length + s.length ≤ 1000000 := by omega
          clear H2 hTr hTn
          repeat' (first | ((with_reducible show Op2 _ _ _ _ _ _ _ _); first | ((with_reducible refine notin_str (by first | ((k_dflt ((with_reducible_and_instances repeat (first | exact List.Mem.head _ | apply List.Mem.tail)))); done) | fail) (by first | ((k_dflt (assumption)); done) | fail) ?_))) | ((with_reducible show Cal _ _ _ _ _ _ _); first | ((refine cal_E (by first | ((k_dflt (assumption)); done) | fail) (by first | ((k_dflt ((with_reducible repeat (first | exact Picks.nil | (apply Picks.cons; (focus (with_reducible repeat (first | exact Pick.head | apply Pick.tail)))))))); done) | fail) (next_F (by assumption) (by first | ((k_dflt (assumption)); done) | fail) (by first | ((k_dflt (first | omega | exact Nat.zero_le _)); done) | fail) (by first | ((k_dflt (first | exact rfl | exact (rfl : (0 : Int) = ((0 : Nat) : Int)))); done) | fail) (by first | ((k_dflt (assumption)); done) | fail)) (by first | ((k_dflt ((with_reducible repeat (first | exact App.nil | apply App.cons)))); done) | fail) (by first | ((k_dflt (((try dsimp only); omega))); done) | fail) (by first | ((k_dflt (first | exact .inl rfl | exact .inr (by assumption))); done) | fail) ?_))) | ((with_reducible show Then _ _ _ _ _ _ _); first | ((with_reducible refine then_next ?_))) | ((with_reducible show W _ FR (execs _ _) _ _ _ _); first | ((with_reducible refine S_cons ?_)) | ((with_reducible refine S_nil ?_))) | ((with_reducible show W _ VR (eval (Expr.Name _ _) _) _ _ _ _); first | ((with_reducible refine W_local (by first | ((k_dflt (assumption)); done) | fail) (by first | ((k_dflt (assumption)); done) | fail) (by first | ((k_dflt (assumption)); done) | fail) (by first | ((k_dflt ((with_reducible repeat (first | exact Has.here | apply Has.there)))); done) | fail) ?_))) | ((with_reducible show W _ VR (eval (Expr.Attribute _ _ _) _) _ _ _ _); first | (refine W_Attr ?_)) | ((with_reducible show W _ VR (eval (Expr.Call (Expr.Attribute _ _ _) _ _ _) _) _ _ _ _); first | (refine W_Method (by assumption) (by rfl) ?_)) | ((with_reducible show W _ FR (exec (Stmt.Assign [Expr.Name _ _] _ _) _) _ _ _ _); first | (refine S_Assign ?_)) | ((with_reducible show W _ FR (exec (Stmt.If _ _ _ _) _) _ _ _ _); first | ((with_reducible refine S_If ?_))) | ((with_reducible show W _ FR (exec (Stmt.Expr _ _) _) _ _ _ _); first | (refine S_ExprV ?_ (inter (by assumption)))) | ((with_reducible show W _ FR (exec (Stmt.AugAssign (Expr.Name _ _) _ _ _) _) _ _ _ _); first | ((with_reducible refine S_Aug (by first | ((k_dflt (assumption)); done) | fail) (by first | ((k_dflt (assumption)); done) | fail) (by first | ((k_dflt (assumption)); done) | fail) (by first | ((k_dflt ((with_reducible repeat (first | exact Has.here | apply Has.there)))); done) | fail) ?_))) | ((with_reducible show W _ BR (isTrue (Expr.Compare _ _ _ _) _ _) _ _ _ _); first | (refine T_Compare ?_)) | ((with_reducible show Op2 _ _ _ _ _ _ _ _); first | ((with_reducible refine iadd_strs (by first | ((k_dflt ((first | assumption | omega | decide | (simp only [List.length_append, List.length_cons, List.length_nil, List.length_drop, List.length_take, List.length_map]; omega) | (simp only [List.length_append, List.length_cons, List.length_nil, List.length_drop, List.length_take, List.length_map] at *; omega)))); done) | fail) ?_))) | ((with_reducible show Tru _ _ _ _ _ _); first | ((with_reducible refine tru_bool ?_))) | ((with_reducible show Br (! _) _ _); first | ((with_reducible refine br_not ?_))) | ((with_reducible show Br (decide _) _ _); first | ((with_reducible refine br_yes (by assumption) ?_))) | ((with_reducible show Args _ _ _ _ _ _); first | ((with_reducible refine args_nil' ?_))) | ((with_reducible show TurnQ _ _ _ _ _); first | ((with_reducible refine turn_next ?_))) | ((with_reducible show Kp _ _ ∧ _); first | ((with_reducible refine kp_met (by first | ((k_dflt (assumption)); done) | fail) (by first | ((k_dflt ((with_reducible_and_instances repeat (first | exact List.Mem.head _ | apply List.Mem.tail)))); done) | fail) ?_))) | ((with_reducible show plainV _ = true ∧ _); first | ((with_reducible refine plain_and rfl ?_))) | ((with_reducible show Asg _ _ _ _ _ _ _); first | ((with_reducible refine asg_name ?_))) | ((with_reducible show Sto _ _ _ _ _ _ _); first | ((with_reducible refine Sto_local (by first | ((k_dflt (assumption)); done) | fail) (by first | ((k_dflt (assumption)); done) | fail) (by first | ((k_dflt (assumption)); done) | fail) (by first | ((k_dflt ((with_reducible repeat (first | exact Put.here | apply Put.there)))); done) | fail) ?_))) | ((with_reducible show GetM _ _ _ _ _ _ _); first | ((with_reducible refine getm_tk (by first | ((k_dflt (assumption)); done) | fail) (by first | ((k_dflt (assumption)); done) | fail) (by first | ((k_dflt ((with_reducible_and_instances repeat (first | exact List.Mem.head _ | apply List.Mem.tail)))); done) | fail) (by first | ((k_dflt ((with_reducible_and_instances repeat (first | exact List.Mem.head _ | apply List.Mem.tail)))); done) | fail) (by first | ((k_dflt ((with_reducible_and_instances repeat (first | exact List.Mem.head _ | apply List.Mem.tail)))); done) | fail) (by first | ((k_dflt ((repeat (first | with_reducible exact NoEnt.nil | (with_reducible apply NoEnt.cons; (focus decide)))))); done) | fail) ?_))) | ((with_reducible show GetA _ _ _ _ _ _ _); first | ((with_reducible refine geta_tk (by first | ((k_dflt (assumption)); done) | fail) (by first | ((k_dflt (assumption)); done) | fail) (by first | ((k_dflt ((with_reducible_and_instances repeat (first | exact List.Mem.head _ | apply List.Mem.tail)))); done) | fail) (by first | ((k_dflt ((with_reducible_and_instances repeat (first | exact List.Mem.head _ | apply List.Mem.tail)))); done) | fail) (by first | ((k_dflt ((with_reducible_and_instances repeat (first | exact List.Mem.head _ | apply List.Mem.tail)))); done) | fail) (by first | ((k_dflt ((with_reducible repeat (first | exact Ent.here | (apply Ent.there; (focus decide)))))); done) | fail) (by first | ((k_dflt (first | exact rfl | exact handed_ovV _ | assumption)); done) | fail) ?_))) | fail)
          all_goals first
            | exact Wkn.of ⟨_, _, i', o', ⟨g3 ▸ Hk', hkn, g1, hq⟩, by rw [hfe], rfl⟩
        · have e1 : gwS cs n ss = ss.take k := gw_stop hk1 hk2 hk3 (.inr fun s' r' e => by rw [hd] at e; injection e with e _; rw [← e]; exact hsc)
          rw [e1, List.length_take, Nat.min_eq_left hk2, hd] at H2
          obtain ⟨rfl, rfl⟩ := toks_one H2 Hk
          rw [e1] at hTr
          rw [show ovV (some s) = V.str s from rfl] at hTr
          repeat' (first | ((with_reducible show Op2 _ _ _ _ _ _ _ _); first | ((with_reducible refine notin_str (by first | ((k_dflt ((with_reducible_and_instances repeat (first | exact List.Mem.head _ | apply List.Mem.tail)))); done) | fail) (by first | ((k_dflt (assumption)); done) | fail) ?_))) | ((with_reducible show Then _ _ _ _ _ _ _); first | ((with_reducible refine then_next ?_)) | ((with_reducible refine then_ret ?_)) | ((with_reducible refine then_brk ?_))) | ((with_reducible show W _ FR (execs _ _) _ _ _ _); first | ((with_reducible refine S_cons ?_))) | ((with_reducible show W _ VR (eval (Expr.Name _ _) _) _ _ _ _); first | ((with_reducible refine W_local (by first | ((k_dflt (assumption)); done) | fail) (by first | ((k_dflt (assumption)); done) | fail) (by first | ((k_dflt (assumption)); done) | fail) (by first | ((k_dflt ((with_reducible repeat (first | exact Has.here | apply Has.there)))); done) | fail) ?_))) | ((with_reducible show W _ VR (eval (Expr.Attribute _ _ _) _) _ _ _ _); first | (refine W_Attr ?_)) | ((with_reducible show W _ FR (exec (Stmt.Assign [Expr.Name _ _] _ _) _) _ _ _ _); first | (refine S_Assign ?_)) | ((with_reducible show W _ FR (exec (Stmt.If _ _ _ _) _) _ _ _ _); first | ((with_reducible refine S_If ?_))) | ((with_reducible show W _ FR (exec (Stmt.Return (some _) _) _) _ _ _ _); first | ((with_reducible refine S_Return ?_))) | ((with_reducible show W _ FR (exec (Stmt.Break _) _) _ _ _ _); first | ((with_reducible refine S_Break ?_))) | ((with_reducible show W _ BR (isTrue (Expr.Compare _ _ _ _) _ _) _ _ _ _); first | (refine T_Compare ?_)) | ((with_reducible show Tru _ _ _ _ _ _); first | ((with_reducible refine tru_bool ?_))) | ((with_reducible show Br (! _) _ _); first | ((with_reducible refine br_not ?_))) | ((with_reducible show Br (decide _) _ _); first | ((with_reducible refine br_no (by assumption) ?_))) | ((with_reducible show TurnQ _ _ _ _ _); first | ((with_reducible refine turn_brk ?_))) | ((with_reducible show Asg _ _ _ _ _ _ _); first | ((with_reducible refine asg_name ?_))) | ((with_reducible show Sto _ _ _ _ _ _ _); first | ((with_reducible refine Sto_local (by first | ((k_dflt (assumption)); done) | fail) (by first | ((k_dflt (assumption)); done) | fail) (by first | ((k_dflt (assumption)); done) | fail) (by first | ((k_dflt ((with_reducible repeat (first | exact Put.here | apply Put.there)))); done) | fail) ?_))) | ((with_reducible show GetA _ _ _ _ _ _ _); first | ((with_reducible refine geta_tk (by first | ((k_dflt (assumption)); done) | fail) (by first | ((k_dflt (assumption)); done) | fail) (by first | ((k_dflt ((with_reducible_and_instances repeat (first | exact List.Mem.head _ | apply List.Mem.tail)))); done) | fail) (by first | ((k_dflt ((with_reducible_and_instances repeat (first | exact List.Mem.head _ | apply List.Mem.tail)))); done) | fail) (by first | ((k_dflt ((with_reducible_and_instances repeat (first | exact List.Mem.head _ | apply List.Mem.tail)))); done) | fail) (by first | ((k_dflt ((with_reducible repeat (first | exact Ent.here | (apply Ent.there; (focus decide)))))); done) | fail) (by first | ((k_dflt (first | exact rfl | exact handed_ovV _ | assumption)); done) | fail) ?_))) | fail)
          all_goals first | (refine' hTr (ob2 := [(t, .inst 133 d), (d, .dct _), (F, .set true cs)]) ?fp ?fe0 ?fe1; (case fp => (with_reducible repeat (first | exact Picks.nil | (apply Picks.cons; (focus (with_reducible repeat (first | exact Pick.head | apply Pick.tail))))))); (case fe0 => first | rfl | assumption); (case fe1 => rfl))
    · obtain ⟨pv, cv, ik, ok, ⟨Hk, hk1, hk2, hk3⟩, rfl, rfl⟩ := hI
      rw [List.length_map, List.length_range] at Hk hk1 hk2 hk3 ⊢
      have e1 : gwS cs n ss = ss.take n := gw_stop hk1 hk2 hk3 (.inl rfl)
      rw [e1, List.length_take, Nat.min_eq_left hk2] at H2
      obtain ⟨rfl, rfl⟩ := toks_one H2 Hk
      rw [e1] at hTr
      repeat' (first | ((with_reducible show Then _ _ _ _ _ _ _); first | ((with_reducible refine then_next ?_)) | ((with_reducible refine then_ret ?_))) | ((with_reducible show W _ FR (execs _ _) _ _ _ _); first | ((with_reducible refine S_cons ?_))) | ((with_reducible show W _ VR (eval (Expr.Name _ _) _) _ _ _ _); first | ((with_reducible refine W_local (by first | ((k_dflt (assumption)); done) | fail) (by first | ((k_dflt (assumption)); done) | fail) (by first | ((k_dflt (assumption)); done) | fail) (by first | ((k_dflt ((with_reducible repeat (first | exact Has.here | apply Has.there)))); done) | fail) ?_))) | ((with_reducible show W _ FR (exec (Stmt.Return (some _) _) _) _ _ _ _); first | ((with_reducible refine S_Return ?_))) | fail)
      all_goals first | (refine' hTr (ob2 := [(t, .inst 133 d), (d, .dct _), (F, .set true cs)]) ?fp ?fe0 ?fe1; (case fp => (with_reducible repeat (first | exact Picks.nil | (apply Picks.cons; (focus (with_reducible repeat (first | exact Pick.head | apply Pick.tail))))))); (case fe0 => first | rfl | assumption); (case fe1 => rfl))
  case c1 => exact rfl
  case c2 => exact rfl
  case c3 => exact rfl
theorem fig_F : ∀ {g : G} (HG : GK g) {xz bz wz : Int} {v b w : Nat} (hx : xz = (v : Int)) (hbz : bz = (b : Int)) (hwz : wz = (w : Int)) (hb : 0 < b) (hb2 : b ≤ 16) (hw : w ≤ 8), FnE g 149 [.int xz, .int bz, .int wz] 2 false (.str (figS (figF v) b v w).flatten) ([]) ([]) := by
  k_fill
  intro g HG xz bz wz v b w hx hbz hwz hb hb2 hw
  have H := HG.tk
  have hp := HG.hp
  have hK := HG.hK
  skip
  refine FnC.forget ?_
  refine' fn_intro (pn := [Str.ofString "value", Str.ofString "base", Str.ofString "width"]) (lo0 := [some (.int xz), some (.int bz), some (.int wz), none, none, none, none]) (X := fun _ _ _ => False) ?ho ?hcd ?hb ?hpn ?hlo ?hloc ?hnd ?hcell leaves_never ?h ?c1 ?c2 ?c3
  case ho => rw [hK]; k_is
  case hcd => rw [hK]; k_is
  case hb => intro s' cas' X' hv'; obtain ⟨c1', c2', c3', rfl, h1', h2', h3'⟩ := VRs3 hv'; first | exact BindsTo.of_eq rfl | (rw [hK] at X'; exact binds_K X' rfl (by k_is) rfl rfl rfl)
  case hpn => decide
  case hlo => rfl
  case hloc => decide
  case hnd => decide
  case hcell => decide
  case h =>
    intro c ok hg henv hns hns' hcv hd hhq
    subst hg
    dsimp only at hns hns'
    have hh := hhq rfl
    subst hx hbz hwz
    have hbp : (0 : Int) < (b : Int) := Int.ofNat_lt.mpr hb
    have hb0 : (b : Int) ≠ 0 := Int.ne_of_gt hbp
    have hbs : (b : Int).natAbs < 1073741824 := Nat.lt_of_le_of_lt hb2 (by decide)
    have hfz : (figF v).length ≤ 100000 := by rw [figF_len]; decide
    refine fnq_G ?_
    intro TQ hTr hTn
    refine S_cutG [some (.int (v : Int)), some (.int (b : Int)), some (.int (w : Int)), some (.str (figF v)), none, none, none] [] ?_ ?_
    · intro TQ1 hT1
      repeat' (first | ((with_reducible show W _ VR (eval (Expr.Name _ _) _) _ _ _ _); first | ((with_reducible refine W_local (by first | ((k_dflt (assumption)); done) | fail) (by first | ((k_dflt (assumption)); done) | fail) (by first | ((k_dflt (assumption)); done) | fail) (by first | ((k_dflt ((with_reducible repeat (first | exact Has.here | apply Has.there)))); done) | fail) ?_))) | ((with_reducible show W _ VR (eval (Expr.Constant (Const.int _) _ _) _) _ _ _ _); first | ((with_reducible refine W_int ?_))) | ((with_reducible show W _ VR (eval (Expr.Constant (Const.str _) _ _) _) _ _ _ _); first | ((with_reducible refine W_str lit3 ?_)) | ((with_reducible refine W_str lit4 ?_))) | ((with_reducible show W _ VR (eval (Expr.BinOp _ _ _ _) _) _ _ _ _); first | ((with_reducible refine W_BinOp ?_))) | ((with_reducible show W _ VR (eval (Expr.IfExp _ _ _ _) _) _ _ _ _); first | ((with_reducible refine W_IfExp ?_))) | ((with_reducible show W _ FR (exec (Stmt.Assign [Expr.Name _ _] _ _) _) _ _ _ _); first | (refine S_Assign ?_)) | ((with_reducible show W _ BR (isTrue _ _ _) _ _ _ _); first | (refine T_plain rfl ?_)) | ((with_reducible show Op2 _ _ _ _ _ _ _ _); first | ((with_reducible refine mod_ints (by first | ((k_dflt ((first | assumption | omega | decide | (simp only [List.length_append, List.length_cons, List.length_nil, List.length_drop, List.length_take, List.length_map]; omega) | (simp only [List.length_append, List.length_cons, List.length_nil, List.length_drop, List.length_take, List.length_map] at *; omega)))); done) | fail) ?_))) | ((with_reducible show Tru _ _ _ _ _ _); first | ((with_reducible refine tru_int ?_))) | ((with_reducible show Br (decide _) _ _); first | (with_reducible refine br_dec ?_ ?_ <;> intro _)) | ((with_reducible show Sto _ _ _ _ _ _ _); first | ((with_reducible refine Sto_local (by first | ((k_dflt (assumption)); done) | fail) (by first | ((k_dflt (assumption)); done) | fail) (by first | ((k_dflt (assumption)); done) | fail) (by first | ((k_dflt ((with_reducible repeat (first | exact Put.here | apply Put.there)))); done) | fail) ?_))) | fail)
      all_goals first
        | (rw [figF_no (by assumption)] at hT1; refine' hT1 _ _ _ ?gl ?gp; (case gl => (with_reducible repeat (first | exact LoS.nil | apply LoS.keep | apply LoS.drop))); (case gp => (with_reducible repeat (first | exact Picks.nil | (apply Picks.cons; (focus (with_reducible repeat (first | exact Pick.head | apply Pick.tail))))))))
        | (rw [figF_yes (by assumption)] at hT1; refine' hT1 _ _ _ ?gl ?gp; (case gl => (with_reducible repeat (first | exact LoS.nil | apply LoS.keep | apply LoS.drop))); (case gp => (with_reducible repeat (first | exact Picks.nil | (apply Picks.cons; (focus (with_reducible repeat (first | exact Pick.head | apply Pick.tail))))))))
    repeat' (first | ((with_reducible show Then _ _ _ _ _ _ _); first | ((with_reducible refine then_next ?_))) | ((with_reducible show W _ FR (execs _ _) _ _ _ _); first | ((with_reducible refine S_cons ?_))) | ((with_reducible show W _ VR (eval (Expr.Name _ _) _) _ _ _ _); first | ((with_reducible refine W_local (by first | ((k_dflt (assumption)); done) | fail) (by first | ((k_dflt (assumption)); done) | fail) (by first | ((k_dflt (assumption)); done) | fail) (by first | ((k_dflt ((with_reducible repeat (first | exact Has.here | apply Has.there)))); done) | fail) ?_)) | ((with_reducible refine W_bltT (by first | ((k_dflt (assumption)); done) | fail) (by first | ((k_dflt (assumption)); done) | fail) (by first | ((k_dflt (assumption)); done) | fail) (by first | ((k_dflt ((with_reducible repeat (first | exact InN.here | apply InN.there)))); done) | fail) (by first | ((k_dflt ((with_reducible_and_instances repeat (first | exact List.Mem.head _ | apply List.Mem.tail)))); done) | fail) ?_))) | ((with_reducible show W _ VR (eval (Expr.Constant (Const.str _) _ _) _) _ _ _ _); first | ((with_reducible refine W_str lit0 ?_))) | ((with_reducible show W _ VR (eval (Expr.Call _ _ _ _) _) _ _ _ _); first | (refine W_Call (by assumption) (by rfl) ?_)) | ((with_reducible show W _ FR (exec (Stmt.Assign [Expr.Name _ _] _ _) _) _ _ _ _); first | (refine S_Assign ?_)) | ((with_reducible show W _ FR (exec (Stmt.For _ _ _ _ _) _) _ _ _ _); first | (refine S_For ?_)) | ((with_reducible show Cal _ _ _ _ _ _ _); first | ((with_reducible refine range_1 ?_); intro _)) | ((with_reducible show Args _ _ _ _ _ _); first | ((with_reducible refine args_cons' ?_)) | ((with_reducible refine args_nil' ?_))) | ((with_reducible show Kp _ _ ∧ _); first | ((with_reducible refine kp_and kp_type ?_))) | ((with_reducible show Sto _ _ _ _ _ _ _); first | ((with_reducible refine Sto_local (by first | ((k_dflt (assumption)); done) | fail) (by first | ((k_dflt (assumption)); done) | fail) (by first | ((k_dflt (assumption)); done) | fail) (by first | ((k_dflt ((with_reducible repeat (first | exact Put.here | apply Put.there)))); done) | fail) ?_))) | fail)
    refine' For_range (n := w) ?rh ?rE ?rp ?rs ?rn ?_
    case rh => assumption
    case rE => exact passes_never
    case rp => (with_reducible repeat (first | exact Picks.nil | (apply Picks.cons; (focus (with_reducible repeat (first | exact Pick.head | apply Pick.tail))))))
    case rs => exact small_one (by omega) (by omega) (by omega) (by omega)
    case rn => exact rangeSize_nat _ _
    refine Wkn.of (forW_inv (fun k lo ob => ∃ pv, lo = [some (.int ((v / b ^ k : Nat) : Int)), some (.int (b : Int)), some (.int (w : Int)), some (.str (figF v)), some (.str (figS (figF v) b v k).flatten), pv, none] ∧ ob = []) (fun k v' lo ob hv hI => ?_) (fun lo ob hI => ?_) ⟨_, by rw [Nat.pow_zero, Nat.div_one]; rfl, rfl⟩)
    · obtain ⟨pv, rfl, rfl⟩ := hI
      obtain ⟨hkn, rfl⟩ : k < w ∧ V.int (0 + (k : Int)) = v' := by
        rw [List.getElem?_map] at hv
        by_cases hk : k < w
        · rw [List.getElem?_range hk] at hv
          exact ⟨hk, Option.some.inj hv⟩
        · rw [List.getElem?_eq_none (by simpa using hk)] at hv
          cases hv
      clear hv
      rw [Int.zero_add]
      have hfl := figS_flat (F := figF v) (b := b) (v := v) k
      have hm0 : (0 : Int) ≤ ((v / b ^ k : Nat) : Int).fmod (b : Int) := fmod_lo _ hbp
      have hm1 : ((v / b ^ k : Nat) : Int).fmod (b : Int) < ((figF v).length : Int) := Int.lt_of_lt_of_le (fmod_hi _ hbp) (by rw [figF_len]; exact Int.ofNat_le.mpr hb2)
      have hz9 : (figS (figF v) b v k).flatten.length ≤ 100 := by omega
      clear hTr hTn
      repeat' (first | ((with_reducible show Op2 _ _ _ _ _ _ _ _); first | ((with_reducible refine ifdiv_ints (by first | ((k_dflt (assumption)); done) | fail) (by first | ((k_dflt (assumption)); done) | fail) ?_))) | ((with_reducible show Sub2 _ _ _ _ _ _ _ _ _); first | ((refine sub_str_in (by first | ((k_dflt (assumption)); done) | fail) (by first | ((k_dflt (assumption)); done) | fail) (by first | ((k_dflt (assumption)); done) | fail) (by first | ((k_dflt (assumption)); done) | fail) ?_); intro _ _)) | ((with_reducible show Then _ _ _ _ _ _ _); first | ((with_reducible refine then_next ?_))) | ((with_reducible show W _ FR (execs _ _) _ _ _ _); first | ((with_reducible refine S_cons ?_)) | ((with_reducible refine S_nil ?_))) | ((with_reducible show W _ VR (eval (Expr.Name _ _) _) _ _ _ _); first | ((with_reducible refine W_local (by first | ((k_dflt (assumption)); done) | fail) (by first | ((k_dflt (assumption)); done) | fail) (by first | ((k_dflt (assumption)); done) | fail) (by first | ((k_dflt ((with_reducible repeat (first | exact Has.here | apply Has.there)))); done) | fail) ?_))) | ((with_reducible show W _ VR (eval (Expr.Constant (Const.int _) _ _) _) _ _ _ _); first | ((with_reducible refine W_int ?_))) | ((with_reducible show W _ VR (eval (Expr.Constant (Const.str _) _ _) _) _ _ _ _); first | ((with_reducible refine W_str lit0 ?_)) | ((with_reducible refine W_str lit1 ?_))) | ((with_reducible show W _ VR (eval (Expr.BinOp _ _ _ _) _) _ _ _ _); first | ((with_reducible refine W_BinOp ?_))) | ((with_reducible show W _ VR (eval (Expr.IfExp _ _ _ _) _) _ _ _ _); first | ((with_reducible refine W_IfExp ?_))) | ((with_reducible show W _ VR (eval (Expr.Subscript _ _ _) _) _ _ _ _); first | (refine W_Sub ?_)) | ((with_reducible show W _ FR (exec (Stmt.Assign [Expr.Name _ _] _ _) _) _ _ _ _); first | (refine S_Assign ?_)) | ((with_reducible show W _ FR (exec (Stmt.AugAssign (Expr.Name _ _) _ _ _) _) _ _ _ _); first | ((with_reducible refine S_Aug (by first | ((k_dflt (assumption)); done) | fail) (by first | ((k_dflt (assumption)); done) | fail) (by first | ((k_dflt (assumption)); done) | fail) (by first | ((k_dflt ((with_reducible repeat (first | exact Has.here | apply Has.there)))); done) | fail) ?_))) | ((with_reducible show W _ BR (isTrue (Expr.BoolOp _ _ _) _ _) _ _ _ _); first | ((with_reducible refine T_BoolOp ?_))) | ((with_reducible show W _ BR (isTrue (Expr.Compare _ _ _ _) _ _) _ _ _ _); first | (refine T_Compare ?_)) | ((with_reducible show Op2 _ _ _ _ _ _ _ _); first | ((with_reducible refine add_ints ?_)) | ((with_reducible refine lt_ints ?_)) | ((with_reducible refine eq_ints ?_)) | ((with_reducible refine mod_ints (by first | ((k_dflt ((first | assumption | omega | decide | (simp only [List.length_append, List.length_cons, List.length_nil, List.length_drop, List.length_take, List.length_map]; omega) | (simp only [List.length_append, List.length_cons, List.length_nil, List.length_drop, List.length_take, List.length_map] at *; omega)))); done) | fail) ?_)) | ((with_reducible refine add_strs (by first | ((k_dflt ((first | assumption | omega | decide | (simp only [List.length_append, List.length_cons, List.length_nil, List.length_drop, List.length_take, List.length_map]; omega) | (simp only [List.length_append, List.length_cons, List.length_nil, List.length_drop, List.length_take, List.length_map] at *; omega)))); done) | fail) ?_))) | ((with_reducible show Tru _ _ _ _ _ _); first | ((with_reducible refine tru_bool ?_))) | ((with_reducible show Br true _ _); first | ((with_reducible refine br_t ?_))) | ((with_reducible show Br false _ _); first | ((with_reducible refine br_f ?_))) | ((with_reducible show Br (decide _) _ _); first | (with_reducible refine br_dec ?_ ?_ <;> intro _)) | ((with_reducible show TstAll _ _ _ _ _ _ _); first | ((with_reducible refine tst_and ?_)) | ((with_reducible refine tst_and_nil ?_))) | ((with_reducible show TurnQ _ _ _ _ _); first | ((with_reducible refine turn_next ?_))) | ((with_reducible show Asg _ _ _ _ _ _ _); first | ((with_reducible refine asg_name ?_))) | ((with_reducible show Sto _ _ _ _ _ _ _); first | ((with_reducible refine Sto_local (by first | ((k_dflt (assumption)); done) | fail) (by first | ((k_dflt (assumption)); done) | fail) (by first | ((k_dflt (assumption)); done) | fail) (by first | ((k_dflt ((with_reducible repeat (first | exact Put.here | apply Put.there)))); done) | fail) ?_))) | fail)
      all_goals first
        | exact Wkn.of ⟨_, by rw [fig_div, fig_yes (by assumption) (by assumption) (by assumption)]; rfl, rfl⟩
        | exact Wkn.of ⟨_, by rw [fig_div, fig_no1 (by assumption) (by assumption)]; rfl, rfl⟩
        | exact Wkn.of ⟨_, by rw [fig_div, fig_no2 (by assumption) (by assumption)]; rfl, rfl⟩
    · obtain ⟨pv, rfl, rfl⟩ := hI
      rw [List.length_map, List.length_range]
      repeat' (first | ((with_reducible show Then _ _ _ _ _ _ _); first | ((with_reducible refine then_next ?_)) | ((with_reducible refine then_ret ?_))) | ((with_reducible show W _ FR (execs _ _) _ _ _ _); first | ((with_reducible refine S_cons ?_))) | ((with_reducible show W _ VR (eval (Expr.Name _ _) _) _ _ _ _); first | ((with_reducible refine W_local (by first | ((k_dflt (assumption)); done) | fail) (by first | ((k_dflt (assumption)); done) | fail) (by first | ((k_dflt (assumption)); done) | fail) (by first | ((k_dflt ((with_reducible repeat (first | exact Has.here | apply Has.there)))); done) | fail) ?_))) | ((with_reducible show W _ FR (exec (Stmt.Return (some _) _) _) _ _ _ _); first | ((with_reducible refine S_Return ?_))) | fail)
      all_goals first | (refine' hTr (ob2 := []) ?fp ?fe0 ?fe1; (case fp => (with_reducible repeat (first | exact Picks.nil | (apply Picks.cons; (focus (with_reducible repeat (first | exact Pick.head | apply Pick.tail))))))); (case fe0 => first | rfl | assumption); (case fe1 => rfl))
    
  case c1 => exact rfl
  case c2 => exact rfl
  case c3 => exact rfl
theorem wor_F : ∀ {g : G} (HG : GK g) {s : List Nat} {bz wz : Int} {b w : Nat} (hbz : bz = (b : Int)) (hwz : wz = (w : Int)) (hb2 : b ≤ 16) (hz : s.length ≤ 1000) (hx : ∀ k ∈ bare s, k ∈ hexA), FnE g 156 [.str s, .int bz, .int wz] 2 false (.int (worL s b w)) ([]) ([]) := by
  k_fill
  intro g HG s bz wz b w hbz hwz hb2 hz hx
  have H := HG.tk
  have hp := HG.hp
  have hK := HG.hK
  skip
  refine FnC.forget ?_
  refine' fn_introW (pn := [Str.ofString "figures", Str.ofString "base", Str.ofString "width"]) (lo0 := [some (.str s), some (.int bz), some (.int wz), none, none, none, none]) (X := fun _ _ _ => False) ?ho ?hcd ?hb ?hp0 ?hpl ?hpn ?hlo ?hloc ?hnd ?hcell leaves_never ?h ?c1 ?c2 ?c3
  case ho => rw [hK]; k_is
  case hcd => rw [hK]; k_is
  case hb => intro s' cas' X' hv'; obtain ⟨c1', c2', c3', rfl, h1', h2', h3'⟩ := VRs3 hv'; first | exact BindsTo.of_eq rfl | (rw [hK] at X'; exact binds_K X' rfl (by k_is) rfl rfl rfl)
  case hp0 => exact List.cons_ne_nil _ _
  case hpl => exact List.cons_ne_nil _ _
  case hpn => decide
  case hlo => rfl
  case hloc => decide
  case hnd => decide
  case hcell => decide
  case h =>
    intro c ok hg henv hns hns' hcv hd hhq
    subst hg
    dsimp only at hns hns'
    have hh := hhq rfl
    subst hbz hwz
    have hb0 : (0 : Int) ≤ (b : Int) := Int.natCast_nonneg b
    have hb1 : (b : Int) ≤ 1000 := Int.ofNat_le.mpr (Nat.le_trans hb2 (by decide))
    have hbz : (bare s).length ≤ 100000 := Nat.le_trans (bare_len s) (Nat.le_trans hz (by decide))
    refine fnqP_G ?_
    intro TQ hTr hTn
    refine S_consP ?_
    refine' S_ReplP (by assumption) (by assumption) (by assumption) ?hx ?hz lit1 lit0 ?_
    case hx => (with_reducible repeat (first | exact Has.here | apply Has.there))
    case hz => exact hz
    rw [show s.filter (· != 92) = bare s from rfl]
    repeat' (first | ((with_reducible show Then _ _ _ _ _ _ _); first | ((with_reducible refine then_next ?_)) | ((with_reducible refine then_ret ?_))) | ((with_reducible show W _ FR (execs _ _) _ _ _ _); first | ((with_reducible refine S_cons ?_)) | ((with_reducible refine S_nil ?_))) | ((with_reducible show W _ VR (eval (Expr.Name _ _) _) _ _ _ _); first | ((with_reducible refine W_local (by first | ((k_dflt (assumption)); done) | fail) (by first | ((k_dflt (assumption)); done) | fail) (by first | ((k_dflt (assumption)); done) | fail) (by first | ((k_dflt ((with_reducible repeat (first | exact Has.here | apply Has.there)))); done) | fail) ?_)) | ((with_reducible refine W_bltT (by first | ((k_dflt (assumption)); done) | fail) (by first | ((k_dflt (assumption)); done) | fail) (by first | ((k_dflt (assumption)); done) | fail) (by first | ((k_dflt ((with_reducible repeat (first | exact InN.here | apply InN.there)))); done) | fail) (by first | ((k_dflt ((with_reducible_and_instances repeat (first | exact List.Mem.head _ | apply List.Mem.tail)))); done) | fail) ?_))) | ((with_reducible show W _ VR (eval (Expr.Constant (Const.int _) _ _) _) _ _ _ _); first | ((with_reducible refine W_int ?_))) | ((with_reducible show W _ VR (eval (Expr.Call _ _ _ _) _) _ _ _ _); first | (refine W_Call (by assumption) (by rfl) ?_)) | ((with_reducible show W _ VR (eval (Expr.BinOp _ _ _ _) _) _ _ _ _); first | ((with_reducible refine W_BinOp ?_))) | ((with_reducible show W _ VR (eval (Expr.UnaryOp _ _ _) _) _ _ _ _); first | ((with_reducible refine W_Unary ?_))) | ((with_reducible show W _ FR (exec (Stmt.Assign [Expr.Name _ _] _ _) _) _ _ _ _); first | (refine S_Assign ?_)) | ((with_reducible show W _ FR (exec (Stmt.If _ _ _ _) _) _ _ _ _); first | ((with_reducible refine S_If ?_))) | ((with_reducible show W _ FR (exec (Stmt.Return (some _) _) _) _ _ _ _); first | ((with_reducible refine S_Return ?_))) | ((with_reducible show W _ FR (exec (Stmt.For _ _ _ _ _) _) _ _ _ _); first | (refine S_For ?_)) | ((with_reducible show W _ BR (isTrue (Expr.Compare _ _ _ _) _ _) _ _ _ _); first | (refine T_Compare ?_)) | ((with_reducible show Op2 _ _ _ _ _ _ _ _); first | ((with_reducible refine sub_ints ?_)) | ((with_reducible refine ne_ints ?_))) | ((with_reducible show Op1 _ _ _ _ _ _ _); first | ((with_reducible refine Mine.neg_int ?_))) | ((with_reducible show Tru _ _ _ _ _ _); first | ((with_reducible refine tru_bool ?_))) | ((with_reducible show Cal _ _ _ _ _ _ _); first | ((with_reducible refine len_str (by first | ((k_dflt ((first | assumption | omega | decide | (simp only [List.length_append, List.length_cons, List.length_nil, List.length_drop, List.length_take, List.length_map]; omega) | (simp only [List.length_append, List.length_cons, List.length_nil, List.length_drop, List.length_take, List.length_map] at *; omega)))); done) | fail) ?_))) | ((with_reducible show Br (decide _) _ _); first | (with_reducible refine br_dec ?_ ?_ <;> intro _)) | ((with_reducible show Args _ _ _ _ _ _); first | ((with_reducible refine args_cons' ?_)) | ((with_reducible refine args_nil' ?_))) | ((with_reducible show Kp _ _ ∧ _); first | ((with_reducible refine kp_and kp_blt ?_))) | ((with_reducible show Sto _ _ _ _ _ _ _); first | ((with_reducible refine Sto_local (by first | ((k_dflt (assumption)); done) | fail) (by first | ((k_dflt (assumption)); done) | fail) (by first | ((k_dflt (assumption)); done) | fail) (by first | ((k_dflt ((with_reducible repeat (first | exact Put.here | apply Put.there)))); done) | fail) ?_))) | fail)
    · refine' hTr (ob2 := []) ?fp ?fe0 ?fe1
      case fp => (with_reducible repeat (first | exact Picks.nil | (apply Picks.cons; (focus (with_reducible repeat (first | exact Pick.head | apply Pick.tail))))))
      case fe0 => exact congrArg V.int (worL_no (by assumption))
      case fe1 => rfl
    rename_i hww
    have hww := Decidable.not_not.mp hww
    have hwn : (bare s).length = w := Int.ofNat.inj hww
    refine' For_str ?fh ?fE (Wkn.of (forW_inv (fun k lo ob => ∃ pv, lo = [some (.str s), some (.int (b : Int)), some (.int (w : Int)), some (.str (bare s)), some (.int ((worV b ((bare s).take k) : Nat) : Int)), pv, none] ∧ ob = []) (fun k v lo ob hv hI => ?_) (fun lo ob hI => ?_) ⟨_, rfl, rfl⟩))
    case fh => assumption
    case fE => exact passes_never
    · obtain ⟨pv, rfl, rfl⟩ := hI
      obtain ⟨ch, hch, rfl⟩ : ∃ ch, (bare s)[k]? = some ch ∧ V.str [ch] = v := by
        rw [List.getElem?_map] at hv
        cases hq : (bare s)[k]? with
        | none => rw [hq] at hv; cases hv
        | some p => rw [hq] at hv; exact ⟨p, rfl, Option.some.inj hv⟩
      clear hv
      have hcx := hx ch (List.mem_of_getElem? hch)
      clear hTr hTn
      repeat' (first | ((with_reducible show Op2 _ _ _ _ _ _ _ _); first | ((with_reducible refine mul_ints (by first | ((k_dflt (assumption)); done) | fail) (by first | ((k_dflt (assumption)); done) | fail) ?_))) | ((with_reducible show GetM _ _ _ _ _ _ _); first | (with_reducible refine getm_str PySem.F.slot_str_lower PySem.F.type_str_lower ?_) | (with_reducible refine getm_str PySem.F.slot_str_index PySem.F.type_str_index ?_)) | ((with_reducible show Cal _ _ _ _ _ _ _); first | ((with_reducible refine lower_hex (by first | ((k_dflt (assumption)); done) | fail) ?_)) | ((with_reducible refine index_hex (by first | ((k_dflt (assumption)); done) | fail) ?_))) | ((with_reducible show Then _ _ _ _ _ _ _); first | ((with_reducible refine then_next ?_))) | ((with_reducible show W _ FR (execs _ _) _ _ _ _); first | ((with_reducible refine S_cons ?_)) | ((with_reducible refine S_nil ?_))) | ((with_reducible show W _ VR (eval (Expr.Name _ _) _) _ _ _ _); first | ((with_reducible refine W_local (by first | ((k_dflt (assumption)); done) | fail) (by first | ((k_dflt (assumption)); done) | fail) (by first | ((k_dflt (assumption)); done) | fail) (by first | ((k_dflt ((with_reducible repeat (first | exact Has.here | apply Has.there)))); done) | fail) ?_))) | ((with_reducible show W _ VR (eval (Expr.Constant (Const.str _) _ _) _) _ _ _ _); first | ((with_reducible refine W_str lit3 ?_))) | ((with_reducible show W _ VR (eval (Expr.Call (Expr.Attribute _ _ _) _ _ _) _) _ _ _ _); first | (refine W_Method (by assumption) (by rfl) ?_)) | ((with_reducible show W _ VR (eval (Expr.BinOp _ _ _ _) _) _ _ _ _); first | ((with_reducible refine W_BinOp ?_))) | ((with_reducible show W _ FR (exec (Stmt.Assign [Expr.Name _ _] _ _) _) _ _ _ _); first | (refine S_Assign ?_)) | ((with_reducible show Op2 _ _ _ _ _ _ _ _); first | ((with_reducible refine add_ints ?_))) | ((with_reducible show Cal _ _ _ _ _ _ _); first | ((with_reducible refine cal_app ?_))) | ((with_reducible show Args _ _ _ _ _ _); first | ((with_reducible refine args_cons' ?_)) | ((with_reducible refine args_nil' ?_))) | ((with_reducible show TurnQ _ _ _ _ _); first | ((with_reducible refine turn_next ?_))) | ((with_reducible show Kp _ _ ∧ _); first | ((with_reducible refine kp_and kp_blt ?_))) | ((with_reducible show Asg _ _ _ _ _ _ _); first | ((with_reducible refine asg_name ?_))) | ((with_reducible show Sto _ _ _ _ _ _ _); first | ((with_reducible refine Sto_local (by first | ((k_dflt (assumption)); done) | fail) (by first | ((k_dflt (assumption)); done) | fail) (by first | ((k_dflt (assumption)); done) | fail) (by first | ((k_dflt ((with_reducible repeat (first | exact Put.here | apply Put.there)))); done) | fail) ?_))) | fail)
      all_goals first
        | exact Wkn.of ⟨_, by rw [wor_step hch], rfl⟩
    · obtain ⟨pv, rfl, rfl⟩ := hI
      rw [List.length_map, worL_yes hwn]
      repeat' (first | ((with_reducible show Then _ _ _ _ _ _ _); first | ((with_reducible refine then_next ?_)) | ((with_reducible refine then_ret ?_))) | ((with_reducible show W _ FR (execs _ _) _ _ _ _); first | ((with_reducible refine S_cons ?_))) | ((with_reducible show W _ VR (eval (Expr.Name _ _) _) _ _ _ _); first | ((with_reducible refine W_local (by first | ((k_dflt (assumption)); done) | fail) (by first | ((k_dflt (assumption)); done) | fail) (by first | ((k_dflt (assumption)); done) | fail) (by first | ((k_dflt ((with_reducible repeat (first | exact Has.here | apply Has.there)))); done) | fail) ?_))) | ((with_reducible show W _ FR (exec (Stmt.Return (some _) _) _) _ _ _ _); first | ((with_reducible refine S_Return ?_))) | fail)
      all_goals first | (refine' hTr (ob2 := []) ?fp ?fe0 ?fe1; (case fp => (with_reducible repeat (first | exact Picks.nil | (apply Picks.cons; (focus (with_reducible repeat (first | exact Pick.head | apply Pick.tail))))))); (case fe0 => first | rfl | assumption); (case fe1 => rfl))
    
  case c1 => exact rfl
  case c2 => exact rfl
  case c3 => exact rfl
theorem new_K {c : Cx} (ok : c.Ok) (HG : GK c.g) (kd : Bool) {l : List Nat} (hl : l.length ≤ 1000) {j : Nat} {o : Option (List Nat)} (hn : nxt l 0 = some (j, o)) (hd : 3 ≤ c.d) (hh : c.B.handled = none) {Q : QT V} {X : QT Addr} {lo : Loc} {ob : Obs}
    (h : ∀ x dx, Q (.ref x) lo ((x, .inst 133 dx) :: (dx, .dct (tokE (.bool kd) (ptV kd l) l (j : Int) (ovV o))) :: ob)) : Cal c (.ref 133) [ptV kd l] Q X lo ob := by
  cases kd
  · exact new_B ok HG hl hn hd hh h
  · exact new_S ok HG hl hn hd hh h
end Mine
end
section
open PySem PySem.W PyProof.Rows PySem.Spec PySem.Calls
set_option Elab.async false
set_option linter.unusedVariables false
set_option pp.maxSteps 600
namespace Mine
set_option maxRecDepth 100000
set_option maxHeartbeats 4000000
theorem foo : PySem.Challenge.rw_kq0017_05.Holds := by
  refine Mine.hd ?_
  k_go0
  (all_goals try k_fold)
  refine wpAny_noRaise ?_
  rename_i w s0 s1 mg mb Gz Y fa o pm doc kV ho hgens KX Xz Vz GL T B TE TW q9 q8 M q7 q6 hcd ns hs hlay0 hL1 hr1 hl2 w4 w3 D ws w0 hL ra ww r0 hI hr hcond1 hcond K0 hDf h1 F N0
  refine law_enter (g := ⟨_, _, _, _, _, _, _, _, _, s1.os, s1.gens⟩) (lo0 := [some (.ref D), none, none, none, none, none, none, none, none, none, none, none, none, none, none, none, none, none, none, none, none, none]) (m := _) _ KX T rfl rfl rfl rfl ?nd F ?lr rfl rfl ?fin ?body
  case nd => dsimp only [envOf]; decide
  case lr =>
    intro x v hx
    obtain ⟨rfl, rfl⟩ := Has.first hx rfl
    exact ⟨_, rfl, rfl⟩
  case fin =>
    intro s' hk ho' hg'
    exact ⟨.inl ⟨_, _, [], rfl, (fun _ => rfl), ReadsW.bool true, (by first | rfl | wrow_post), fun _ => ⟨List.nodup_nil, fun _ hm => (nomatch hm)⟩⟩, hk, ho', hg'.trans hgens⟩
  case body =>
    intro c ok hg henv hns hcv hd hh
    have hns' := hns
    rw [henv.symm] at hns'
    dsimp only at hns
    have hns2 : c.env.scope.names = c.ns := hns'.symm
    rw [hns] at hns2
    have hp : c.g.prog = PySem.Challenge.rw_kq0017_05.row.prog := congrArg G.prog hg
    have hK : c.g.K = Mine.hd.heap_39 c.g.w.params := by rw [show c.g.w = w from congrArg G.w hg]; exact congrArg G.K hg
    have HG : GK c.g := gk _ hp hK
    have H := HG.tk
    have hbase : BaseL c D (ns.map V.int) := ⟨ws, by rw [show c.g.hb = s1.heap from congrArg G.hb hg]; exact hL, vrs_ints hI⟩
    have hlen : ns.length ≤ 63 := by omega
    dsimp only [envOf] at hns hns2
    clear hns' henv hg N0 F h1 hDf K0 hcond hcond1 hr hI r0 ww ra hL w0 ws w3 w4 hl2 hr1 hL1 hlay0 hs hcd q6 q7 M q8 q9 TW TE B T GL Vz Xz KX hgens ho kV doc pm o fa Y Gz mb mg s1 s0 w
    have ecut : cut (ns.map V.int) none (some 16) = (ns.take 16).map V.int := cut_ns_map (k := 16)
    have hcz : (cut (ns.map V.int) none (some 16)).length ≤ 100 := by
      rw [ecut, List.length_map]
      exact Nat.le_trans (List.length_take_le 16 ns) (by decide)
    skip
    refine S_cons ?_
    repeat' ((fail_if_success (with_reducible show W _ FR (execs (_ :: _) _) _ _ _ _)); first | ((with_reducible show Then _ _ _ _ _ _ _); first | ((with_reducible refine then_next ?_))) | ((with_reducible show W _ VR (eval (Expr.Constant (Const.str _) _ _) _) _ _ _ _); first | ((with_reducible refine W_str lit0 ?_))) | ((with_reducible show W _ FR (exec (Stmt.Assign [Expr.Name _ _] _ _) _) _ _ _ _); first | (refine S_Assign ?_)) | ((with_reducible show Sto _ _ _ _ _ _ _); first | ((with_reducible refine Sto_local (by first | ((k_dflt (assumption)); done) | fail) (by first | ((k_dflt (assumption)); done) | fail) (by first | ((k_dflt (assumption)); done) | fail) (by first | ((k_dflt ((with_reducible repeat (first | exact Put.here | apply Put.there)))); done) | fail) ?_))) | fail)
    refine S_cons ?_
    repeat' ((fail_if_success (with_reducible show W _ FR (execs (_ :: _) _) _ _ _ _)); first | ((with_reducible show Then _ _ _ _ _ _ _); first | ((with_reducible refine then_next ?_))) | ((with_reducible show W _ VR (eval (Expr.List _ _) _) _ _ _ _); first | (refine W_List (by rfl) ?_)) | ((with_reducible show W _ FR (exec (Stmt.Assign [Expr.Name _ _] _ _) _) _ _ _ _); first | (refine S_Assign ?_)) | ((with_reducible show Args _ _ _ _ _ _); first | ((with_reducible refine args_nil' ?_))) | ((with_reducible show _ ≤ _ ∧ _); first | ((with_reducible refine disp (by first | ((k_dflt ((first | assumption | omega | decide | (simp only [List.length_append, List.length_cons, List.length_nil, List.length_drop, List.length_take, List.length_map]; omega) | (simp only [List.length_append, List.length_cons, List.length_nil, List.length_drop, List.length_take, List.length_map] at *; omega)))); done) | fail) ?_); intro _)) | ((with_reducible show Sto _ _ _ _ _ _ _); first | ((with_reducible refine Sto_local (by first | ((k_dflt (assumption)); done) | fail) (by first | ((k_dflt (assumption)); done) | fail) (by first | ((k_dflt (assumption)); done) | fail) (by first | ((k_dflt ((with_reducible repeat (first | exact Put.here | apply Put.there)))); done) | fail) ?_))) | fail)
    rename_i Wd
    obtain ⟨ms, hms⟩ : ∃ ms, ns.take 16 ++ [ns.sum] = ms := ⟨_, rfl⟩
    have hmz : ms.length ≤ 17 := by
      rw [← hms, List.length_append]
      exact Nat.succ_le_succ (List.length_take_le 16 ns)
    have hmi : cut (ns.map V.int) none (some 16) ++ [V.int ns.sum] = ms.map V.int := by rw [ecut, ← hms, List.map_append]; rfl
    refine S_cutG [some (.ref D), some (.str (ms.flatMap pcS).flatten), some (.ref Wd), none, none, none, none, none, none, none, none, none, none, none, none, none, none, none, none, none, none, none] [(Wd, .list ((ms.map pcW).map V.int))] ?_ ?_
    · intro TQ0 hT0
      repeat' (first | ((with_reducible show Op2 _ _ _ _ _ _ _ _); first | ((with_reducible refine add_lists (by first | ((k_dflt ((with_reducible_and_instances repeat (first | exact List.Mem.head _ | apply List.Mem.tail)))); done) | fail) (by first | ((k_dflt ((with_reducible_and_instances repeat (first | exact List.Mem.head _ | apply List.Mem.tail)))); done) | fail) (by first | ((k_dflt ((first | assumption | omega | decide | (simp only [List.length_append, List.length_cons, List.length_nil, List.length_drop, List.length_take, List.length_map]; omega) | (simp only [List.length_append, List.length_cons, List.length_nil, List.length_drop, List.length_take, List.length_map] at *; omega)))); done) | fail) ?_); intro _)) | ((with_reducible show W _ VR (eval (Expr.Name _ _) _) _ _ _ _); first | ((with_reducible refine W_local (by first | ((k_dflt (assumption)); done) | fail) (by first | ((k_dflt (assumption)); done) | fail) (by first | ((k_dflt (assumption)); done) | fail) (by first | ((k_dflt ((with_reducible repeat (first | exact Has.here | apply Has.there)))); done) | fail) ?_)) | ((with_reducible refine W_bltT (by first | ((k_dflt (assumption)); done) | fail) (by first | ((k_dflt (assumption)); done) | fail) (by first | ((k_dflt (assumption)); done) | fail) (by first | ((k_dflt ((with_reducible repeat (first | exact InN.here | apply InN.there)))); done) | fail) (by first | ((k_dflt ((with_reducible_and_instances repeat (first | exact List.Mem.head _ | apply List.Mem.tail)))); done) | fail) ?_))) | ((with_reducible show W _ VR (eval (Expr.Constant (Const.int _) _ _) _) _ _ _ _); first | ((with_reducible refine W_int ?_))) | ((with_reducible show W _ VR (eval (Expr.Call _ _ _ _) _) _ _ _ _); first | (refine W_Call (by assumption) (by rfl) ?_)) | ((with_reducible show W _ VR (eval (Expr.BinOp _ _ _ _) _) _ _ _ _); first | ((with_reducible refine W_BinOp ?_))) | ((with_reducible show W _ VR (eval (Expr.Subscript _ (Expr.Slice _ _ none _) _) _) _ _ _ _); first | (refine W_Slice ?_)) | ((with_reducible show W _ VR (eval (Expr.List _ _) _) _ _ _ _); first | (refine W_List (by rfl) ?_)) | ((with_reducible show W _ FR (exec (Stmt.For _ _ _ _ _) _) _ _ _ _); first | (refine S_For ?_)) | ((with_reducible show Cal _ _ _ _ _ _ _); first | ((with_reducible refine sum_list (by first | ((k_dflt (assumption)); done) | fail) (by first | ((k_dflt ((first | (refine' Or.inl ?lm; (case lm => (with_reducible_and_instances repeat (first | exact List.Mem.head _ | apply List.Mem.tail)))) | exact LA.base (by assumption)))); done) | fail) ?_))) | ((with_reducible show Args _ _ _ _ _ _); first | ((with_reducible refine args_cons' ?_)) | ((with_reducible refine args_nil' ?_))) | ((with_reducible show Kp _ _ ∧ _); first | ((with_reducible refine kp_and kp_blt ?_))) | ((with_reducible show _ ≤ _ ∧ _); first | ((with_reducible refine disp (by first | ((k_dflt ((first | assumption | omega | decide | (simp only [List.length_append, List.length_cons, List.length_nil, List.length_drop, List.length_take, List.length_map]; omega) | (simp only [List.length_append, List.length_cons, List.length_nil, List.length_drop, List.length_take, List.length_map] at *; omega)))); done) | fail) ?_); intro _)) | ((with_reducible show Part _ _ _ _ _ _); first | ((with_reducible refine part_none ?_)) | ((with_reducible refine part_some ?_))) | ((with_reducible show ∃ _, V.int _ = V.int _ ∧ _); first | ((with_reducible refine int_ex ?_))) | ((with_reducible show Cut _ _ _ _ _ _ _ _ _ _); first | ((refine cut_list (by first | ((k_dflt ((first | (refine' Or.inl ?lm; (case lm => (with_reducible_and_instances repeat (first | exact List.Mem.head _ | apply List.Mem.tail)))) | exact LA.base (by assumption)))); done) | fail) (by first | ((k_dflt ((first | assumption | omega | decide | (simp only [List.length_append, List.length_cons, List.length_nil, List.length_drop, List.length_take, List.length_map]; omega) | (simp only [List.length_append, List.length_cons, List.length_nil, List.length_drop, List.length_take, List.length_map] at *; omega)))); done) | fail) ?_); intro _)) | fail)
      rw [hmi]
      refine' For_list ?fh ?fE ?fp ?_
      case fh => assumption
      case fE => exact passes_never
      case fp => (with_reducible repeat (first | exact Picks.nil | (apply Picks.cons; (focus (with_reducible repeat (first | exact Pick.head | apply Pick.tail))))))
      refine' ⟨_, [(Wd, .list [])], _, LoS.refl, ?fp2, ?_⟩
      case fp2 => (with_reducible repeat (first | exact Picks.nil | (apply Picks.cons; (focus (with_reducible repeat (first | exact Pick.head | apply Pick.tail))))))
      refine forW_inv (fun k lo ob => ∃ nv kv vv, lo = [some (.ref D), some (.str ((ms.take k).flatMap pcS).flatten), some (.ref Wd), nv, kv, vv, none, none, none, none, none, none, none, none, none, none, none, none, none, none, none, none] ∧ ob = [(Wd, .list (((ms.take k).map pcW).map V.int))]) (fun k v lo ob hv hI => ?_) (fun lo ob hI => ?_) ⟨_, _, _, rfl, rfl⟩
      · obtain ⟨nv, kv, vv, rfl, rfl⟩ := hI
        obtain ⟨n, hn, rfl⟩ : ∃ n, ms[k]? = some n ∧ V.int n = v := by
          rw [List.getElem?_map] at hv
          cases hq : ms[k]? with
          | none => rw [hq] at hv; cases hv
          | some p => rw [hq] at hv; exact ⟨p, rfl, Option.some.inj hv⟩
        clear hv hT0 hmi hms hcz ecut
        obtain ⟨hst, hsw⟩ := piece_step hn
        have hkm := (List.getElem?_eq_some_iff.mp hn).1
        have htz : ((ms.take k).flatMap pcS).flatten.length ≤ 1000 := Nat.le_trans (pcs_flat _) (by rw [List.length_take]; omega)
        have hwz : (((ms.take k).map pcW).map V.int).length ≤ 1000 := by rw [List.length_map, List.length_map, List.length_take]; omega
        generalize ((ms.take k).flatMap pcS).flatten = T0 at *
        generalize (((ms.take k).map pcW).map V.int) = W0 at *
        by_cases h0 : n.fmod 5 = 0
        · obtain ⟨e1, e2⟩ := pcs_0 h0
          have hx := pc0_at n
          repeat' (first | ((with_reducible show Sub2 _ _ _ _ _ _ _ _ _); first | ((refine sub_str_is (by first | ((k_dflt (assumption)); done) | fail) (by first | ((k_dflt (assumption)); done) | fail) (by first | ((k_dflt (first | assumption | exact fmod_lo _ (by decide) | decide)); done) | fail) (by first | ((k_dflt (exact Nat.le_of_ble_eq_true rfl)); done) | fail) ?_))) | ((with_reducible show Op2 _ _ _ _ _ _ _ _); first | ((with_reducible refine fdiv_ints (by first | ((k_dflt ((first | assumption | omega | decide | (simp only [List.length_append, List.length_cons, List.length_nil, List.length_drop, List.length_take, List.length_map]; omega) | (simp only [List.length_append, List.length_cons, List.length_nil, List.length_drop, List.length_take, List.length_map] at *; omega)))); done) | fail) (by first | ((k_dflt ((first | assumption | omega | decide | (simp only [List.length_append, List.length_cons, List.length_nil, List.length_drop, List.length_take, List.length_map]; omega) | (simp only [List.length_append, List.length_cons, List.length_nil, List.length_drop, List.length_take, List.length_map] at *; omega)))); done) | fail) ?_))) | ((with_reducible show Then _ _ _ _ _ _ _); first | ((with_reducible refine then_next ?_))) | ((with_reducible show W _ FR (execs _ _) _ _ _ _); first | ((with_reducible refine S_cons ?_)) | ((with_reducible refine S_nil ?_))) | ((with_reducible show W _ VR (eval (Expr.Name _ _) _) _ _ _ _); first | ((with_reducible refine W_local (by first | ((k_dflt (assumption)); done) | fail) (by first | ((k_dflt (assumption)); done) | fail) (by first | ((k_dflt (assumption)); done) | fail) (by first | ((k_dflt ((with_reducible repeat (first | exact Has.here | apply Has.there)))); done) | fail) ?_)) | ((with_reducible refine W_bltT (by first | ((k_dflt (assumption)); done) | fail) (by first | ((k_dflt (assumption)); done) | fail) (by first | ((k_dflt (assumption)); done) | fail) (by first | ((k_dflt ((with_reducible repeat (first | exact InN.here | apply InN.there)))); done) | fail) (by first | ((k_dflt ((with_reducible_and_instances repeat (first | exact List.Mem.head _ | apply List.Mem.tail)))); done) | fail) ?_))) | ((with_reducible show W _ VR (eval (Expr.Constant (Const.int _) _ _) _) _ _ _ _); first | ((with_reducible refine W_int ?_))) | ((with_reducible show W _ VR (eval (Expr.Constant (Const.str _) _ _) _) _ _ _ _); first | ((with_reducible refine W_str lit5 ?_))) | ((with_reducible show W _ VR (eval (Expr.Call (Expr.Attribute _ _ _) _ _ _) _) _ _ _ _); first | (refine W_Method (by assumption) (by rfl) ?_)) | ((with_reducible show W _ VR (eval (Expr.Call _ _ _ _) _) _ _ _ _); first | (refine W_Call (by assumption) (by rfl) ?_)) | ((with_reducible show W _ VR (eval (Expr.BinOp _ _ _ _) _) _ _ _ _); first | ((with_reducible refine W_BinOp ?_))) | ((with_reducible show W _ VR (eval (Expr.Subscript _ _ _) _) _ _ _ _); first | (refine W_Sub ?_)) | ((with_reducible show W _ FR (exec (Stmt.Assign [Expr.Name _ _] _ _) _) _ _ _ _); first | (refine S_Assign ?_)) | ((with_reducible show W _ FR (exec (Stmt.If _ _ _ _) _) _ _ _ _); first | ((with_reducible refine S_If ?_))) | ((with_reducible show W _ FR (exec (Stmt.Expr _ _) _) _ _ _ _); first | (refine S_ExprV ?_ (inter (by assumption)))) | ((with_reducible show W _ FR (exec (Stmt.AugAssign (Expr.Name _ _) _ _ _) _) _ _ _ _); first | ((with_reducible refine S_Aug (by first | ((k_dflt (assumption)); done) | fail) (by first | ((k_dflt (assumption)); done) | fail) (by first | ((k_dflt (assumption)); done) | fail) (by first | ((k_dflt ((with_reducible repeat (first | exact Has.here | apply Has.there)))); done) | fail) ?_))) | ((with_reducible show W _ BR (isTrue (Expr.Compare _ _ _ _) _ _) _ _ _ _); first | (refine T_Compare ?_)) | ((with_reducible show Op2 _ _ _ _ _ _ _ _); first | ((with_reducible refine eq_ints ?_)) | ((with_reducible refine mod_ints (by first | ((k_dflt ((first | assumption | omega | decide | (simp only [List.length_append, List.length_cons, List.length_nil, List.length_drop, List.length_take, List.length_map]; omega) | (simp only [List.length_append, List.length_cons, List.length_nil, List.length_drop, List.length_take, List.length_map] at *; omega)))); done) | fail) ?_)) | ((with_reducible refine iadd_strs (by first | ((k_dflt ((first | assumption | omega | decide | (simp only [List.length_append, List.length_cons, List.length_nil, List.length_drop, List.length_take, List.length_map]; omega) | (simp only [List.length_append, List.length_cons, List.length_nil, List.length_drop, List.length_take, List.length_map] at *; omega)))); done) | fail) ?_))) | ((with_reducible show Tru _ _ _ _ _ _); first | ((with_reducible refine tru_bool ?_))) | ((with_reducible show Cal _ _ _ _ _ _ _); first | ((with_reducible refine cal_app ?_)) | ((with_reducible refine ord_1 ?_)) | ((with_reducible refine append_list (by first | ((k_dflt ((with_reducible repeat (first | exact OUpd.head | apply OUpd.tail)))); done) | fail) (by first | ((k_dflt ((first | assumption | omega | decide | (simp only [List.length_append, List.length_cons, List.length_nil, List.length_drop, List.length_take, List.length_map]; omega) | (simp only [List.length_append, List.length_cons, List.length_nil, List.length_drop, List.length_take, List.length_map] at *; omega)))); done) | fail) ?_))) | ((with_reducible show Br (decide _) _ _); first | ((with_reducible refine br_yes (by assumption) ?_))) | ((with_reducible show Args _ _ _ _ _ _); first | ((with_reducible refine args_cons' ?_)) | ((with_reducible refine args_nil' ?_))) | ((with_reducible show TurnQ _ _ _ _ _); first | ((with_reducible refine turn_next ?_))) | ((with_reducible show Kp _ _ ∧ _); first | ((with_reducible refine kp_and kp_blt ?_))) | ((with_reducible show plainV _ = true ∧ _); first | ((with_reducible refine plain_and rfl ?_))) | ((with_reducible show Asg _ _ _ _ _ _ _); first | ((with_reducible refine asg_name ?_))) | ((with_reducible show Sto _ _ _ _ _ _ _); first | ((with_reducible refine Sto_local (by first | ((k_dflt (assumption)); done) | fail) (by first | ((k_dflt (assumption)); done) | fail) (by first | ((k_dflt (assumption)); done) | fail) (by first | ((k_dflt ((with_reducible repeat (first | exact Put.here | apply Put.there)))); done) | fail) ?_))) | ((with_reducible show GetM _ _ _ _ _ _ _); first | ((with_reducible refine getm_list (by first | ((k_dflt ((with_reducible_and_instances repeat (first | exact List.Mem.head _ | apply List.Mem.tail)))); done) | fail) PySem.F.slot_list_append PySem.F.type_list_append ?_))) | fail)
          all_goals first
            | exact Wkn.of ⟨_, _, _, by rw [hst, e1], by rw [hsw, e2]⟩
        · by_cases h4 : n.fmod 5 = 4
          · obtain ⟨e1, e2⟩ := pcs_4 h0 h4
            have hx := pc4_at n
            have ho := pcO_at n
            have h28 : (2 : Nat) ≤ 8 := by decide
            have hz9 := figS_flat (F := figF (pcO n)) (b := 8) (v := pcO n) 2
            repeat' (first | ((with_reducible show Sub2 _ _ _ _ _ _ _ _ _); first | ((refine sub_str_is (by first | ((k_dflt (assumption)); done) | fail) (by first | ((k_dflt (assumption)); done) | fail) (by first | ((k_dflt (first | assumption | exact fmod_lo _ (by decide) | decide)); done) | fail) (by first | ((k_dflt (exact Nat.le_of_ble_eq_true rfl)); done) | fail) ?_))) | ((with_reducible show Op2 _ _ _ _ _ _ _ _); first | ((with_reducible refine fdiv_ints (by first | ((k_dflt ((first | assumption | omega | decide | (simp only [List.length_append, List.length_cons, List.length_nil, List.length_drop, List.length_take, List.length_map]; omega) | (simp only [List.length_append, List.length_cons, List.length_nil, List.length_drop, List.length_take, List.length_map] at *; omega)))); done) | fail) (by first | ((k_dflt ((first | assumption | omega | decide | (simp only [List.length_append, List.length_cons, List.length_nil, List.length_drop, List.length_take, List.length_map]; omega) | (simp only [List.length_append, List.length_cons, List.length_nil, List.length_drop, List.length_take, List.length_map] at *; omega)))); done) | fail) ?_))) | ((with_reducible show Cal _ _ _ _ _ _ _); first | ((refine cal_E (by first | ((k_dflt (assumption)); done) | fail) (by first | ((k_dflt ((with_reducible repeat (first | exact Picks.nil | (apply Picks.cons; (focus (with_reducible repeat (first | exact Pick.head | apply Pick.tail)))))))); done) | fail) (fig_F (by assumption) (by first | ((k_dflt (assumption)); done) | fail) (by first | ((k_dflt (first | assumption | exact rfl)); done) | fail) (by first | ((k_dflt (first | assumption | exact rfl)); done) | fail) (by first | ((k_dflt (decide)); done) | fail) (by first | ((k_dflt (decide)); done) | fail) (by first | ((k_dflt (assumption)); done) | fail)) (by first | ((k_dflt ((with_reducible repeat (first | exact App.nil | apply App.cons)))); done) | fail) (by first | ((k_dflt (((try dsimp only); omega))); done) | fail) (by first | ((k_dflt (first | exact .inl rfl | exact .inr (by assumption))); done) | fail) ?_))) | ((with_reducible show Then _ _ _ _ _ _ _); first | ((with_reducible refine then_next ?_))) | ((with_reducible show W _ FR (execs _ _) _ _ _ _); first | ((with_reducible refine S_cons ?_)) | ((with_reducible refine S_nil ?_))) | ((with_reducible show W _ VR (eval (Expr.Name _ _) _) _ _ _ _); first | ((with_reducible refine W_local (by first | ((k_dflt (assumption)); done) | fail) (by first | ((k_dflt (assumption)); done) | fail) (by first | ((k_dflt (assumption)); done) | fail) (by first | ((k_dflt ((with_reducible repeat (first | exact Has.here | apply Has.there)))); done) | fail) ?_)) | ((with_reducible refine W_globT (by first | ((k_dflt (assumption)); done) | fail) (by first | ((k_dflt (assumption)); done) | fail) (by first | ((k_dflt (assumption)); done) | fail) (by first | ((k_dflt ((with_reducible repeat (first | exact InN.here | apply InN.there)))); done) | fail) (by first | ((k_dflt ((with_reducible_and_instances repeat (first | exact List.Mem.head _ | apply List.Mem.tail)))); done) | fail) ?_))) | ((with_reducible show W _ VR (eval (Expr.Constant (Const.int _) _ _) _) _ _ _ _); first | ((with_reducible refine W_int ?_))) | ((with_reducible show W _ VR (eval (Expr.Constant (Const.str _) _ _) _) _ _ _ _); first | ((with_reducible refine W_str lit1 ?_)) | ((with_reducible refine W_str lit6 ?_))) | ((with_reducible show W _ VR (eval (Expr.Call (Expr.Attribute _ _ _) _ _ _) _) _ _ _ _); first | (refine W_Method (by assumption) (by rfl) ?_)) | ((with_reducible show W _ VR (eval (Expr.Call _ _ _ _) _) _ _ _ _); first | (refine W_Call (by assumption) (by rfl) ?_)) | ((with_reducible show W _ VR (eval (Expr.BinOp _ _ _ _) _) _ _ _ _); first | ((with_reducible refine W_BinOp ?_))) | ((with_reducible show W _ VR (eval (Expr.Subscript _ _ _) _) _ _ _ _); first | (refine W_Sub ?_)) | ((with_reducible show W _ FR (exec (Stmt.Assign [Expr.Name _ _] _ _) _) _ _ _ _); first | (refine S_Assign ?_)) | ((with_reducible show W _ FR (exec (Stmt.If _ _ _ _) _) _ _ _ _); first | ((with_reducible refine S_If ?_))) | ((with_reducible show W _ FR (exec (Stmt.Expr _ _) _) _ _ _ _); first | (refine S_ExprV ?_ (inter (by assumption)))) | ((with_reducible show W _ FR (exec (Stmt.AugAssign (Expr.Name _ _) _ _ _) _) _ _ _ _); first | ((with_reducible refine S_Aug (by first | ((k_dflt (assumption)); done) | fail) (by first | ((k_dflt (assumption)); done) | fail) (by first | ((k_dflt (assumption)); done) | fail) (by first | ((k_dflt ((with_reducible repeat (first | exact Has.here | apply Has.there)))); done) | fail) ?_))) | ((with_reducible show W _ BR (isTrue (Expr.Compare _ _ _ _) _ _) _ _ _ _); first | (refine T_Compare ?_)) | ((with_reducible show Op2 _ _ _ _ _ _ _ _); first | ((with_reducible refine eq_ints ?_)) | ((with_reducible refine mod_ints (by first | ((k_dflt ((first | assumption | omega | decide | (simp only [List.length_append, List.length_cons, List.length_nil, List.length_drop, List.length_take, List.length_map]; omega) | (simp only [List.length_append, List.length_cons, List.length_nil, List.length_drop, List.length_take, List.length_map] at *; omega)))); done) | fail) ?_)) | ((with_reducible refine add_strs (by first | ((k_dflt ((first | assumption | omega | decide | (simp only [List.length_append, List.length_cons, List.length_nil, List.length_drop, List.length_take, List.length_map]; omega) | (simp only [List.length_append, List.length_cons, List.length_nil, List.length_drop, List.length_take, List.length_map] at *; omega)))); done) | fail) ?_)) | ((with_reducible refine iadd_strs (by first | ((k_dflt ((first | assumption | omega | decide | (simp only [List.length_append, List.length_cons, List.length_nil, List.length_drop, List.length_take, List.length_map]; omega) | (simp only [List.length_append, List.length_cons, List.length_nil, List.length_drop, List.length_take, List.length_map] at *; omega)))); done) | fail) ?_))) | ((with_reducible show Tru _ _ _ _ _ _); first | ((with_reducible refine tru_bool ?_))) | ((with_reducible show Cal _ _ _ _ _ _ _); first | ((with_reducible refine cal_app ?_)) | ((with_reducible refine append_list (by first | ((k_dflt ((with_reducible repeat (first | exact OUpd.head | apply OUpd.tail)))); done) | fail) (by first | ((k_dflt ((first | assumption | omega | decide | (simp only [List.length_append, List.length_cons, List.length_nil, List.length_drop, List.length_take, List.length_map]; omega) | (simp only [List.length_append, List.length_cons, List.length_nil, List.length_drop, List.length_take, List.length_map] at *; omega)))); done) | fail) ?_))) | ((with_reducible show Br (decide _) _ _); first | ((with_reducible refine br_yes (by assumption) ?_)) | ((with_reducible refine br_no (by assumption) ?_))) | ((with_reducible show Args _ _ _ _ _ _); first | ((with_reducible refine args_cons' ?_)) | ((with_reducible refine args_nil' ?_))) | ((with_reducible show TurnQ _ _ _ _ _); first | ((with_reducible refine turn_next ?_))) | ((with_reducible show Kp _ _ ∧ _); first | ((with_reducible refine kp_and kp_blt ?_)) | ((with_reducible refine kp_fun (by first | ((k_dflt (assumption)); done) | fail) (by first | ((k_dflt ((with_reducible_and_instances repeat (first | exact List.Mem.head _ | apply List.Mem.tail)))); done) | fail) ?_))) | ((with_reducible show plainV _ = true ∧ _); first | ((with_reducible refine plain_and rfl ?_))) | ((with_reducible show Asg _ _ _ _ _ _ _); first | ((with_reducible refine asg_name ?_))) | ((with_reducible show Sto _ _ _ _ _ _ _); first | ((with_reducible refine Sto_local (by first | ((k_dflt (assumption)); done) | fail) (by first | ((k_dflt (assumption)); done) | fail) (by first | ((k_dflt (assumption)); done) | fail) (by first | ((k_dflt ((with_reducible repeat (first | exact Put.here | apply Put.there)))); done) | fail) ?_))) | ((with_reducible show GetM _ _ _ _ _ _ _); first | ((with_reducible refine getm_list (by first | ((k_dflt ((with_reducible_and_instances repeat (first | exact List.Mem.head _ | apply List.Mem.tail)))); done) | fail) PySem.F.slot_list_append PySem.F.type_list_append ?_))) | fail)
            all_goals first
              | exact Wkn.of ⟨_, _, _, by rw [hst, e1], by rw [hsw, e2]⟩
          · obtain ⟨e1, e2⟩ := pcs_x h0 h4
            obtain ⟨hx, hx0⟩ := pcX_at h0 h4
            obtain ⟨_, _, _, _, hk8, _, _⟩ := kinds h0 h4
            have ho := pcV_at n
            have hp1 := pcK_at (n := n)
            have hp2 := pcM_at (w := pcK n)
            have hb1 := pcK_bits n
            have hb2 := pcM_bits hk8
            have hk0 := (kind_lt n).1
            have hw0 : (0 : Int) ≤ ((pcK n : Nat) : Int) := Int.natCast_nonneg _
            have hM0 : ((16 ^ pcK n : Nat) : Int) ≠ 0 := Int.ne_of_gt pow_pos16
            have hz9 := figS_flat (F := figF (pcV n)) (b := 16) (v := pcV n) (pcK n)
            repeat' (first | ((with_reducible show Sub2 _ _ _ _ _ _ _ _ _); first | ((refine sub_str_is (by first | ((k_dflt (assumption)); done) | fail) (by first | ((k_dflt (assumption)); done) | fail) (by first | ((k_dflt (first | assumption | exact fmod_lo _ (by decide) | decide)); done) | fail) (by first | ((k_dflt (exact Nat.le_of_ble_eq_true rfl)); done) | fail) ?_))) | ((with_reducible show Op2 _ _ _ _ _ _ _ _); first | ((with_reducible refine fdiv_ints (by first | ((k_dflt ((first | assumption | omega | decide | (simp only [List.length_append, List.length_cons, List.length_nil, List.length_drop, List.length_take, List.length_map]; omega) | (simp only [List.length_append, List.length_cons, List.length_nil, List.length_drop, List.length_take, List.length_map] at *; omega)))); done) | fail) (by first | ((k_dflt ((first | assumption | omega | decide | (simp only [List.length_append, List.length_cons, List.length_nil, List.length_drop, List.length_take, List.length_map]; omega) | (simp only [List.length_append, List.length_cons, List.length_nil, List.length_drop, List.length_take, List.length_map] at *; omega)))); done) | fail) ?_)) | ((with_reducible refine pow_intsE (by first | ((k_dflt (assumption)); done) | fail) (by first | ((k_dflt (assumption)); done) | fail) (by first | ((k_dflt (assumption)); done) | fail) ?_))) | ((with_reducible show Cal _ _ _ _ _ _ _); first | ((refine cal_E (by first | ((k_dflt (assumption)); done) | fail) (by first | ((k_dflt ((with_reducible repeat (first | exact Picks.nil | (apply Picks.cons; (focus (with_reducible repeat (first | exact Pick.head | apply Pick.tail)))))))); done) | fail) (fig_F (by assumption) (by first | ((k_dflt (assumption)); done) | fail) (by first | ((k_dflt (first | assumption | exact rfl)); done) | fail) (by first | ((k_dflt (first | assumption | exact rfl)); done) | fail) (by first | ((k_dflt (decide)); done) | fail) (by first | ((k_dflt (decide)); done) | fail) (by first | ((k_dflt (assumption)); done) | fail)) (by first | ((k_dflt ((with_reducible repeat (first | exact App.nil | apply App.cons)))); done) | fail) (by first | ((k_dflt (((try dsimp only); omega))); done) | fail) (by first | ((k_dflt (first | exact .inl rfl | exact .inr (by assumption))); done) | fail) ?_))) | ((with_reducible show Then _ _ _ _ _ _ _); first | ((with_reducible refine then_next ?_))) | ((with_reducible show W _ FR (execs _ _) _ _ _ _); first | ((with_reducible refine S_cons ?_)) | ((with_reducible refine S_nil ?_))) | ((with_reducible show W _ VR (eval (Expr.Name _ _) _) _ _ _ _); first | ((with_reducible refine W_local (by first | ((k_dflt (assumption)); done) | fail) (by first | ((k_dflt (assumption)); done) | fail) (by first | ((k_dflt (assumption)); done) | fail) (by first | ((k_dflt ((with_reducible repeat (first | exact Has.here | apply Has.there)))); done) | fail) ?_)) | ((with_reducible refine W_globT (by first | ((k_dflt (assumption)); done) | fail) (by first | ((k_dflt (assumption)); done) | fail) (by first | ((k_dflt (assumption)); done) | fail) (by first | ((k_dflt ((with_reducible repeat (first | exact InN.here | apply InN.there)))); done) | fail) (by first | ((k_dflt ((with_reducible_and_instances repeat (first | exact List.Mem.head _ | apply List.Mem.tail)))); done) | fail) ?_))) | ((with_reducible show W _ VR (eval (Expr.Constant (Const.int _) _ _) _) _ _ _ _); first | ((with_reducible refine W_int ?_))) | ((with_reducible show W _ VR (eval (Expr.Constant (Const.str _) _ _) _) _ _ _ _); first | ((with_reducible refine W_str lit1 ?_)) | ((with_reducible refine W_str lit7 ?_))) | ((with_reducible show W _ VR (eval (Expr.Call (Expr.Attribute _ _ _) _ _ _) _) _ _ _ _); first | (refine W_Method (by assumption) (by rfl) ?_)) | ((with_reducible show W _ VR (eval (Expr.Call _ _ _ _) _) _ _ _ _); first | (refine W_Call (by assumption) (by rfl) ?_)) | ((with_reducible show W _ VR (eval (Expr.BinOp _ _ _ _) _) _ _ _ _); first | ((with_reducible refine W_BinOp ?_))) | ((with_reducible show W _ VR (eval (Expr.Subscript _ _ _) _) _ _ _ _); first | (refine W_Sub ?_)) | ((with_reducible show W _ FR (exec (Stmt.Assign [Expr.Name _ _] _ _) _) _ _ _ _); first | (refine S_Assign ?_)) | ((with_reducible show W _ FR (exec (Stmt.If _ _ _ _) _) _ _ _ _); first | ((with_reducible refine S_If ?_))) | ((with_reducible show W _ FR (exec (Stmt.Expr _ _) _) _ _ _ _); first | (refine S_ExprV ?_ (inter (by assumption)))) | ((with_reducible show W _ FR (exec (Stmt.AugAssign (Expr.Name _ _) _ _ _) _) _ _ _ _); first | ((with_reducible refine S_Aug (by first | ((k_dflt (assumption)); done) | fail) (by first | ((k_dflt (assumption)); done) | fail) (by first | ((k_dflt (assumption)); done) | fail) (by first | ((k_dflt ((with_reducible repeat (first | exact Has.here | apply Has.there)))); done) | fail) ?_))) | ((with_reducible show W _ BR (isTrue (Expr.Compare _ _ _ _) _ _) _ _ _ _); first | (refine T_Compare ?_)) | ((with_reducible show Op2 _ _ _ _ _ _ _ _); first | ((with_reducible refine sub_ints ?_)) | ((with_reducible refine eq_ints ?_)) | ((with_reducible refine mod_ints (by first | ((k_dflt ((first | assumption | omega | decide | (simp only [List.length_append, List.length_cons, List.length_nil, List.length_drop, List.length_take, List.length_map]; omega) | (simp only [List.length_append, List.length_cons, List.length_nil, List.length_drop, List.length_take, List.length_map] at *; omega)))); done) | fail) ?_)) | ((with_reducible refine add_strs (by first | ((k_dflt ((first | assumption | omega | decide | (simp only [List.length_append, List.length_cons, List.length_nil, List.length_drop, List.length_take, List.length_map]; omega) | (simp only [List.length_append, List.length_cons, List.length_nil, List.length_drop, List.length_take, List.length_map] at *; omega)))); done) | fail) ?_)) | ((with_reducible refine iadd_strs (by first | ((k_dflt ((first | assumption | omega | decide | (simp only [List.length_append, List.length_cons, List.length_nil, List.length_drop, List.length_take, List.length_map]; omega) | (simp only [List.length_append, List.length_cons, List.length_nil, List.length_drop, List.length_take, List.length_map] at *; omega)))); done) | fail) ?_))) | ((with_reducible show Tru _ _ _ _ _ _); first | ((with_reducible refine tru_bool ?_))) | ((with_reducible show Cal _ _ _ _ _ _ _); first | ((with_reducible refine cal_app ?_)) | ((with_reducible refine append_list (by first | ((k_dflt ((with_reducible repeat (first | exact OUpd.head | apply OUpd.tail)))); done) | fail) (by first | ((k_dflt ((first | assumption | omega | decide | (simp only [List.length_append, List.length_cons, List.length_nil, List.length_drop, List.length_take, List.length_map]; omega) | (simp only [List.length_append, List.length_cons, List.length_nil, List.length_drop, List.length_take, List.length_map] at *; omega)))); done) | fail) ?_))) | ((with_reducible show Br (decide _) _ _); first | ((with_reducible refine br_no (by assumption) ?_))) | ((with_reducible show Args _ _ _ _ _ _); first | ((with_reducible refine args_cons' ?_)) | ((with_reducible refine args_nil' ?_))) | ((with_reducible show TurnQ _ _ _ _ _); first | ((with_reducible refine turn_next ?_))) | ((with_reducible show Kp _ _ ∧ _); first | ((with_reducible refine kp_and kp_blt ?_)) | ((with_reducible refine kp_fun (by first | ((k_dflt (assumption)); done) | fail) (by first | ((k_dflt ((with_reducible_and_instances repeat (first | exact List.Mem.head _ | apply List.Mem.tail)))); done) | fail) ?_))) | ((with_reducible show plainV _ = true ∧ _); first | ((with_reducible refine plain_and rfl ?_))) | ((with_reducible show Asg _ _ _ _ _ _ _); first | ((with_reducible refine asg_name ?_))) | ((with_reducible show Sto _ _ _ _ _ _ _); first | ((with_reducible refine Sto_local (by first | ((k_dflt (assumption)); done) | fail) (by first | ((k_dflt (assumption)); done) | fail) (by first | ((k_dflt (assumption)); done) | fail) (by first | ((k_dflt ((with_reducible repeat (first | exact Put.here | apply Put.there)))); done) | fail) ?_))) | ((with_reducible show GetM _ _ _ _ _ _ _); first | ((with_reducible refine getm_list (by first | ((k_dflt ((with_reducible_and_instances repeat (first | exact List.Mem.head _ | apply List.Mem.tail)))); done) | fail) PySem.F.slot_list_append PySem.F.type_list_append ?_))) | fail)
            all_goals first
              | exact Wkn.of ⟨_, _, _, by rw [hst, e1], by rw [hsw, e2]⟩
      · obtain ⟨nv, kv, vv, rfl, rfl⟩ := hI
        rw [List.length_map, List.take_length]
        dsimp only [List.cons_append, List.nil_append]
        refine' hT0 _ _ _ ?gl ?gp
        case gl => (with_reducible repeat (first | exact LoS.nil | apply LoS.keep | apply LoS.drop))
        case gp => (with_reducible repeat (first | exact Picks.nil | (apply Picks.cons; (focus (with_reducible repeat (first | exact Pick.head | apply Pick.tail))))))
    clear ecut hcz hms hmi
    have hTz := pcs_flat ms
    have hWz : ((ms.map pcW).map V.int).length ≤ 100 := by rw [List.length_map, List.length_map]; omega
    obtain ⟨a, ea, ha⟩ : ∃ a : Nat, ns.sum.fmod 2 = (a : Int) ∧ a ≤ 1 := by
      have g1 := fmod_lo ns.sum (n := 2) (by decide)
      have g2 := fmod_hi ns.sum (n := 2) (by decide)
      exact ⟨(ns.sum.fmod 2).toNat, (Int.toNat_of_nonneg g1).symm, by omega⟩
    obtain ⟨b, eb, hb⟩ : ∃ b : Nat, ((ns.map V.int).length : Int).fmod 2 = (b : Int) ∧ b ≤ 1 := by
      have g1 := fmod_lo ((ns.map V.int).length : Int) (n := 2) (by decide)
      have g2 := fmod_hi ((ns.map V.int).length : Int) (n := 2) (by decide)
      exact ⟨(((ns.map V.int).length : Int).fmod 2).toNat, (Int.toNat_of_nonneg g1).symm, by omega⟩
    have hnz : (ns.map V.int).length ≤ 100000 := by rw [List.length_map]; omega
    have ha0 : (0 : Int) ≤ ns.sum.fmod 2 := by rw [ea]; exact Int.natCast_nonneg _
    have ha1 : ns.sum.fmod 2 ≤ 1000 := by rw [ea]; exact Int.ofNat_le.mpr (Nat.le_trans ha (by decide))
    have hb0 : (0 : Int) ≤ ((ns.map V.int).length : Int).fmod 2 := by rw [eb]; exact Int.natCast_nonneg _
    have hb1 : ((ns.map V.int).length : Int).fmod 2 ≤ 1000 := by rw [eb]; exact Int.ofNat_le.mpr (Nat.le_trans hb (by decide))
    have ea2 : (ns.sum.fmod 2).toNat = a := by rw [ea]; rfl
    have eb2 : (((ns.map V.int).length : Int).fmod 2).toNat = b := by rw [eb]; rfl
    have hra : (List.replicate (ns.sum.fmod 2).toNat [55]).flatten.length ≤ 10 := by
      rw [ea2]
      match a, ha with
      | 0, _ => decide
      | 1, _ => decide
    have hrb : (List.replicate (((ns.map V.int).length : Int).fmod 2).toNat [92, 56]).flatten.length ≤ 10 := by
      rw [eb2]
      match b, hb with
      | 0, _ => decide
      | 1, _ => decide
    have hrc : (List.replicate (((ns.map V.int).length : Int).fmod 2).toNat (V.int (-2))).length ≤ 10 := by
      rw [List.length_replicate, eb2]
      exact Nat.le_trans hb (by decide)
    skip
    refine S_cons ?_
    repeat' ((fail_if_success (with_reducible show W _ FR (execs (_ :: _) _) _ _ _ _)); first | ((with_reducible show Op2 _ _ _ _ _ _ _ _); first | ((with_reducible refine mul_str_int (by first | ((k_dflt (assumption)); done) | fail) (by first | ((k_dflt (assumption)); done) | fail) (by first | ((k_dflt ((first | assumption | omega | decide | (simp only [List.length_append, List.length_cons, List.length_nil, List.length_drop, List.length_take, List.length_map]; omega) | (simp only [List.length_append, List.length_cons, List.length_nil, List.length_drop, List.length_take, List.length_map] at *; omega)))); done) | fail) ?_))) | ((with_reducible show Cal _ _ _ _ _ _ _); first | ((with_reducible refine len_la (by first | ((k_dflt ((first | (refine' Or.inl ?lm; (case lm => (with_reducible_and_instances repeat (first | exact List.Mem.head _ | apply List.Mem.tail)))) | exact LA.base (by assumption)))); done) | fail) (by first | ((k_dflt ((first | assumption | omega | decide | (simp only [List.length_append, List.length_cons, List.length_nil, List.length_drop, List.length_take, List.length_map]; omega) | (simp only [List.length_append, List.length_cons, List.length_nil, List.length_drop, List.length_take, List.length_map] at *; omega)))); done) | fail) ?_))) | ((with_reducible show Then _ _ _ _ _ _ _); first | ((with_reducible refine then_next ?_))) | ((with_reducible show W _ VR (eval (Expr.Name _ _) _) _ _ _ _); first | ((with_reducible refine W_local (by first | ((k_dflt (assumption)); done) | fail) (by first | ((k_dflt (assumption)); done) | fail) (by first | ((k_dflt (assumption)); done) | fail) (by first | ((k_dflt ((with_reducible repeat (first | exact Has.here | apply Has.there)))); done) | fail) ?_)) | ((with_reducible refine W_bltT (by first | ((k_dflt (assumption)); done) | fail) (by first | ((k_dflt (assumption)); done) | fail) (by first | ((k_dflt (assumption)); done) | fail) (by first | ((k_dflt ((with_reducible repeat (first | exact InN.here | apply InN.there)))); done) | fail) (by first | ((k_dflt ((with_reducible_and_instances repeat (first | exact List.Mem.head _ | apply List.Mem.tail)))); done) | fail) ?_))) | ((with_reducible show W _ VR (eval (Expr.Constant (Const.int _) _ _) _) _ _ _ _); first | ((with_reducible refine W_int ?_))) | ((with_reducible show W _ VR (eval (Expr.Constant (Const.str _) _ _) _) _ _ _ _); first | ((with_reducible refine W_str lit8 ?_)) | ((with_reducible refine W_str lit9 ?_)) | ((with_reducible refine W_str lit10 ?_))) | ((with_reducible show W _ VR (eval (Expr.Call _ _ _ _) _) _ _ _ _); first | (refine W_Call (by assumption) (by rfl) ?_)) | ((with_reducible show W _ VR (eval (Expr.BinOp _ _ _ _) _) _ _ _ _); first | ((with_reducible refine W_BinOp ?_))) | ((with_reducible show W _ FR (exec (Stmt.AugAssign (Expr.Name _ _) _ _ _) _) _ _ _ _); first | ((with_reducible refine S_Aug (by first | ((k_dflt (assumption)); done) | fail) (by first | ((k_dflt (assumption)); done) | fail) (by first | ((k_dflt (assumption)); done) | fail) (by first | ((k_dflt ((with_reducible repeat (first | exact Has.here | apply Has.there)))); done) | fail) ?_))) | ((with_reducible show Op2 _ _ _ _ _ _ _ _); first | ((with_reducible refine mod_ints (by first | ((k_dflt ((first | assumption | omega | decide | (simp only [List.length_append, List.length_cons, List.length_nil, List.length_drop, List.length_take, List.length_map]; omega) | (simp only [List.length_append, List.length_cons, List.length_nil, List.length_drop, List.length_take, List.length_map] at *; omega)))); done) | fail) ?_)) | ((with_reducible refine add_strs (by first | ((k_dflt ((first | assumption | omega | decide | (simp only [List.length_append, List.length_cons, List.length_nil, List.length_drop, List.length_take, List.length_map]; omega) | (simp only [List.length_append, List.length_cons, List.length_nil, List.length_drop, List.length_take, List.length_map] at *; omega)))); done) | fail) ?_)) | ((with_reducible refine iadd_strs (by first | ((k_dflt ((first | assumption | omega | decide | (simp only [List.length_append, List.length_cons, List.length_nil, List.length_drop, List.length_take, List.length_map]; omega) | (simp only [List.length_append, List.length_cons, List.length_nil, List.length_drop, List.length_take, List.length_map] at *; omega)))); done) | fail) ?_))) | ((with_reducible show Cal _ _ _ _ _ _ _); first | ((with_reducible refine sum_list (by first | ((k_dflt (assumption)); done) | fail) (by first | ((k_dflt ((first | (refine' Or.inl ?lm; (case lm => (with_reducible_and_instances repeat (first | exact List.Mem.head _ | apply List.Mem.tail)))) | exact LA.base (by assumption)))); done) | fail) ?_))) | ((with_reducible show Args _ _ _ _ _ _); first | ((with_reducible refine args_cons' ?_)) | ((with_reducible refine args_nil' ?_))) | ((with_reducible show Kp _ _ ∧ _); first | ((with_reducible refine kp_and kp_blt ?_))) | ((with_reducible show Sto _ _ _ _ _ _ _); first | ((with_reducible refine Sto_local (by first | ((k_dflt (assumption)); done) | fail) (by first | ((k_dflt (assumption)); done) | fail) (by first | ((k_dflt (assumption)); done) | fail) (by first | ((k_dflt ((with_reducible repeat (first | exact Put.here | apply Put.there)))); done) | fail) ?_))) | fail)
    refine S_cons ?_
    repeat' ((fail_if_success (with_reducible show W _ FR (execs (_ :: _) _) _ _ _ _)); first | ((with_reducible show Op2 _ _ _ _ _ _ _ _); first | ((with_reducible refine add_lists (by first | ((k_dflt ((with_reducible_and_instances repeat (first | exact List.Mem.head _ | apply List.Mem.tail)))); done) | fail) (by first | ((k_dflt ((with_reducible_and_instances repeat (first | exact List.Mem.head _ | apply List.Mem.tail)))); done) | fail) (by first | ((k_dflt ((first | assumption | omega | decide | (simp only [List.length_append, List.length_cons, List.length_nil, List.length_drop, List.length_take, List.length_map]; omega) | (simp only [List.length_append, List.length_cons, List.length_nil, List.length_drop, List.length_take, List.length_map] at *; omega)))); done) | fail) ?_); intro _) | ((with_reducible refine iadd_lists (by first | ((k_dflt ((with_reducible repeat (first | exact OUpd.head | apply OUpd.tail)))); done) | fail) (by first | ((k_dflt ((with_reducible_and_instances repeat (first | exact List.Mem.head _ | apply List.Mem.tail)))); done) | fail) (by first | ((k_dflt ((first | assumption | omega | decide | (simp only [List.length_append, List.length_cons, List.length_nil, List.length_drop, List.length_take, List.length_map]; omega) | (simp only [List.length_append, List.length_cons, List.length_nil, List.length_drop, List.length_take, List.length_map] at *; omega)))); done) | fail) ?_)) | ((with_reducible refine mul_list_int (by first | ((k_dflt ((with_reducible_and_instances repeat (first | exact List.Mem.head _ | apply List.Mem.tail)))); done) | fail) (by first | ((k_dflt (assumption)); done) | fail) (by first | ((k_dflt (assumption)); done) | fail) ?_); intro _)) | ((with_reducible show Cal _ _ _ _ _ _ _); first | ((with_reducible refine len_la (by first | ((k_dflt ((first | (refine' Or.inl ?lm; (case lm => (with_reducible_and_instances repeat (first | exact List.Mem.head _ | apply List.Mem.tail)))) | exact LA.base (by assumption)))); done) | fail) (by first | ((k_dflt ((first | assumption | omega | decide | (simp only [List.length_append, List.length_cons, List.length_nil, List.length_drop, List.length_take, List.length_map]; omega) | (simp only [List.length_append, List.length_cons, List.length_nil, List.length_drop, List.length_take, List.length_map] at *; omega)))); done) | fail) ?_))) | ((with_reducible show Then _ _ _ _ _ _ _); first | ((with_reducible refine then_next ?_))) | ((with_reducible show W _ VR (eval (Expr.Name _ _) _) _ _ _ _); first | ((with_reducible refine W_local (by first | ((k_dflt (assumption)); done) | fail) (by first | ((k_dflt (assumption)); done) | fail) (by first | ((k_dflt (assumption)); done) | fail) (by first | ((k_dflt ((with_reducible repeat (first | exact Has.here | apply Has.there)))); done) | fail) ?_)) | ((with_reducible refine W_bltT (by first | ((k_dflt (assumption)); done) | fail) (by first | ((k_dflt (assumption)); done) | fail) (by first | ((k_dflt (assumption)); done) | fail) (by first | ((k_dflt ((with_reducible repeat (first | exact InN.here | apply InN.there)))); done) | fail) (by first | ((k_dflt ((with_reducible_and_instances repeat (first | exact List.Mem.head _ | apply List.Mem.tail)))); done) | fail) ?_))) | ((with_reducible show W _ VR (eval (Expr.Constant (Const.int _) _ _) _) _ _ _ _); first | ((with_reducible refine W_int ?_))) | ((with_reducible show W _ VR (eval (Expr.Constant (Const.str _) _ _) _) _ _ _ _); first | ((with_reducible refine W_str lit11 ?_))) | ((with_reducible show W _ VR (eval (Expr.Call _ _ _ _) _) _ _ _ _); first | (refine W_Call (by assumption) (by rfl) ?_)) | ((with_reducible show W _ VR (eval (Expr.BinOp _ _ _ _) _) _ _ _ _); first | ((with_reducible refine W_BinOp ?_))) | ((with_reducible show W _ VR (eval (Expr.UnaryOp _ _ _) _) _ _ _ _); first | ((with_reducible refine W_Unary ?_))) | ((with_reducible show W _ VR (eval (Expr.List _ _) _) _ _ _ _); first | (refine W_List (by rfl) ?_)) | ((with_reducible show W _ FR (exec (Stmt.AugAssign (Expr.Name _ _) _ _ _) _) _ _ _ _); first | ((with_reducible refine S_Aug (by first | ((k_dflt (assumption)); done) | fail) (by first | ((k_dflt (assumption)); done) | fail) (by first | ((k_dflt (assumption)); done) | fail) (by first | ((k_dflt ((with_reducible repeat (first | exact Has.here | apply Has.there)))); done) | fail) ?_))) | ((with_reducible show Op2 _ _ _ _ _ _ _ _); first | ((with_reducible refine sub_ints ?_)) | ((with_reducible refine mod_ints (by first | ((k_dflt ((first | assumption | omega | decide | (simp only [List.length_append, List.length_cons, List.length_nil, List.length_drop, List.length_take, List.length_map]; omega) | (simp only [List.length_append, List.length_cons, List.length_nil, List.length_drop, List.length_take, List.length_map] at *; omega)))); done) | fail) ?_))) | ((with_reducible show Op1 _ _ _ _ _ _ _); first | ((with_reducible refine Mine.neg_int ?_))) | ((with_reducible show Cal _ _ _ _ _ _ _); first | ((with_reducible refine ord_1 ?_)) | ((with_reducible refine sum_list (by first | ((k_dflt (assumption)); done) | fail) (by first | ((k_dflt ((first | (refine' Or.inl ?lm; (case lm => (with_reducible_and_instances repeat (first | exact List.Mem.head _ | apply List.Mem.tail)))) | exact LA.base (by assumption)))); done) | fail) ?_))) | ((with_reducible show Args _ _ _ _ _ _); first | ((with_reducible refine args_cons' ?_)) | ((with_reducible refine args_nil' ?_))) | ((with_reducible show Kp _ _ ∧ _); first | ((with_reducible refine kp_and kp_blt ?_))) | ((with_reducible show _ ≤ _ ∧ _); first | ((with_reducible refine disp (by first | ((k_dflt ((first | assumption | omega | decide | (simp only [List.length_append, List.length_cons, List.length_nil, List.length_drop, List.length_take, List.length_map]; omega) | (simp only [List.length_append, List.length_cons, List.length_nil, List.length_drop, List.length_take, List.length_map] at *; omega)))); done) | fail) ?_); intro _)) | ((with_reducible show Sto _ _ _ _ _ _ _); first | ((with_reducible refine Sto_local (by first | ((k_dflt (assumption)); done) | fail) (by first | ((k_dflt (assumption)); done) | fail) (by first | ((k_dflt (assumption)); done) | fail) (by first | ((k_dflt ((with_reducible repeat (first | exact Put.here | apply Put.there)))); done) | fail) ?_))) | fail)
    have e1 : (ms.flatMap pcS).flatten ++ ([92, 55, 56, 92, 120] ++ (List.replicate (ns.sum.fmod 2).toNat [55]).flatten ++ (List.replicate (((ns.map V.int).length : Int).fmod 2).toNat [92, 56]).flatten) = (ms.flatMap pcS ++ tlS a b).flatten := by
      rw [ea2, eb2]; exact tail_text
    have e2 : (ms.map pcW).map V.int ++ ([V.int (-2), V.int ((56 : Nat) : Int), V.int (-1 - ns.sum.fmod 2)] ++ List.replicate (((ns.map V.int).length : Int).fmod 2).toNat (V.int (-2))) = (ms.map pcW ++ tlW a b).map V.int := by
      rw [eb2]; exact tail_want ea
    have hDec := dec_all (ms := ms) (dec_tail ha hb)
    have hSg : ∀ s ∈ ms.flatMap pcS ++ tlS a b, SgA s := fun s hs => (List.mem_append.mp hs).elim ((pcs_ok ms).1 s) ((tl_ok ha hb).1 s)
    have hSz : (ms.flatMap pcS ++ tlS a b).flatten.length ≤ 1000 := by
      have g := flat_two hSg
      have g1 := (pcs_ok ms).2
      have g2 := (tl_ok ha hb).2
      rw [List.length_append] at g
      omega
    have hWW : (ms.map pcW ++ tlW a b).length ≤ 100 := by
      unfold tlW
      simp only [List.length_append, List.length_map, List.length_cons, List.length_nil, List.length_replicate]
      omega
    rw [e1, e2]
    clear e1 e2 hra hrb hrc ea2 eb2 ha0 ha1 hb0 hb1 ea eb hTz hWz
    generalize ms.flatMap pcS ++ tlS a b = SS at *
    generalize ms.map pcW ++ tlW a b = WW at *
    clear ha hb hmz
    obtain ⟨l, hl0⟩ : ∃ l, SS.flatten = l := ⟨_, rfl⟩
    rw [hl0] at hSz ⊢
    have hc8 : ∀ c ∈ l, c < 256 := by
      intro c hc
      rw [← hl0] at hc
      obtain ⟨s, hs, hc⟩ := List.mem_flatten.mp hc
      exact (hSg s hs).2 c hc
    refine S_cons ?_
    repeat' ((fail_if_success (with_reducible show W _ FR (execs (_ :: _) _) _ _ _ _)); first | ((with_reducible show Cal _ _ _ _ _ _ _); first | ((with_reducible refine list_str (by first | ((k_dflt (assumption)); done) | fail) (by first | ((k_dflt ((first | assumption | omega | decide | (simp only [List.length_append, List.length_cons, List.length_nil, List.length_drop, List.length_take, List.length_map]; omega) | (simp only [List.length_append, List.length_cons, List.length_nil, List.length_drop, List.length_take, List.length_map] at *; omega)))); done) | fail) ?_); intro _)) | ((with_reducible show W _ VR (eval (Expr.Name _ _) _) _ _ _ _); first | ((with_reducible refine W_bltT (by first | ((k_dflt (assumption)); done) | fail) (by first | ((k_dflt (assumption)); done) | fail) (by first | ((k_dflt (assumption)); done) | fail) (by first | ((k_dflt ((with_reducible repeat (first | exact InN.here | apply InN.there)))); done) | fail) (by first | ((k_dflt ((with_reducible_and_instances repeat (first | exact List.Mem.head _ | apply List.Mem.tail)))); done) | fail) ?_))) | ((with_reducible show W _ VR (eval (Expr.Constant (Const.str _) _ _) _) _ _ _ _); first | ((with_reducible refine W_str lit6 ?_)) | ((with_reducible refine W_str lit12 ?_))) | ((with_reducible show W _ VR (eval (Expr.Call _ _ _ _) _) _ _ _ _); first | (refine W_Call (by assumption) (by rfl) ?_)) | ((with_reducible show W _ VR (eval (Expr.BinOp _ _ _ _) _) _ _ _ _); first | ((with_reducible refine W_BinOp ?_))) | ((with_reducible show W _ VR (eval (Expr.ListComp _ _ _ _) _) _ _ _ _); first | ((refine W_Comp0 (by first | ((k_dflt (assumption)); done) | fail) (by first | ((k_dflt (decide)); done) | fail) (by first | ((k_dflt (exact rfl)); done) | fail) (by first | ((k_dflt (decide)); done) | fail) (by first | ((k_dflt (exact rfl)); done) | fail) (by first | ((k_dflt (decide)); done) | fail) (by first | ((k_dflt (exact rfl)); done) | fail) (by first | ((k_dflt (decide)); done) | fail) ?_))) | ((with_reducible show W _ FR (exec (Stmt.Assign [Expr.Name _ _] _ _) _) _ _ _ _); first | (refine S_Assign ?_)) | ((with_reducible show Args _ _ _ _ _ _); first | ((with_reducible refine args_cons' ?_)) | ((with_reducible refine args_nil' ?_))) | ((with_reducible show Kp _ _ ∧ _); first | ((with_reducible refine kp_and kp_type ?_))) | ((with_reducible show CompF _ _ _ _ _ _ _ _ _); first | ((refine compF (Itr_str (by first | ((k_dflt (assumption)); done) | fail)) (by first | ((k_dflt ((first | assumption | omega | decide | (simp only [List.length_append, List.length_cons, List.length_nil, List.length_drop, List.length_take, List.length_map]; omega) | (simp only [List.length_append, List.length_cons, List.length_nil, List.length_drop, List.length_take, List.length_map] at *; omega)))); done) | fail) ?_))) | fail)
    refine CompE.mapk (fun (k : Nat) => V.str ([92] ++ [k])) (fun k hk c2 ok2 hg2 hns2 hcv2 hd2 hB2 => ?_) ?_
    · have H2 : GK c2.g := by rw [hg2]; exact HG
      have H3 := H2.tk
      have hh2 : c2.B.handled = none := by rw [hB2]; exact hh
      dsimp only at hns2
      repeat' (first | ((with_reducible show W _ VR (eval (Expr.Name _ _) _) _ _ _ _); first | ((with_reducible refine W_comp (by first | ((k_dflt (assumption)); done) | fail) (by first | ((k_dflt (assumption)); done) | fail) (by first | ((k_dflt (assumption)); done) | fail) (by first | ((k_dflt ((with_reducible repeat (first | exact InN.here | apply InN.there)))); done) | fail) (by first | ((k_dflt ((with_reducible_and_instances repeat (first | exact List.Mem.head _ | apply List.Mem.tail)))); done) | fail) ?_))) | ((with_reducible show W _ VR (eval (Expr.Constant (Const.str _) _ _) _) _ _ _ _); first | ((with_reducible refine W_str lit1 ?_))) | ((with_reducible show W _ VR (eval (Expr.BinOp _ _ _ _) _) _ _ _ _); first | ((with_reducible refine W_BinOp ?_))) | ((with_reducible show Op2 _ _ _ _ _ _ _ _); first | ((with_reducible refine add_strs (by first | ((k_dflt ((first | assumption | omega | decide | (simp only [List.length_append, List.length_cons, List.length_nil, List.length_drop, List.length_take, List.length_map]; omega) | (simp only [List.length_append, List.length_cons, List.length_nil, List.length_drop, List.length_take, List.length_map] at *; omega)))); done) | fail) ?_))) | fail)
      all_goals first
        | exact ⟨rfl, rfl, rfl⟩
    intro Dc6
    dsimp only [List.cons_append, List.nil_append]
    repeat' ((fail_if_success (with_reducible show W _ FR (execs (_ :: _) _) _ _ _ _)); first | ((with_reducible show Op2 _ _ _ _ _ _ _ _); first | ((with_reducible refine add_lists (by first | ((k_dflt ((with_reducible_and_instances repeat (first | exact List.Mem.head _ | apply List.Mem.tail)))); done) | fail) (by first | ((k_dflt ((with_reducible_and_instances repeat (first | exact List.Mem.head _ | apply List.Mem.tail)))); done) | fail) (by first | ((k_dflt ((first | assumption | omega | decide | (simp only [List.length_append, List.length_cons, List.length_nil, List.length_drop, List.length_take, List.length_map]; omega) | (simp only [List.length_append, List.length_cons, List.length_nil, List.length_drop, List.length_take, List.length_map] at *; omega)))); done) | fail) ?_); intro _)) | ((with_reducible show Args _ _ _ _ _ _); first | ((with_reducible refine args_nil' ?_))) | fail)
    refine' froz_listE sixA ?hm ?hv ?hz hh ?_
    case hm => (with_reducible_and_instances repeat (first | exact List.Mem.head _ | apply List.Mem.tail))
    case hv => rfl
    case hz => exact Nat.le_of_ble_eq_true rfl
    intro S6
    repeat' ((fail_if_success (with_reducible show W _ FR (execs (_ :: _) _) _ _ _ _)); first | ((with_reducible show Then _ _ _ _ _ _ _); first | ((with_reducible refine then_next ?_))) | ((with_reducible show Sto _ _ _ _ _ _ _); first | ((with_reducible refine Sto_local (by first | ((k_dflt (assumption)); done) | fail) (by first | ((k_dflt (assumption)); done) | fail) (by first | ((k_dflt (assumption)); done) | fail) (by first | ((k_dflt ((with_reducible repeat (first | exact Put.here | apply Put.there)))); done) | fail) ?_))) | fail)
    refine S_cons ?_
    repeat' ((fail_if_success (with_reducible show W _ FR (execs (_ :: _) _) _ _ _ _)); first | ((with_reducible show Cal _ _ _ _ _ _ _); first | ((with_reducible refine list_str (by first | ((k_dflt (assumption)); done) | fail) (by first | ((k_dflt ((first | assumption | omega | decide | (simp only [List.length_append, List.length_cons, List.length_nil, List.length_drop, List.length_take, List.length_map]; omega) | (simp only [List.length_append, List.length_cons, List.length_nil, List.length_drop, List.length_take, List.length_map] at *; omega)))); done) | fail) ?_); intro _)) | ((with_reducible show W _ VR (eval (Expr.Name _ _) _) _ _ _ _); first | ((with_reducible refine W_bltT (by first | ((k_dflt (assumption)); done) | fail) (by first | ((k_dflt (assumption)); done) | fail) (by first | ((k_dflt (assumption)); done) | fail) (by first | ((k_dflt ((with_reducible repeat (first | exact InN.here | apply InN.there)))); done) | fail) (by first | ((k_dflt ((with_reducible_and_instances repeat (first | exact List.Mem.head _ | apply List.Mem.tail)))); done) | fail) ?_))) | ((with_reducible show W _ VR (eval (Expr.Constant (Const.str _) _ _) _) _ _ _ _); first | ((with_reducible refine W_str lit6 ?_))) | ((with_reducible show W _ VR (eval (Expr.Call _ _ _ _) _) _ _ _ _); first | (refine W_Call (by assumption) (by rfl) ?_)) | ((with_reducible show W _ VR (eval (Expr.BinOp _ _ _ _) _) _ _ _ _); first | ((with_reducible refine W_BinOp ?_))) | ((with_reducible show W _ VR (eval (Expr.ListComp _ _ _ _) _) _ _ _ _); first | ((refine W_Comp0 (by first | ((k_dflt (assumption)); done) | fail) (by first | ((k_dflt (decide)); done) | fail) (by first | ((k_dflt (exact rfl)); done) | fail) (by first | ((k_dflt (decide)); done) | fail) (by first | ((k_dflt (exact rfl)); done) | fail) (by first | ((k_dflt (decide)); done) | fail) (by first | ((k_dflt (exact rfl)); done) | fail) (by first | ((k_dflt (decide)); done) | fail) ?_))) | ((with_reducible show W _ FR (exec (Stmt.Assign [Expr.Name _ _] _ _) _) _ _ _ _); first | (refine S_Assign ?_)) | ((with_reducible show Args _ _ _ _ _ _); first | ((with_reducible refine args_cons' ?_)) | ((with_reducible refine args_nil' ?_))) | ((with_reducible show Kp _ _ ∧ _); first | ((with_reducible refine kp_and kp_type ?_))) | ((with_reducible show CompF _ _ _ _ _ _ _ _ _); first | ((refine compF (Itr_str (by first | ((k_dflt (assumption)); done) | fail)) (by first | ((k_dflt ((first | assumption | omega | decide | (simp only [List.length_append, List.length_cons, List.length_nil, List.length_drop, List.length_take, List.length_map]; omega) | (simp only [List.length_append, List.length_cons, List.length_nil, List.length_drop, List.length_take, List.length_map] at *; omega)))); done) | fail) ?_))) | fail)
    refine CompE.mapk (fun (k : Nat) => V.str ([92] ++ [k])) (fun k hk c2 ok2 hg2 hns2 hcv2 hd2 hB2 => ?_) ?_
    · have H2 : GK c2.g := by rw [hg2]; exact HG
      have H3 := H2.tk
      have hh2 : c2.B.handled = none := by rw [hB2]; exact hh
      dsimp only at hns2
      repeat' (first | ((with_reducible show W _ VR (eval (Expr.Name _ _) _) _ _ _ _); first | ((with_reducible refine W_comp (by first | ((k_dflt (assumption)); done) | fail) (by first | ((k_dflt (assumption)); done) | fail) (by first | ((k_dflt (assumption)); done) | fail) (by first | ((k_dflt ((with_reducible repeat (first | exact InN.here | apply InN.there)))); done) | fail) (by first | ((k_dflt ((with_reducible_and_instances repeat (first | exact List.Mem.head _ | apply List.Mem.tail)))); done) | fail) ?_))) | ((with_reducible show W _ VR (eval (Expr.Constant (Const.str _) _ _) _) _ _ _ _); first | ((with_reducible refine W_str lit1 ?_))) | ((with_reducible show W _ VR (eval (Expr.BinOp _ _ _ _) _) _ _ _ _); first | ((with_reducible refine W_BinOp ?_))) | ((with_reducible show Op2 _ _ _ _ _ _ _ _); first | ((with_reducible refine add_strs (by first | ((k_dflt ((first | assumption | omega | decide | (simp only [List.length_append, List.length_cons, List.length_nil, List.length_drop, List.length_take, List.length_map]; omega) | (simp only [List.length_append, List.length_cons, List.length_nil, List.length_drop, List.length_take, List.length_map] at *; omega)))); done) | fail) ?_))) | fail)
      all_goals first
        | exact ⟨rfl, rfl, rfl⟩
    intro Dc8
    dsimp only [List.cons_append, List.nil_append]
    repeat' ((fail_if_success (with_reducible show W _ FR (execs (_ :: _) _) _ _ _ _)); first | ((with_reducible show Op2 _ _ _ _ _ _ _ _); first | ((with_reducible refine add_lists (by first | ((k_dflt ((with_reducible_and_instances repeat (first | exact List.Mem.head _ | apply List.Mem.tail)))); done) | fail) (by first | ((k_dflt ((with_reducible_and_instances repeat (first | exact List.Mem.head _ | apply List.Mem.tail)))); done) | fail) (by first | ((k_dflt ((first | assumption | omega | decide | (simp only [List.length_append, List.length_cons, List.length_nil, List.length_drop, List.length_take, List.length_map]; omega) | (simp only [List.length_append, List.length_cons, List.length_nil, List.length_drop, List.length_take, List.length_map] at *; omega)))); done) | fail) ?_); intro _)) | ((with_reducible show Args _ _ _ _ _ _); first | ((with_reducible refine args_nil' ?_))) | fail)
    refine' froz_listE eigA ?hm ?hv ?hz hh ?_
    case hm => (with_reducible_and_instances repeat (first | exact List.Mem.head _ | apply List.Mem.tail))
    case hv => rfl
    case hz => exact Nat.le_of_ble_eq_true rfl
    intro S8
    repeat' ((fail_if_success (with_reducible show W _ FR (execs (_ :: _) _) _ _ _ _)); first | ((with_reducible show Then _ _ _ _ _ _ _); first | ((with_reducible refine then_next ?_))) | ((with_reducible show Sto _ _ _ _ _ _ _); first | ((with_reducible refine Sto_local (by first | ((k_dflt (assumption)); done) | fail) (by first | ((k_dflt (assumption)); done) | fail) (by first | ((k_dflt (assumption)); done) | fail) (by first | ((k_dflt ((with_reducible repeat (first | exact Put.here | apply Put.there)))); done) | fail) ?_))) | fail)
    refine S_cons ?_
    repeat' ((fail_if_success (with_reducible show W _ FR (execs (_ :: _) _) _ _ _ _)); first | ((with_reducible show Cal _ _ _ _ _ _ _); first | ((refine cal_E (by first | ((k_dflt (assumption)); done) | fail) (by first | ((k_dflt ((with_reducible repeat (first | exact Picks.nil | (apply Picks.cons; (focus (with_reducible repeat (first | exact Pick.head | apply Pick.tail)))))))); done) | fail) (octets_F (by assumption) (by first | ((k_dflt (assumption)); done) | fail) (by first | ((k_dflt (assumption)); done) | fail)) (by first | ((k_dflt ((with_reducible repeat (first | exact App.nil | apply App.cons)))); done) | fail) (by first | ((k_dflt (((try dsimp only); omega))); done) | fail) (by first | ((k_dflt (first | exact .inl rfl | exact .inr (by assumption))); done) | fail) ?_))) | ((with_reducible show W _ VR (eval (Expr.Name _ _) _) _ _ _ _); first | ((with_reducible refine W_local (by first | ((k_dflt (assumption)); done) | fail) (by first | ((k_dflt (assumption)); done) | fail) (by first | ((k_dflt (assumption)); done) | fail) (by first | ((k_dflt ((with_reducible repeat (first | exact Has.here | apply Has.there)))); done) | fail) ?_)) | ((with_reducible refine W_globT (by first | ((k_dflt (assumption)); done) | fail) (by first | ((k_dflt (assumption)); done) | fail) (by first | ((k_dflt (assumption)); done) | fail) (by first | ((k_dflt ((with_reducible repeat (first | exact InN.here | apply InN.there)))); done) | fail) (by first | ((k_dflt ((with_reducible_and_instances repeat (first | exact List.Mem.head _ | apply List.Mem.tail)))); done) | fail) ?_))) | ((with_reducible show W _ VR (eval (Expr.Call _ _ _ _) _) _ _ _ _); first | (refine W_Call (by assumption) (by rfl) ?_)) | ((with_reducible show W _ VR (eval (Expr.Tuple _ _ _) _) _ _ _ _); first | (refine W_Tuple (by rfl) ?_)) | ((with_reducible show W _ FR (exec (Stmt.For _ _ _ _ _) _) _ _ _ _); first | (refine S_For ?_)) | ((with_reducible show Args _ _ _ _ _ _); first | ((with_reducible refine args_cons' ?_)) | ((with_reducible refine args_nil' ?_))) | ((with_reducible show Kp _ _ ∧ _); first | ((with_reducible refine kp_fun (by first | ((k_dflt (assumption)); done) | fail) (by first | ((k_dflt ((with_reducible_and_instances repeat (first | exact List.Mem.head _ | apply List.Mem.tail)))); done) | fail) ?_))) | ((with_reducible show _ ≤ _ ∧ _); first | ((with_reducible refine disp (by first | ((k_dflt ((first | assumption | omega | decide | (simp only [List.length_append, List.length_cons, List.length_nil, List.length_drop, List.length_take, List.length_map]; omega) | (simp only [List.length_append, List.length_cons, List.length_nil, List.length_drop, List.length_take, List.length_map] at *; omega)))); done) | fail) ?_); intro _)) | fail)
    have hs6 : sixA.length ≤ 4000 := Nat.le_of_ble_eq_true rfl
    have hs8 : eigA.length ≤ 4000 := Nat.le_of_ble_eq_true rfl
    refine' For_tupG (α := Unit) hh ?tE ?tp (fun _ _ => True) [some (.ref D), some (.str l), some (.ref Wd), none, none, none, some (.ref S6), some (.ref S8), none, none, none, none, none, none, none, none, none, none, none, none, none, none] (fun _ => [(S6, .set true sixA), (S8, .set true eigA), (Wd, .list (WW.map V.int))]) () ?tl ?tp2 trivial ?turn ?tend
    case tE => exact passes_never
    case tp => (with_reducible repeat (first | exact Picks.nil | (apply Picks.cons; (focus (with_reducible repeat (first | exact Pick.head | apply Pick.tail))))))
    case tl => (with_reducible repeat (first | exact LoS.nil | apply LoS.keep | apply LoS.drop))
    case tp2 => (with_reducible repeat (first | exact Picks.nil | (apply Picks.cons; (focus (with_reducible repeat (first | exact Pick.head | apply Pick.tail))))))
    case tend =>
      intro _ _
      repeat' (first | ((with_reducible show Then _ _ _ _ _ _ _); first | ((with_reducible refine then_next ?_)) | ((with_reducible refine then_ret ?_))) | ((with_reducible show W _ FR (execs _ _) _ _ _ _); first | ((with_reducible refine S_cons ?_))) | ((with_reducible show W _ VR (eval (Expr.Constant (Const.bool _) _ _) _) _ _ _ _); first | ((with_reducible refine W_bool ?_))) | ((with_reducible show W _ FR (exec (Stmt.Return (some _) _) _) _ _ _ _); first | ((with_reducible refine S_Return ?_))) | fail)
      all_goals first | rfl
    case turn =>
      intro TQ0 kp v _ hv _ hT0
      obtain ⟨kd, rfl⟩ : ∃ kd, ptV kd l = v := by
        rcases List.mem_cons.mp (List.mem_of_getElem? hv) with h | h
        · exact ⟨true, h.symm⟩
        · exact ⟨false, (List.mem_singleton.mp h).symm⟩
      clear hv
      obtain ⟨j, o, hn, H0⟩ := toks_start (l := l) (ss := SS) (fun s hs => (hSg s hs).1) hl0.symm
      repeat' ((fail_if_success (with_reducible show W _ FR (execs (_ :: _) _) _ _ _ _)); first | ((with_reducible show Asg _ _ _ _ _ _ _); first | ((with_reducible refine asg_name ?_))) | ((with_reducible show Sto _ _ _ _ _ _ _); first | ((with_reducible refine Sto_local (by first | ((k_dflt (assumption)); done) | fail) (by first | ((k_dflt (assumption)); done) | fail) (by first | ((k_dflt (assumption)); done) | fail) (by first | ((k_dflt ((with_reducible repeat (first | exact Put.here | apply Put.there)))); done) | fail) ?_))) | fail)
      refine S_cons ?_
      repeat' ((fail_if_success (with_reducible show W _ FR (execs (_ :: _) _) _ _ _ _)); first | ((with_reducible show Cal _ _ _ _ _ _ _); first | ((refine new_K (by first | ((k_dflt (assumption)); done) | fail) (by first | ((k_dflt (assumption)); done) | fail) _ (by first | ((k_dflt (assumption)); done) | fail) (by first | ((k_dflt (assumption)); done) | fail) (by first | ((k_dflt (((try dsimp only); omega))); done) | fail) (by first | ((k_dflt (assumption)); done) | fail) ?_); intro _ _)) | ((with_reducible show Then _ _ _ _ _ _ _); first | ((with_reducible refine then_next ?_))) | ((with_reducible show W _ VR (eval (Expr.Name _ _) _) _ _ _ _); first | ((with_reducible refine W_local (by first | ((k_dflt (assumption)); done) | fail) (by first | ((k_dflt (assumption)); done) | fail) (by first | ((k_dflt (assumption)); done) | fail) (by first | ((k_dflt ((with_reducible repeat (first | exact Has.here | apply Has.there)))); done) | fail) ?_)) | ((with_reducible refine W_globT (by first | ((k_dflt (assumption)); done) | fail) (by first | ((k_dflt (assumption)); done) | fail) (by first | ((k_dflt (assumption)); done) | fail) (by first | ((k_dflt ((with_reducible repeat (first | exact InN.here | apply InN.there)))); done) | fail) (by first | ((k_dflt ((with_reducible_and_instances repeat (first | exact List.Mem.head _ | apply List.Mem.tail)))); done) | fail) ?_))) | ((with_reducible show W _ VR (eval (Expr.Call _ _ _ _) _) _ _ _ _); first | (refine W_Call (by assumption) (by rfl) ?_)) | ((with_reducible show W _ FR (exec (Stmt.Assign [Expr.Name _ _] _ _) _) _ _ _ _); first | (refine S_Assign ?_)) | ((with_reducible show Args _ _ _ _ _ _); first | ((with_reducible refine args_cons' ?_)) | ((with_reducible refine args_nil' ?_))) | ((with_reducible show Kp _ _ ∧ _); first | ((with_reducible refine kp_fun (by first | ((k_dflt (assumption)); done) | fail) (by first | ((k_dflt ((with_reducible_and_instances repeat (first | exact List.Mem.head _ | apply List.Mem.tail)))); done) | fail) ?_))) | ((with_reducible show Sto _ _ _ _ _ _ _); first | ((with_reducible refine Sto_local (by first | ((k_dflt (assumption)); done) | fail) (by first | ((k_dflt (assumption)); done) | fail) (by first | ((k_dflt (assumption)); done) | fail) (by first | ((k_dflt ((with_reducible repeat (first | exact Put.here | apply Put.there)))); done) | fail) ?_))) | fail)
      rename_i T dT
      refine S_cons ?_
      repeat' ((fail_if_success (with_reducible show W _ FR (execs (_ :: _) _) _ _ _ _)); first | ((with_reducible show Then _ _ _ _ _ _ _); first | ((with_reducible refine then_next ?_))) | ((with_reducible show W _ VR (eval (Expr.List _ _) _) _ _ _ _); first | (refine W_List (by rfl) ?_)) | ((with_reducible show W _ FR (exec (Stmt.Assign [Expr.Name _ _] _ _) _) _ _ _ _); first | (refine S_Assign ?_)) | ((with_reducible show Args _ _ _ _ _ _); first | ((with_reducible refine args_nil' ?_))) | ((with_reducible show _ ≤ _ ∧ _); first | ((with_reducible refine disp (by first | ((k_dflt ((first | assumption | omega | decide | (simp only [List.length_append, List.length_cons, List.length_nil, List.length_drop, List.length_take, List.length_map]; omega) | (simp only [List.length_append, List.length_cons, List.length_nil, List.length_drop, List.length_take, List.length_map] at *; omega)))); done) | fail) ?_); intro _)) | ((with_reducible show Sto _ _ _ _ _ _ _); first | ((with_reducible refine Sto_local (by first | ((k_dflt (assumption)); done) | fail) (by first | ((k_dflt (assumption)); done) | fail) (by first | ((k_dflt (assumption)); done) | fail) (by first | ((k_dflt ((with_reducible repeat (first | exact Put.here | apply Put.there)))); done) | fail) ?_))) | fail)
      rename_i Bk
      refine S_cons ?_
      clear hn hSg hc8 hl0
      refine' S_While (fun m lo ob => ∃ ss bk r i o sv wv, (Toks l ss i o ∧ Dec ss r ∧ bk ++ r = WW ∧ ss.length = m) ∧ lo = [some (.ref D), some (.str l), some (.ref Wd), none, none, none, some (.ref S6), some (.ref S8), some (ptV kd l), some (.ref T), some (.ref Bk), sv, wv, none, none, none, none, none, none, none, none, none] ∧ ob = [(Bk, .list (bk.map V.int)), (T, .inst 133 dT), (dT, .dct (tokE (.bool kd) (ptV kd l) l (i : Int) (ovV o))), (S6, .set true sixA), (S8, .set true eigA), (Wd, .list (WW.map V.int))]) passes_never (Wkn.of ⟨SS.length, SS, [], WW, j, o, _, _, ⟨H0, hDec, rfl, rfl⟩, rfl, rfl⟩) ?_
      clear hDec H0
      rintro m lo ob ⟨ss, bk, r, i, o, sv, wv, ⟨Hk, hD, hbr, rfl⟩, rfl, rfl⟩
      have hik := Nat.le_trans (toks_le Hk) (Nat.le_trans hSz (by decide : 1000 ≤ 2000))
      have hbz : (bk.map V.int).length ≤ 100 := by
        rw [List.length_map]
        exact Nat.le_trans (by rw [← hbr, List.length_append]; exact Nat.le_add_right _ _) hWW
      cases ss with
      | nil =>
        obtain rfl := toks_nil Hk
        obtain rfl := hD.nil_eq
        rw [List.append_nil] at hbr
        subst hbr
        have hpl : (bk.map V.int).all plainD = true := by
          rw [List.all_eq_true]
          intro x hx
          obtain ⟨y, _, rfl⟩ := List.mem_map.mp hx
          rfl
        rw [show ovV none = V.none from rfl]
        repeat' (first | ((with_reducible show Op2 _ _ _ _ _ _ _ _); first | ((with_reducible refine ne_lists_same (by first | ((k_dflt (assumption)); done) | fail) (by first | ((k_dflt ((first | (refine' Or.inl ?lm; (case lm => (with_reducible_and_instances repeat (first | exact List.Mem.head _ | apply List.Mem.tail)))) | exact LA.base (by assumption)))); done) | fail) (by first | ((k_dflt ((first | (refine' Or.inl ?lm; (case lm => (with_reducible_and_instances repeat (first | exact List.Mem.head _ | apply List.Mem.tail)))) | exact LA.base (by assumption)))); done) | fail) (by first | ((k_dflt (assumption)); done) | fail) ?_))) | ((with_reducible show Then _ _ _ _ _ _ _); first | ((with_reducible refine then_next ?_))) | ((with_reducible show W _ FR (execs _ _) _ _ _ _); first | ((with_reducible refine S_cons ?_)) | ((with_reducible refine S_nil ?_))) | ((with_reducible show W _ VR (eval (Expr.Name _ _) _) _ _ _ _); first | ((with_reducible refine W_local (by first | ((k_dflt (assumption)); done) | fail) (by first | ((k_dflt (assumption)); done) | fail) (by first | ((k_dflt (assumption)); done) | fail) (by first | ((k_dflt ((with_reducible repeat (first | exact Has.here | apply Has.there)))); done) | fail) ?_))) | ((with_reducible show W _ VR (eval (Expr.Constant Const.none _ _) _) _ _ _ _); first | ((with_reducible refine W_none ?_))) | ((with_reducible show W _ VR (eval (Expr.Attribute _ _ _) _) _ _ _ _); first | (refine W_Attr ?_)) | ((with_reducible show W _ FR (exec (Stmt.If _ _ _ _) _) _ _ _ _); first | ((with_reducible refine S_If ?_))) | ((with_reducible show W _ BR (isTrue (Expr.Compare _ _ _ _) _ _) _ _ _ _); first | (refine T_Compare ?_)) | ((with_reducible show Op2 _ _ _ _ _ _ _ _); first | ((with_reducible refine isnot_none_none ?_))) | ((with_reducible show Tru _ _ _ _ _ _); first | ((with_reducible refine tru_bool ?_))) | ((with_reducible show Br false _ _); first | ((with_reducible refine br_f ?_))) | ((with_reducible show GetA _ _ _ _ _ _ _); first | ((with_reducible refine geta_tk (by first | ((k_dflt (assumption)); done) | fail) (by first | ((k_dflt (assumption)); done) | fail) (by first | ((k_dflt ((with_reducible_and_instances repeat (first | exact List.Mem.head _ | apply List.Mem.tail)))); done) | fail) (by first | ((k_dflt ((with_reducible_and_instances repeat (first | exact List.Mem.head _ | apply List.Mem.tail)))); done) | fail) (by first | ((k_dflt ((with_reducible_and_instances repeat (first | exact List.Mem.head _ | apply List.Mem.tail)))); done) | fail) (by first | ((k_dflt ((with_reducible repeat (first | exact Ent.here | (apply Ent.there; (focus decide)))))); done) | fail) (by first | ((k_dflt (first | exact rfl | exact handed_ovV _ | assumption)); done) | fail) ?_))) | fail)
        all_goals first
          | (refine' hT0 () _ _ _ ?gl ?gp trivial; (case gl => (with_reducible repeat (first | exact LoS.nil | apply LoS.keep | apply LoS.drop))); (case gp => (with_reducible repeat (first | exact Picks.nil | (apply Picks.cons; (focus (with_reducible repeat (first | exact Pick.head | apply Pick.tail))))))))
      | cons s ss =>
        obtain ⟨rfl, hsg, i', o', hn', Hk'⟩ := toks_cons Hk
        clear hT0 Hk hsg
        rw [show ovV (some s) = V.str s from rfl]
        cases hD with
        | @one c0 _ r' hc hD' =>
          have hlen1 : (([c0].length : Nat) : Int) = 1 := rfl
          repeat' (first | ((with_reducible show Cal _ _ _ _ _ _ _); first | ((refine cal_E (by first | ((k_dflt (assumption)); done) | fail) (by first | ((k_dflt ((with_reducible repeat (first | exact Picks.nil | (apply Picks.cons; (focus (with_reducible repeat (first | exact Pick.head | apply Pick.tail)))))))); done) | fail) (get_F (by assumption) (by first | ((k_dflt (first | exact rfl | exact handed_ovV _ | assumption)); done) | fail) (by first | ((k_dflt (assumption)); done) | fail) (by first | ((k_dflt (first | omega | exact Nat.zero_le _)); done) | fail) (by first | ((k_dflt (assumption)); done) | fail)) (by first | ((k_dflt ((with_reducible repeat (first | exact App.nil | apply App.cons)))); done) | fail) (by first | ((k_dflt (((try dsimp only); omega))); done) | fail) (by first | ((k_dflt (first | exact .inl rfl | exact .inr (by assumption))); done) | fail) ?_))) | ((with_reducible show Then _ _ _ _ _ _ _); first | ((with_reducible refine then_next ?_))) | ((with_reducible show W _ FR (execs _ _) _ _ _ _); first | ((with_reducible refine S_cons ?_)) | ((with_reducible refine S_nil ?_))) | ((with_reducible show W _ VR (eval (Expr.Name _ _) _) _ _ _ _); first | ((with_reducible refine W_local (by first | ((k_dflt (assumption)); done) | fail) (by first | ((k_dflt (assumption)); done) | fail) (by first | ((k_dflt (assumption)); done) | fail) (by first | ((k_dflt ((with_reducible repeat (first | exact Has.here | apply Has.there)))); done) | fail) ?_)) | ((with_reducible refine W_bltT (by first | ((k_dflt (assumption)); done) | fail) (by first | ((k_dflt (assumption)); done) | fail) (by first | ((k_dflt (assumption)); done) | fail) (by first | ((k_dflt ((with_reducible repeat (first | exact InN.here | apply InN.there)))); done) | fail) (by first | ((k_dflt ((with_reducible_and_instances repeat (first | exact List.Mem.head _ | apply List.Mem.tail)))); done) | fail) ?_))) | ((with_reducible show W _ VR (eval (Expr.Constant Const.none _ _) _) _ _ _ _); first | ((with_reducible refine W_none ?_))) | ((with_reducible show W _ VR (eval (Expr.Constant (Const.int _) _ _) _) _ _ _ _); first | ((with_reducible refine W_int ?_))) | ((with_reducible show W _ VR (eval (Expr.Attribute _ _ _) _) _ _ _ _); first | (refine W_Attr ?_)) | ((with_reducible show W _ VR (eval (Expr.Call (Expr.Attribute _ _ _) _ _ _) _) _ _ _ _); first | (refine W_Method (by assumption) (by rfl) ?_)) | ((with_reducible show W _ VR (eval (Expr.Call _ _ _ _) _) _ _ _ _); first | (refine W_Call (by assumption) (by rfl) ?_)) | ((with_reducible show W _ FR (exec (Stmt.Assign [Expr.Name _ _] _ _) _) _ _ _ _); first | (refine S_Assign ?_)) | ((with_reducible show W _ FR (exec (Stmt.If _ _ _ _) _) _ _ _ _); first | ((with_reducible refine S_If ?_))) | ((with_reducible show W _ FR (exec (Stmt.Expr _ _) _) _ _ _ _); first | (refine S_ExprV ?_ (inter (by assumption)))) | ((with_reducible show W _ BR (isTrue (Expr.Compare _ _ _ _) _ _) _ _ _ _); first | (refine T_Compare ?_)) | ((with_reducible show Op2 _ _ _ _ _ _ _ _); first | ((with_reducible refine eq_ints ?_)) | ((with_reducible refine isnot_str_none' ?_))) | ((with_reducible show Tru _ _ _ _ _ _); first | ((with_reducible refine tru_bool ?_))) | ((with_reducible show Cal _ _ _ _ _ _ _); first | ((with_reducible refine cal_app ?_)) | ((with_reducible refine len_str (by first | ((k_dflt ((first | assumption | omega | decide | (simp only [List.length_append, List.length_cons, List.length_nil, List.length_drop, List.length_take, List.length_map]; omega) | (simp only [List.length_append, List.length_cons, List.length_nil, List.length_drop, List.length_take, List.length_map] at *; omega)))); done) | fail) ?_)) | ((with_reducible refine ord_1 ?_)) | ((with_reducible refine append_list (by first | ((k_dflt ((with_reducible repeat (first | exact OUpd.head | apply OUpd.tail)))); done) | fail) (by first | ((k_dflt ((first | assumption | omega | decide | (simp only [List.length_append, List.length_cons, List.length_nil, List.length_drop, List.length_take, List.length_map]; omega) | (simp only [List.length_append, List.length_cons, List.length_nil, List.length_drop, List.length_take, List.length_map] at *; omega)))); done) | fail) ?_))) | ((with_reducible show Br true _ _); first | ((with_reducible refine br_t ?_))) | ((with_reducible show Br (decide _) _ _); first | ((with_reducible refine br_yes (by assumption) ?_))) | ((with_reducible show Args _ _ _ _ _ _); first | ((with_reducible refine args_cons' ?_)) | ((with_reducible refine args_nil' ?_))) | ((with_reducible show WhileQ _ _ _ _ _ _ _); first | ((with_reducible refine whileq_next ?_))) | ((with_reducible show Kp _ _ ∧ _); first | ((with_reducible refine kp_and kp_blt ?_)) | ((with_reducible refine kp_met (by first | ((k_dflt (assumption)); done) | fail) (by first | ((k_dflt ((with_reducible_and_instances repeat (first | exact List.Mem.head _ | apply List.Mem.tail)))); done) | fail) ?_))) | ((with_reducible show plainV _ = true ∧ _); first | ((with_reducible refine plain_and rfl ?_))) | ((with_reducible show Sto _ _ _ _ _ _ _); first | ((with_reducible refine Sto_local (by first | ((k_dflt (assumption)); done) | fail) (by first | ((k_dflt (assumption)); done) | fail) (by first | ((k_dflt (assumption)); done) | fail) (by first | ((k_dflt ((with_reducible repeat (first | exact Put.here | apply Put.there)))); done) | fail) ?_))) | ((with_reducible show GetM _ _ _ _ _ _ _); first | ((with_reducible refine getm_list (by first | ((k_dflt ((with_reducible_and_instances repeat (first | exact List.Mem.head _ | apply List.Mem.tail)))); done) | fail) PySem.F.slot_list_append PySem.F.type_list_append ?_)) | ((with_reducible refine getm_tk (by first | ((k_dflt (assumption)); done) | fail) (by first | ((k_dflt (assumption)); done) | fail) (by first | ((k_dflt ((with_reducible_and_instances repeat (first | exact List.Mem.head _ | apply List.Mem.tail)))); done) | fail) (by first | ((k_dflt ((with_reducible_and_instances repeat (first | exact List.Mem.head _ | apply List.Mem.tail)))); done) | fail) (by first | ((k_dflt ((with_reducible_and_instances repeat (first | exact List.Mem.head _ | apply List.Mem.tail)))); done) | fail) (by first | ((k_dflt ((repeat (first | with_reducible exact NoEnt.nil | (with_reducible apply NoEnt.cons; (focus decide)))))); done) | fail) ?_))) | ((with_reducible show GetA _ _ _ _ _ _ _); first | ((with_reducible refine geta_tk (by first | ((k_dflt (assumption)); done) | fail) (by first | ((k_dflt (assumption)); done) | fail) (by first | ((k_dflt ((with_reducible_and_instances repeat (first | exact List.Mem.head _ | apply List.Mem.tail)))); done) | fail) (by first | ((k_dflt ((with_reducible_and_instances repeat (first | exact List.Mem.head _ | apply List.Mem.tail)))); done) | fail) (by first | ((k_dflt ((with_reducible_and_instances repeat (first | exact List.Mem.head _ | apply List.Mem.tail)))); done) | fail) (by first | ((k_dflt ((with_reducible repeat (first | exact Ent.here | (apply Ent.there; (focus decide)))))); done) | fail) (by first | ((k_dflt (first | exact rfl | exact handed_ovV _ | assumption)); done) | fail) ?_))) | fail)
          all_goals first
            | (refine' ⟨_, [(Bk, .list _), (T, .inst 133 dT), (dT, .dct _), (S6, .set true sixA), (S8, .set true eigA), (Wd, .list _)], _, LoS.refl, ?gp, _, ?gm, ss, bk ++ [(c0 : Int)], r', i', o', _, _, ⟨Hk', hD', by rw [List.append_assoc]; exact hbr, rfl⟩, rfl, ?ge⟩; (case gp => (with_reducible repeat (first | exact Picks.nil | (apply Picks.cons; (focus (with_reducible repeat (first | exact Pick.head | apply Pick.tail))))))); (case ge => rw [List.map_append]; rfl); (case gm => exact Nat.lt_succ_self _))
        | @hex d _ r' hdx hD' =>
          have hlen2 : ¬ (([92, d].length : Nat) : Int) = 1 := by show ¬ ((2 : Nat) : Int) = 1; decide
          have hd1 : ([92, d] : List Nat)[(1 : Int).toNat]? = some d := rfl
          obtain ⟨i2, o2, H2⟩ := toks_drop Hk' (gwS sixA (wid d) ss).length
          have hw8 := (xuU_ok d hdx).2.2
          have hgz : (gwS sixA (wid d) ss).flatten.length ≤ 1000 := Nat.le_trans (gw_flat fun s hs => hs) (Nat.le_trans (Nat.mul_le_mul_left 2 hw8) (by decide))
          have hgx := gw_bare (ss := ss) (n := wid d) (cs := sixA) fun s hs => hs
          have hkx : [d] ∈ [([120], 2), ([117], 4), (([85] : List Nat), (8 : Int))].map (·.1) ∧ dcF [([120], 2), ([117], 4), ([85], 8)] [d] = .int ((wid d : Nat) : Int) := by
            have h := hdx
            simp only [List.mem_cons, List.not_mem_nil, or_false] at h
            rcases h with rfl | rfl | rfl
            · exact ⟨by decide, rfl⟩
            · exact ⟨by decide, rfl⟩
            · exact ⟨by decide, rfl⟩
          obtain ⟨hkx1, hkx2⟩ := hkx
          repeat' (first | ((with_reducible show Sub2 _ _ _ _ _ _ _ _ _); first | ((refine sub_str_is (by first | ((k_dflt (assumption)); done) | fail) (by first | ((k_dflt (assumption)); done) | fail) (by first | ((k_dflt (first | assumption | exact fmod_lo _ (by decide) | decide)); done) | fail) (by first | ((k_dflt (exact Nat.le_of_ble_eq_true rfl)); done) | fail) ?_))) | ((with_reducible show Op2 _ _ _ _ _ _ _ _); first | ((with_reducible refine in_one ?_))) | ((with_reducible show Cal _ _ _ _ _ _ _); first | ((refine cal_E (by first | ((k_dflt (assumption)); done) | fail) (by first | ((k_dflt ((with_reducible repeat (first | exact Picks.nil | (apply Picks.cons; (focus (with_reducible repeat (first | exact Pick.head | apply Pick.tail)))))))); done) | fail) (get_F (by assumption) (by first | ((k_dflt (first | exact rfl | exact handed_ovV _ | assumption)); done) | fail) (by first | ((k_dflt (assumption)); done) | fail) (by first | ((k_dflt (first | omega | exact Nat.zero_le _)); done) | fail) (by first | ((k_dflt (assumption)); done) | fail)) (by first | ((k_dflt ((with_reducible repeat (first | exact App.nil | apply App.cons)))); done) | fail) (by first | ((k_dflt (((try dsimp only); omega))); done) | fail) (by first | ((k_dflt (first | exact .inl rfl | exact .inr (by assumption))); done) | fail) ?_))) | ((with_reducible show Then _ _ _ _ _ _ _); first | ((with_reducible refine then_next ?_))) | ((with_reducible show W _ FR (execs _ _) _ _ _ _); first | ((with_reducible refine S_cons ?_))) | ((with_reducible show W _ VR (eval (Expr.Name _ _) _) _ _ _ _); first | ((with_reducible refine W_local (by first | ((k_dflt (assumption)); done) | fail) (by first | ((k_dflt (assumption)); done) | fail) (by first | ((k_dflt (assumption)); done) | fail) (by first | ((k_dflt ((with_reducible repeat (first | exact Has.here | apply Has.there)))); done) | fail) ?_)) | ((with_reducible refine W_bltT (by first | ((k_dflt (assumption)); done) | fail) (by first | ((k_dflt (assumption)); done) | fail) (by first | ((k_dflt (assumption)); done) | fail) (by first | ((k_dflt ((with_reducible repeat (first | exact InN.here | apply InN.there)))); done) | fail) (by first | ((k_dflt ((with_reducible_and_instances repeat (first | exact List.Mem.head _ | apply List.Mem.tail)))); done) | fail) ?_))) | ((with_reducible show W _ VR (eval (Expr.Constant Const.none _ _) _) _ _ _ _); first | ((with_reducible refine W_none ?_))) | ((with_reducible show W _ VR (eval (Expr.Constant (Const.int _) _ _) _) _ _ _ _); first | ((with_reducible refine W_int ?_))) | ((with_reducible show W _ VR (eval (Expr.Constant (Const.str _) _ _) _) _ _ _ _); first | ((with_reducible refine W_str lit7 ?_))) | ((with_reducible show W _ VR (eval (Expr.Attribute _ _ _) _) _ _ _ _); first | (refine W_Attr ?_)) | ((with_reducible show W _ VR (eval (Expr.Call (Expr.Attribute _ _ _) _ _ _) _) _ _ _ _); first | (refine W_Method (by assumption) (by rfl) ?_)) | ((with_reducible show W _ VR (eval (Expr.Call _ _ _ _) _) _ _ _ _); first | (refine W_Call (by assumption) (by rfl) ?_)) | ((with_reducible show W _ VR (eval (Expr.Subscript _ _ _) _) _ _ _ _); first | (refine W_Sub ?_)) | ((with_reducible show W _ FR (exec (Stmt.Assign [Expr.Name _ _] _ _) _) _ _ _ _); first | (refine S_Assign ?_)) | ((with_reducible show W _ FR (exec (Stmt.If _ _ _ _) _) _ _ _ _); first | ((with_reducible refine S_If ?_))) | ((with_reducible show W _ BR (isTrue (Expr.Compare _ _ _ _) _ _) _ _ _ _); first | (refine T_Compare ?_)) | ((with_reducible show Op2 _ _ _ _ _ _ _ _); first | ((with_reducible refine eq_ints ?_)) | ((with_reducible refine isnot_str_none' ?_))) | ((with_reducible show Tru _ _ _ _ _ _); first | ((with_reducible refine tru_bool ?_))) | ((with_reducible show Cal _ _ _ _ _ _ _); first | ((with_reducible refine len_str (by first | ((k_dflt ((first | assumption | omega | decide | (simp only [List.length_append, List.length_cons, List.length_nil, List.length_drop, List.length_take, List.length_map]; omega) | (simp only [List.length_append, List.length_cons, List.length_nil, List.length_drop, List.length_take, List.length_map] at *; omega)))); done) | fail) ?_))) | ((with_reducible show Br true _ _); first | ((with_reducible refine br_t ?_))) | ((with_reducible show Br (decide _) _ _); first | ((with_reducible refine br_yes (by assumption) ?_)) | ((with_reducible refine br_no (by assumption) ?_))) | ((with_reducible show Args _ _ _ _ _ _); first | ((with_reducible refine args_cons' ?_)) | ((with_reducible refine args_nil' ?_))) | ((with_reducible show Kp _ _ ∧ _); first | ((with_reducible refine kp_and kp_blt ?_)) | ((with_reducible refine kp_met (by first | ((k_dflt (assumption)); done) | fail) (by first | ((k_dflt ((with_reducible_and_instances repeat (first | exact List.Mem.head _ | apply List.Mem.tail)))); done) | fail) ?_))) | ((with_reducible show Sto _ _ _ _ _ _ _); first | ((with_reducible refine Sto_local (by first | ((k_dflt (assumption)); done) | fail) (by first | ((k_dflt (assumption)); done) | fail) (by first | ((k_dflt (assumption)); done) | fail) (by first | ((k_dflt ((with_reducible repeat (first | exact Put.here | apply Put.there)))); done) | fail) ?_))) | ((with_reducible show GetM _ _ _ _ _ _ _); first | ((with_reducible refine getm_tk (by first | ((k_dflt (assumption)); done) | fail) (by first | ((k_dflt (assumption)); done) | fail) (by first | ((k_dflt ((with_reducible_and_instances repeat (first | exact List.Mem.head _ | apply List.Mem.tail)))); done) | fail) (by first | ((k_dflt ((with_reducible_and_instances repeat (first | exact List.Mem.head _ | apply List.Mem.tail)))); done) | fail) (by first | ((k_dflt ((with_reducible_and_instances repeat (first | exact List.Mem.head _ | apply List.Mem.tail)))); done) | fail) (by first | ((k_dflt ((repeat (first | with_reducible exact NoEnt.nil | (with_reducible apply NoEnt.cons; (focus decide)))))); done) | fail) ?_))) | ((with_reducible show GetA _ _ _ _ _ _ _); first | ((with_reducible refine geta_tk (by first | ((k_dflt (assumption)); done) | fail) (by first | ((k_dflt (assumption)); done) | fail) (by first | ((k_dflt ((with_reducible_and_instances repeat (first | exact List.Mem.head _ | apply List.Mem.tail)))); done) | fail) (by first | ((k_dflt ((with_reducible_and_instances repeat (first | exact List.Mem.head _ | apply List.Mem.tail)))); done) | fail) (by first | ((k_dflt ((with_reducible_and_instances repeat (first | exact List.Mem.head _ | apply List.Mem.tail)))); done) | fail) (by first | ((k_dflt ((with_reducible repeat (first | exact Ent.here | (apply Ent.there; (focus decide)))))); done) | fail) (by first | ((k_dflt (first | exact rfl | exact handed_ovV _ | assumption)); done) | fail) ?_))) | fail)
          refine W_DictC (r := [([120], 2), ([117], 4), ([85], 8)]) ok (.cons lit13 (.cons lit14 (.cons lit15 .nil))) (List.cons_ne_nil _ _) (Nat.le_of_ble_eq_true rfl) (by decide) ?_
          intro Dd
          repeat' (first | ((with_reducible show Sub2 _ _ _ _ _ _ _ _ _); first | ((refine sub_str_is (by first | ((k_dflt (assumption)); done) | fail) (by first | ((k_dflt (assumption)); done) | fail) (by first | ((k_dflt (first | assumption | exact fmod_lo _ (by decide) | decide)); done) | fail) (by first | ((k_dflt (exact Nat.le_of_ble_eq_true rfl)); done) | fail) ?_)) | ((refine sub_fdE (by first | ((k_dflt ((with_reducible_and_instances repeat (first | exact List.Mem.head _ | apply List.Mem.tail)))); done) | fail) (by first | ((k_dflt (assumption)); done) | fail) (by first | ((k_dflt (assumption)); done) | fail) ?_))) | ((with_reducible show Cal _ _ _ _ _ _ _); first | ((refine cal_E (by first | ((k_dflt (assumption)); done) | fail) (by first | ((k_dflt ((with_reducible repeat (first | exact Picks.nil | (apply Picks.cons; (focus (with_reducible repeat (first | exact Pick.head | apply Pick.tail)))))))); done) | fail) (gw_F (by assumption) (by first | ((k_dflt (assumption)); done) | fail) (by first | ((k_dflt (first | assumption | exact rfl)); done) | fail) (by first | ((k_dflt (assumption)); done) | fail) (by first | ((k_dflt (assumption)); done) | fail) (by first | ((k_dflt (assumption)); done) | fail) (by first | ((k_dflt (assumption)); done) | fail)) (by first | ((k_dflt ((with_reducible repeat (first | exact App.nil | apply App.cons)))); done) | fail) (by first | ((k_dflt (((try dsimp only); omega))); done) | fail) (by first | ((k_dflt (first | exact .inl rfl | exact .inr (by assumption))); done) | fail) ?_)) | ((refine cal_E (by first | ((k_dflt (assumption)); done) | fail) (by first | ((k_dflt ((with_reducible repeat (first | exact Picks.nil | (apply Picks.cons; (focus (with_reducible repeat (first | exact Pick.head | apply Pick.tail)))))))); done) | fail) (wor_F (by assumption) (by first | ((k_dflt (first | assumption | exact rfl)); done) | fail) (by first | ((k_dflt (first | assumption | exact rfl)); done) | fail) (by first | ((k_dflt (decide)); done) | fail) (by first | ((k_dflt (assumption)); done) | fail) (by first | ((k_dflt (assumption)); done) | fail)) (by first | ((k_dflt ((with_reducible repeat (first | exact App.nil | apply App.cons)))); done) | fail) (by first | ((k_dflt (((try dsimp only); omega))); done) | fail) (by first | ((k_dflt (first | exact .inl rfl | exact .inr (by assumption))); done) | fail) ?_))) | ((with_reducible show Then _ _ _ _ _ _ _); first | ((with_reducible refine then_next ?_))) | ((with_reducible show W _ FR (execs _ _) _ _ _ _); first | ((with_reducible refine S_cons ?_)) | ((with_reducible refine S_nil ?_))) | ((with_reducible show W _ VR (eval (Expr.Name _ _) _) _ _ _ _); first | ((with_reducible refine W_local (by first | ((k_dflt (assumption)); done) | fail) (by first | ((k_dflt (assumption)); done) | fail) (by first | ((k_dflt (assumption)); done) | fail) (by first | ((k_dflt ((with_reducible repeat (first | exact Has.here | apply Has.there)))); done) | fail) ?_)) | ((with_reducible refine W_globT (by first | ((k_dflt (assumption)); done) | fail) (by first | ((k_dflt (assumption)); done) | fail) (by first | ((k_dflt (assumption)); done) | fail) (by first | ((k_dflt ((with_reducible repeat (first | exact InN.here | apply InN.there)))); done) | fail) (by first | ((k_dflt ((with_reducible_and_instances repeat (first | exact List.Mem.head _ | apply List.Mem.tail)))); done) | fail) ?_))) | ((with_reducible show W _ VR (eval (Expr.Constant (Const.int _) _ _) _) _ _ _ _); first | ((with_reducible refine W_int ?_))) | ((with_reducible show W _ VR (eval (Expr.Call (Expr.Attribute _ _ _) _ _ _) _) _ _ _ _); first | (refine W_Method (by assumption) (by rfl) ?_)) | ((with_reducible show W _ VR (eval (Expr.Call _ _ _ _) _) _ _ _ _); first | (refine W_Call (by assumption) (by rfl) ?_)) | ((with_reducible show W _ VR (eval (Expr.Subscript _ _ _) _) _ _ _ _); first | (refine W_Sub ?_)) | ((with_reducible show W _ FR (exec (Stmt.Expr _ _) _) _ _ _ _); first | (refine S_ExprV ?_ (inter (by assumption)))) | ((with_reducible show Cal _ _ _ _ _ _ _); first | ((with_reducible refine cal_app ?_)) | ((with_reducible refine append_list (by first | ((k_dflt ((with_reducible repeat (first | exact OUpd.head | apply OUpd.tail)))); done) | fail) (by first | ((k_dflt ((first | assumption | omega | decide | (simp only [List.length_append, List.length_cons, List.length_nil, List.length_drop, List.length_take, List.length_map]; omega) | (simp only [List.length_append, List.length_cons, List.length_nil, List.length_drop, List.length_take, List.length_map] at *; omega)))); done) | fail) ?_))) | ((with_reducible show Args _ _ _ _ _ _); first | ((with_reducible refine args_cons' ?_)) | ((with_reducible refine args_nil' ?_))) | ((with_reducible show WhileQ _ _ _ _ _ _ _); first | ((with_reducible refine whileq_next ?_))) | ((with_reducible show Kp _ _ ∧ _); first | ((with_reducible refine kp_and kp_blt ?_)) | ((with_reducible refine kp_met (by first | ((k_dflt (assumption)); done) | fail) (by first | ((k_dflt ((with_reducible_and_instances repeat (first | exact List.Mem.head _ | apply List.Mem.tail)))); done) | fail) ?_)) | ((with_reducible refine kp_fun (by first | ((k_dflt (assumption)); done) | fail) (by first | ((k_dflt ((with_reducible_and_instances repeat (first | exact List.Mem.head _ | apply List.Mem.tail)))); done) | fail) ?_))) | ((with_reducible show plainV _ = true ∧ _); first | ((with_reducible refine plain_and rfl ?_))) | ((with_reducible show Sto _ _ _ _ _ _ _); first | ((with_reducible refine Sto_local (by first | ((k_dflt (assumption)); done) | fail) (by first | ((k_dflt (assumption)); done) | fail) (by first | ((k_dflt (assumption)); done) | fail) (by first | ((k_dflt ((with_reducible repeat (first | exact Put.here | apply Put.there)))); done) | fail) ?_))) | ((with_reducible show GetM _ _ _ _ _ _ _); first | ((with_reducible refine getm_list (by first | ((k_dflt ((with_reducible_and_instances repeat (first | exact List.Mem.head _ | apply List.Mem.tail)))); done) | fail) PySem.F.slot_list_append PySem.F.type_list_append ?_)) | ((with_reducible refine getm_tk (by first | ((k_dflt (assumption)); done) | fail) (by first | ((k_dflt (assumption)); done) | fail) (by first | ((k_dflt ((with_reducible_and_instances repeat (first | exact List.Mem.head _ | apply List.Mem.tail)))); done) | fail) (by first | ((k_dflt ((with_reducible_and_instances repeat (first | exact List.Mem.head _ | apply List.Mem.tail)))); done) | fail) (by first | ((k_dflt ((with_reducible_and_instances repeat (first | exact List.Mem.head _ | apply List.Mem.tail)))); done) | fail) (by first | ((k_dflt ((repeat (first | with_reducible exact NoEnt.nil | (with_reducible apply NoEnt.cons; (focus decide)))))); done) | fail) ?_))) | fail)
          all_goals first
            | (refine' ⟨_, [(Bk, .list _), (T, .inst 133 dT), (dT, .dct _), (S6, .set true sixA), (S8, .set true eigA), (Wd, .list _)], _, LoS.refl, ?gp, _, ?gm, ss.drop (gwS sixA (wid d) ss).length, bk ++ [worL (gwS sixA (wid d) ss).flatten 16 (wid d)], r', i2, o2, _, _, ⟨H2, hD', by rw [List.append_assoc]; exact hbr, rfl⟩, rfl, ?ge⟩; (case gp => (with_reducible repeat (first | exact Picks.nil | (apply Picks.cons; (focus (with_reducible repeat (first | exact Pick.head | apply Pick.tail))))))); (case ge => rw [List.map_append]; rfl); (case gm => rw [List.length_drop]; exact Nat.lt_succ_of_le (Nat.sub_le _ _)))
        | @oct d _ r' hdx hD' =>
          have hlen2 : ¬ (([92, d].length : Nat) : Int) = 1 := by show ¬ ((2 : Nat) : Int) = 1; decide
          have hd1 : ([92, d] : List Nat)[(1 : Int).toNat]? = some d := rfl
          have hnx := (hex_ok d hdx).2.2
          obtain ⟨i2, o2, H2⟩ := toks_drop Hk' (gwS eigA 2 ss).length
          have hw8 : (2 : Nat) ≤ 8 := by decide
          have hgz0 : (gwS eigA 2 ss).flatten.length ≤ 4 := gw_flat eig_six
          have hgz : ([d] ++ (gwS eigA 2 ss).flatten).length ≤ 1000 := by rw [List.length_append]; exact Nat.le_trans (Nat.add_le_add_left hgz0 1) (by decide)
          have hgx : ∀ k ∈ bare ([d] ++ (gwS eigA 2 ss).flatten), k ∈ hexA := by
            intro k hk
            have h := gw_bare (ss := ss) (n := 2) eig_six
            obtain ⟨h1, h2⟩ := List.mem_filter.mp hk
            rcases List.mem_append.mp h1 with h3 | h3
            · rw [List.mem_singleton.mp h3]; exact hdx
            · exact h k (List.mem_filter.mpr ⟨h3, h2⟩)
          repeat' (first | ((with_reducible show Sub2 _ _ _ _ _ _ _ _ _); first | ((refine sub_str_is (by first | ((k_dflt (assumption)); done) | fail) (by first | ((k_dflt (assumption)); done) | fail) (by first | ((k_dflt (first | assumption | exact fmod_lo _ (by decide) | decide)); done) | fail) (by first | ((k_dflt (exact Nat.le_of_ble_eq_true rfl)); done) | fail) ?_))) | ((with_reducible show Op2 _ _ _ _ _ _ _ _); first | ((with_reducible refine in_one ?_))) | ((with_reducible show Cal _ _ _ _ _ _ _); first | ((refine cal_E (by first | ((k_dflt (assumption)); done) | fail) (by first | ((k_dflt ((with_reducible repeat (first | exact Picks.nil | (apply Picks.cons; (focus (with_reducible repeat (first | exact Pick.head | apply Pick.tail)))))))); done) | fail) (gw_F (by assumption) (by first | ((k_dflt (assumption)); done) | fail) (by first | ((k_dflt (first | assumption | exact rfl)); done) | fail) (by first | ((k_dflt (assumption)); done) | fail) (by first | ((k_dflt (assumption)); done) | fail) (by first | ((k_dflt (assumption)); done) | fail) (by first | ((k_dflt (assumption)); done) | fail)) (by first | ((k_dflt ((with_reducible repeat (first | exact App.nil | apply App.cons)))); done) | fail) (by first | ((k_dflt (((try dsimp only); omega))); done) | fail) (by first | ((k_dflt (first | exact .inl rfl | exact .inr (by assumption))); done) | fail) ?_)) | ((refine cal_E (by first | ((k_dflt (assumption)); done) | fail) (by first | ((k_dflt ((with_reducible repeat (first | exact Picks.nil | (apply Picks.cons; (focus (with_reducible repeat (first | exact Pick.head | apply Pick.tail)))))))); done) | fail) (wor_F (by assumption) (by first | ((k_dflt (first | assumption | exact rfl)); done) | fail) (by first | ((k_dflt (first | assumption | exact rfl)); done) | fail) (by first | ((k_dflt (decide)); done) | fail) (by first | ((k_dflt (assumption)); done) | fail) (by first | ((k_dflt (assumption)); done) | fail)) (by first | ((k_dflt ((with_reducible repeat (first | exact App.nil | apply App.cons)))); done) | fail) (by first | ((k_dflt (((try dsimp only); omega))); done) | fail) (by first | ((k_dflt (first | exact .inl rfl | exact .inr (by assumption))); done) | fail) ?_))) | ((with_reducible show Cal _ _ _ _ _ _ _); first | ((refine cal_E (by first | ((k_dflt (assumption)); done) | fail) (by first | ((k_dflt ((with_reducible repeat (first | exact Picks.nil | (apply Picks.cons; (focus (with_reducible repeat (first | exact Pick.head | apply Pick.tail)))))))); done) | fail) (get_F (by assumption) (by first | ((k_dflt (first | exact rfl | exact handed_ovV _ | assumption)); done) | fail) (by first | ((k_dflt (assumption)); done) | fail) (by first | ((k_dflt (first | omega | exact Nat.zero_le _)); done) | fail) (by first | ((k_dflt (assumption)); done) | fail)) (by first | ((k_dflt ((with_reducible repeat (first | exact App.nil | apply App.cons)))); done) | fail) (by first | ((k_dflt (((try dsimp only); omega))); done) | fail) (by first | ((k_dflt (first | exact .inl rfl | exact .inr (by assumption))); done) | fail) ?_))) | ((with_reducible show Then _ _ _ _ _ _ _); first | ((with_reducible refine then_next ?_))) | ((with_reducible show W _ FR (execs _ _) _ _ _ _); first | ((with_reducible refine S_cons ?_)) | ((with_reducible refine S_nil ?_))) | ((with_reducible show W _ VR (eval (Expr.Name _ _) _) _ _ _ _); first | ((with_reducible refine W_local (by first | ((k_dflt (assumption)); done) | fail) (by first | ((k_dflt (assumption)); done) | fail) (by first | ((k_dflt (assumption)); done) | fail) (by first | ((k_dflt ((with_reducible repeat (first | exact Has.here | apply Has.there)))); done) | fail) ?_)) | ((with_reducible refine W_globT (by first | ((k_dflt (assumption)); done) | fail) (by first | ((k_dflt (assumption)); done) | fail) (by first | ((k_dflt (assumption)); done) | fail) (by first | ((k_dflt ((with_reducible repeat (first | exact InN.here | apply InN.there)))); done) | fail) (by first | ((k_dflt ((with_reducible_and_instances repeat (first | exact List.Mem.head _ | apply List.Mem.tail)))); done) | fail) ?_)) | ((with_reducible refine W_bltT (by first | ((k_dflt (assumption)); done) | fail) (by first | ((k_dflt (assumption)); done) | fail) (by first | ((k_dflt (assumption)); done) | fail) (by first | ((k_dflt ((with_reducible repeat (first | exact InN.here | apply InN.there)))); done) | fail) (by first | ((k_dflt ((with_reducible_and_instances repeat (first | exact List.Mem.head _ | apply List.Mem.tail)))); done) | fail) ?_))) | ((with_reducible show W _ VR (eval (Expr.Constant Const.none _ _) _) _ _ _ _); first | ((with_reducible refine W_none ?_))) | ((with_reducible show W _ VR (eval (Expr.Constant (Const.int _) _ _) _) _ _ _ _); first | ((with_reducible refine W_int ?_))) | ((with_reducible show W _ VR (eval (Expr.Constant (Const.str _) _ _) _) _ _ _ _); first | ((with_reducible refine W_str lit7 ?_))) | ((with_reducible show W _ VR (eval (Expr.Attribute _ _ _) _) _ _ _ _); first | (refine W_Attr ?_)) | ((with_reducible show W _ VR (eval (Expr.Call (Expr.Attribute _ _ _) _ _ _) _) _ _ _ _); first | (refine W_Method (by assumption) (by rfl) ?_)) | ((with_reducible show W _ VR (eval (Expr.Call _ _ _ _) _) _ _ _ _); first | (refine W_Call (by assumption) (by rfl) ?_)) | ((with_reducible show W _ VR (eval (Expr.BinOp _ _ _ _) _) _ _ _ _); first | ((with_reducible refine W_BinOp ?_))) | ((with_reducible show W _ VR (eval (Expr.Subscript _ _ _) _) _ _ _ _); first | (refine W_Sub ?_)) | ((with_reducible show W _ FR (exec (Stmt.Assign [Expr.Name _ _] _ _) _) _ _ _ _); first | (refine S_Assign ?_)) | ((with_reducible show W _ FR (exec (Stmt.If _ _ _ _) _) _ _ _ _); first | ((with_reducible refine S_If ?_))) | ((with_reducible show W _ FR (exec (Stmt.Expr _ _) _) _ _ _ _); first | (refine S_ExprV ?_ (inter (by assumption)))) | ((with_reducible show W _ BR (isTrue (Expr.Compare _ _ _ _) _ _) _ _ _ _); first | (refine T_Compare ?_)) | ((with_reducible show Op2 _ _ _ _ _ _ _ _); first | ((with_reducible refine eq_ints ?_)) | ((with_reducible refine isnot_str_none' ?_)) | ((with_reducible refine add_strs (by first | ((k_dflt ((first | assumption | omega | decide | (simp only [List.length_append, List.length_cons, List.length_nil, List.length_drop, List.length_take, List.length_map]; omega) | (simp only [List.length_append, List.length_cons, List.length_nil, List.length_drop, List.length_take, List.length_map] at *; omega)))); done) | fail) ?_))) | ((with_reducible show Tru _ _ _ _ _ _); first | ((with_reducible refine tru_bool ?_))) | ((with_reducible show Cal _ _ _ _ _ _ _); first | ((with_reducible refine cal_app ?_)) | ((with_reducible refine len_str (by first | ((k_dflt ((first | assumption | omega | decide | (simp only [List.length_append, List.length_cons, List.length_nil, List.length_drop, List.length_take, List.length_map]; omega) | (simp only [List.length_append, List.length_cons, List.length_nil, List.length_drop, List.length_take, List.length_map] at *; omega)))); done) | fail) ?_)) | ((with_reducible refine append_list (by first | ((k_dflt ((with_reducible repeat (first | exact OUpd.head | apply OUpd.tail)))); done) | fail) (by first | ((k_dflt ((first | assumption | omega | decide | (simp only [List.length_append, List.length_cons, List.length_nil, List.length_drop, List.length_take, List.length_map]; omega) | (simp only [List.length_append, List.length_cons, List.length_nil, List.length_drop, List.length_take, List.length_map] at *; omega)))); done) | fail) ?_))) | ((with_reducible show Br true _ _); first | ((with_reducible refine br_t ?_))) | ((with_reducible show Br (decide _) _ _); first | ((with_reducible refine br_no (by assumption) ?_))) | ((with_reducible show Args _ _ _ _ _ _); first | ((with_reducible refine args_cons' ?_)) | ((with_reducible refine args_nil' ?_))) | ((with_reducible show WhileQ _ _ _ _ _ _ _); first | ((with_reducible refine whileq_next ?_))) | ((with_reducible show Kp _ _ ∧ _); first | ((with_reducible refine kp_and kp_blt ?_)) | ((with_reducible refine kp_met (by first | ((k_dflt (assumption)); done) | fail) (by first | ((k_dflt ((with_reducible_and_instances repeat (first | exact List.Mem.head _ | apply List.Mem.tail)))); done) | fail) ?_)) | ((with_reducible refine kp_fun (by first | ((k_dflt (assumption)); done) | fail) (by first | ((k_dflt ((with_reducible_and_instances repeat (first | exact List.Mem.head _ | apply List.Mem.tail)))); done) | fail) ?_))) | ((with_reducible show plainV _ = true ∧ _); first | ((with_reducible refine plain_and rfl ?_))) | ((with_reducible show Sto _ _ _ _ _ _ _); first | ((with_reducible refine Sto_local (by first | ((k_dflt (assumption)); done) | fail) (by first | ((k_dflt (assumption)); done) | fail) (by first | ((k_dflt (assumption)); done) | fail) (by first | ((k_dflt ((with_reducible repeat (first | exact Put.here | apply Put.there)))); done) | fail) ?_))) | ((with_reducible show GetM _ _ _ _ _ _ _); first | ((with_reducible refine getm_list (by first | ((k_dflt ((with_reducible_and_instances repeat (first | exact List.Mem.head _ | apply List.Mem.tail)))); done) | fail) PySem.F.slot_list_append PySem.F.type_list_append ?_)) | ((with_reducible refine getm_tk (by first | ((k_dflt (assumption)); done) | fail) (by first | ((k_dflt (assumption)); done) | fail) (by first | ((k_dflt ((with_reducible_and_instances repeat (first | exact List.Mem.head _ | apply List.Mem.tail)))); done) | fail) (by first | ((k_dflt ((with_reducible_and_instances repeat (first | exact List.Mem.head _ | apply List.Mem.tail)))); done) | fail) (by first | ((k_dflt ((with_reducible_and_instances repeat (first | exact List.Mem.head _ | apply List.Mem.tail)))); done) | fail) (by first | ((k_dflt ((repeat (first | with_reducible exact NoEnt.nil | (with_reducible apply NoEnt.cons; (focus decide)))))); done) | fail) ?_))) | ((with_reducible show GetA _ _ _ _ _ _ _); first | ((with_reducible refine geta_tk (by first | ((k_dflt (assumption)); done) | fail) (by first | ((k_dflt (assumption)); done) | fail) (by first | ((k_dflt ((with_reducible_and_instances repeat (first | exact List.Mem.head _ | apply List.Mem.tail)))); done) | fail) (by first | ((k_dflt ((with_reducible_and_instances repeat (first | exact List.Mem.head _ | apply List.Mem.tail)))); done) | fail) (by first | ((k_dflt ((with_reducible_and_instances repeat (first | exact List.Mem.head _ | apply List.Mem.tail)))); done) | fail) (by first | ((k_dflt ((with_reducible repeat (first | exact Ent.here | (apply Ent.there; (focus decide)))))); done) | fail) (by first | ((k_dflt (first | exact rfl | exact handed_ovV _ | assumption)); done) | fail) ?_))) | fail)
          all_goals first
            | (refine' ⟨_, [(Bk, .list _), (T, .inst 133 dT), (dT, .dct _), (S6, .set true sixA), (S8, .set true eigA), (Wd, .list _)], _, LoS.refl, ?gp, _, ?gm, ss.drop (gwS eigA 2 ss).length, bk ++ [worL ([d] ++ (gwS eigA 2 ss).flatten) 8 3], r', i2, o2, _, _, ⟨H2, hD', by rw [List.append_assoc]; exact hbr, rfl⟩, rfl, ?ge⟩; (case gp => (with_reducible repeat (first | exact Picks.nil | (apply Picks.cons; (focus (with_reducible repeat (first | exact Pick.head | apply Pick.tail))))))); (case ge => rw [List.map_append]; rfl); (case gm => rw [List.length_drop]; exact Nat.lt_succ_of_le (Nat.sub_le _ _)))
end Mine
end
theorem PySem.Challenge.cw_kq0017_05_holds : PySem.Challenge.rw_kq0017_05.Holds := by
  exact Mine.foo
