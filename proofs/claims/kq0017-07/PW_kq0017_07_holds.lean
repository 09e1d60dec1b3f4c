import PyProof.Rows.All
import PyProof.RaisesAny
import PyProof.AssignAttr
import PyProof.AutoIntG3
import PyProof.ForAny
import PyProof.MeetsStr2
import PyProof.CallStr
import PyProof.Cells
import PyProof.Draws
import PyProof.EnumMake
import PyProof.EqKinds
import PyProof.NeKinds
import PyProof.ExcArgs
import PyProof.ExcBaseAll.Exception
import PyProof.ExcAttrAll.Exception
import PyProof.ExcInit
import PyProof.StationsW
import PyProof.ReprUnder
import PyProof.ExcStrAll.Exception
import PyProof.ExcStrCall
import PyProof.StrLawsIn
import PyProof.WalksU
import PyProof.InstStoreFacts
import PyProof.ListMulRight
import PyProof.RulesAs
import PyProof.NsDelKeeps
import PyProof.Rows.TupIter
import PyProof.Rows.CellsFrame
import PyProof.ZipIter
import PyProof.WalksPairs
import PyProof.Rows.StrNews2
import PyProof.Rows.RuleB_floordiv
import PyProof.Rows.StrMul
import PyProof.Rows.RuleIs2
import PyProof.StrLawsLast
import PyProof.Rows.StrStrike
import PyProof.Rows.MaxTwoN
import PyProof.Rows.MinMaxN
import PyProof.Rows.Range3
import PyProof.Rows.SetFrom
import Wide.BytesFacts
import Wide.BytesRules
import Wide.More
import KE.KxBytes
import KE.BytesMake
import KE.KItem
import KE.LcSums
import KE.KBytesAny
import KE.KBytesCut
import KE.LcTurns
import KE.KLcFree
import KE.KState
import KE.KDictAny
import KE.KDictNew
import KE.KIsBytes
import KE.KSliceW
import KE.KSuper
import KE.KTryMore
import KE.KxDecode
import KE.KxPercentT
import KE.RegKTryMore
import Wide.FinOn
import OpenK.AllK
import Wide.All
import Lean
import PySem.Challenge.RW_kq0017_07
set_option genSizeOf false
set_option compiler.extract_closed false
set_option linter.all false
section
open PySem PySem.W PyProof.Rows
set_option Elab.async false
set_option maxRecDepth 100000
set_option maxHeartbeats 8000000
namespace Mine
theorem frK {A B C : Prop} (_ : A) (_ : B) (_ : C) {R : Prop} (h : R) : R := h
theorem fr.tw1016671252738018014 : True := trivial
theorem fr.tw4767807355081175557 : True := trivial
set_option Elab.async true in
theorem fr (h : False) : PySem.Challenge.rw_kq0017_07.Holds := by
  refine' frK ?hl ?hw ?hc ?main
  case main =>
    w_on
    o_law
    k_head
  all_goals exact h.elim
end Mine
end
open PySem PySem.W PySem.Calls PySem.Spec PyProof.Rows
set_option Elab.async false
set_option maxRecDepth 100000
section
namespace Mine
theorem of_gen {P : Prop} (h : ∀ G : Prop, (P → G) → G) : P := h P id

structure Fram (l : List Env) (frs0 frs : List (Addr × Obj)) : Prop where
  fs : TI.Frs l frs
  su : TI.SameUp frs0 frs
theorem Fram.up {l : List Env} {a b c : List (Addr × Obj)} (x : Fram l a b) (y : TI.SameUp b c) : Fram l a c := ⟨TI.Frs.up x.fs y, TI.SameUp.trans x.su y⟩
theorem sameUp_addrs : ∀ {a b : List (Addr × Obj)}, TI.SameUp a b → b.map (·.1) = a.map (·.1)
  | [], [], _ => rfl
  | [], _ :: _, h => h.elim
  | _ :: _, [], h => h.elim
  | p :: a, q :: b, h => by
    obtain ⟨h1, _, h3⟩ := h
    simp only [List.map_cons, h1, sameUp_addrs h3]

noncomputable abbrev Apt (as : List Addr) (frs : List (Addr × Obj)) : Prop := ∀ a ∈ as, a ∉ frs.map (·.1)
section
variable {prog : Program} {w : World} {A : Around} {s : Shared} {hb : Heap} {L : Addr} {m : Str → Option Value} {K : Frag} {p : Program} {loose : List Str} {mean : ExcName → Option Value} {mg mb : Str → Option Value}
  {env : Env} {outer : List Env} {σ frs : List (Addr × Obj)} {R : Result → Shared → Prop}
  {name qual : Str} {params : Arguments} {body : List Stmt} {scope : Scope} {dV kV doc pm cdv ct oc : Value} {an od : Option Addr} {osl : Array (Option Value)} {f : Addr} {args : Args} {binds : List (Str × Value)}

end
section
variable {prog : Program} {w : World} {A₀ : Around} {s' : Shared} {hb h : Heap} {L a e : Addr} {m : Str → Option Value} {name : Str} {scope : Scope} {cd : Value} {l : List Env} {frs0 frs new led : List (Addr × Obj)} {X : String} {Q : Unit → Shared → Prop} {E : Value → Shared → Prop}
end

noncomputable def tx (l : List Nat) : Str := ⟨l.toArray⟩
theorem tx_length (l : List Nat) : (tx l).length = l.length := by simp [tx, Str.length]
theorem tx_append (a b : List Nat) : tx a ++ tx b = tx (a ++ b) := by
  show Str.append (tx a) (tx b) = _
  simp [tx, Str.append]
theorem tx_inj {a b : List Nat} : tx a = tx b ↔ a = b := by
  constructor
  · intro h
    have := congrArg (fun z : Str => z.cps.toList) h
    simpa [tx] using this
  · intro h; rw [h]
theorem tx_beq (a b : List Nat) : (tx a == tx b) = decide (a = b) := by
  by_cases h : a = b
  · subst h; simp
  · rw [decide_eq_false h]
    exact beq_eq_false_iff_ne.mpr fun e => h (tx_inj.mp e)
theorem tx_get (l : List Nat) (i : Nat) : (tx l).cps[i]? = l[i]? := by simp [tx]

section
variable {prog : Program} {w : World} {A : Around} {E : Value → Shared → Prop} {s : Shared} {t u : Tok}
theorem str_item_T {value slice : Expr} {l : List Nat} {i : Int} {Q : Value → Shared → Prop} (hh : A.handled = none) (h0 : 0 ≤ i) (h63 : i < 9223372036854775808)
    (hin : ∀ c, l[i.toNat]? = some c → Q (.str (tx [c]) s.toks) { s with toks := s.toks + 1 })
    (hout : l[i.toNat]? = none → ∀ h' tk e, Heap.NewExc s.heap h' e "IndexError" → E (.ref e) { s with heap := h', toks := tk })
    (hs : subscripted slice false (.str (tx l) t) (.int i u) = operate [.str (tx l) t, .int i u] (getItem (.str (tx l) t) (.int i u)) := by with_unfolding_all rfl) :
    wpAny (model prog w) A (subscriptTail value slice (.str (tx l) t) (.int i u)) Q E s := by
  have hr : (decide (i < -(2 ^ 63 : Int)) || decide (i ≥ 2 ^ 63)) = false := by
    rw [Bool.or_eq_false_iff]
    exact ⟨decide_eq_false (by lia), decide_eq_false (by lia)⟩
  refine tail_any (typeIs_str s (tx l) t) F.slot_str_getitem.lookup ?_ hs
  cases hc : l[i.toNat]? with
  | some c =>
    have hlt : i.toNat < l.length := (List.getElem?_eq_some_iff.mp hc).1
    refine P.getItem_str hr (c := c) ?_ (hin c hc)
    have : seqIndex? i (tx l).length = some i.toNat := by
      rw [tx_length]
      unfold seqIndex?
      simp only [ge_iff_le]
      split <;> rename_i h1
      · lia
      · simp <;> lia
    rw [this]
    exact (tx_get l _).trans hc
  | none =>
    have hge : l.length ≤ i.toNat := List.getElem?_eq_none_iff.mp hc
    refine wpAny_getItem_slot (typeIs_str s (tx l) t) (by decide) F.slot_str_getitem ?_
    refine wpAny_call_entry F.slot_str_getitem (typeIs_str s (tx l) t) F.entry_str_getitem ?_ (F.args_str_getitem_2 _ _)
    have e : (seqIndex? i (tx l).length).bind ((tx l).cps[·]?) = none := by
      cases q : seqIndex? i (tx l).length with
      | none => rfl
      | some j =>
        rw [tx_length] at q
        unfold seqIndex? at q
        simp only [ge_iff_le] at q
        split at q <;> simp at q <;> lia
    show wpAny _ _ (if (decide (i < -(2 ^ 63 : Int)) || decide (i ≥ 2 ^ 63)) = true then _ else
          match (seqIndex? i (tx l).length).bind ((tx l).cps[·]?) with
          | some c => retStr ⟨#[c]⟩
          | none => (do rule "str.__getitem__.out-of-range"; raiseError "IndexError" "string index out of range")) _ _ _
    rw [hr, e]
    exact wpAny_bind (wpAny_rule (raiseErrorWords_exc excClass_IndexError hh (hout hc)))
end

section
variable {prog : Program} {w : World} {A : Around} {E : Value → Shared → Prop} {s : Shared} {t u : Tok}
theorem tx_iadd {a b : List Nat} {Q : Value → Shared → Prop} (hsz : a.length + b.length ≤ sizeLine) (h : ∀ t' k, Q (.str (tx (a ++ b)) t') { s with toks := k }) :
    wpAny (model prog w) A (inplaceOp .Add (.str (tx a) t) (.str (tx b) u)) Q E s :=
  SB.iadd (fun t' k => by rw [tx_append]; exact h t' k) (by rw [tx_length, tx_length]; exact hsz)
theorem tx_add {a b : List Nat} {Q : Value → Shared → Prop} (hsz : a.length + b.length ≤ sizeLine) (h : ∀ t' k, Q (.str (tx (a ++ b)) t') { s with toks := k }) :
    wpAny (model prog w) A (binaryOp .Add (.str (tx a) t) (.str (tx b) u)) Q E s :=
  SB.add (fun t' k => by rw [tx_append]; exact h t' k) (by rw [tx_length, tx_length]; exact hsz)
end

section
variable {prog : Program} {w : World} {A₀ : Around} {E : Value → Shared → Prop} {s' : Shared} {hb : Heap} {L a e : Addr} {m : Str → Option Value} {name : Str} {scope : Scope} {cd : Value} {K : Frag}
  {x : Str} {b₀ : Stmt} {suite : List Stmt} {pos np : Pos} {rest : List ExceptHandler} {Q : Flow → Shared → Prop} {news : List (Addr × Obj)} {X T' : String} {p : Program} {loose : List Str} {mean : ExcName → Option Value} {mg mb : Str → Option Value}
end

noncomputable def nxt (l : List Nat) (i : Nat) : Option (Nat × Option (List Nat)) := match l[i]? with
  | none => some (i, none)
  | some c => if c = 92 then (match l[i + 1]? with | none => none | some d => some (i + 2, some [c, d])) else some (i + 1, some [c])
theorem bs_tx : Str.ofString "\\" = tx [92] := by decide +kernel
theorem bs_beq (c : Nat) : (tx [c] == Str.ofString "\\") = decide (c = 92) := by
  rw [bs_tx, tx_beq]
  by_cases h : c = 92 <;> simp [h]
theorem nxt_end {l : List Nat} {i : Nat} (h : l[((i : Nat) : Int).toNat]? = none) : nxt l i = some (i, none) := by
  rw [Int.toNat_natCast] at h
  simp [nxt, h]
theorem nxt_one {l : List Nat} {i c : Nat} (h : l[((i : Nat) : Int).toNat]? = some c) (hc : (tx [c] == Str.ofString "\\") = false) : nxt l i = some (i + 1, some [c]) := by
  rw [Int.toNat_natCast] at h
  rw [bs_beq] at hc
  simp [nxt, h, of_decide_eq_false hc]
theorem nxt_two {l : List Nat} {i c d : Nat} (h : l[((i : Nat) : Int).toNat]? = some c) (hc : (tx [c] == Str.ofString "\\") = true) (h2 : l[((i : Nat) + 1 : Int).toNat]? = some d) : nxt l i = some (i + 2, some ([c] ++ [d])) := by
  rw [Int.toNat_natCast] at h
  rw [bs_beq] at hc
  have e : ((i : Nat) + 1 : Int).toNat = i + 1 := by lia
  rw [e] at h2
  have hc' := of_decide_eq_true hc
  subst hc'
  simp [nxt, h, h2]
theorem nxt_bad {l : List Nat} {i c : Nat} (h : l[((i : Nat) : Int).toNat]? = some c) (hc : (tx [c] == Str.ofString "\\") = true) (h2 : l[((i : Nat) + 1 : Int).toNat]? = none) : nxt l i = none := by
  rw [Int.toNat_natCast] at h
  rw [bs_beq] at hc
  have e : ((i : Nat) + 1 : Int).toNat = i + 1 := by lia
  rw [e] at h2
  have hc' := of_decide_eq_true hc
  subst hc'
  simp [nxt, h, h2]
theorem some_pair {α β : Type} {x : Option (α × β)} {a a' : α} {b b' : β} (h : x = some (a, b)) (h' : x = some (a', b')) : a = a' ∧ b = b' := by
  rw [h] at h'; cases h'; exact ⟨rfl, rfl⟩

section
variable {l : List Nat} {i j c d : Nat} {o : Option (List Nat)}
theorem step_end (hn : nxt l i = some (j, o)) (h : l[((i : Nat) : Int).toNat]? = none) : i = j ∧ none = o := some_pair (nxt_end h) hn
theorem step_one (hn : nxt l i = some (j, o)) (h : l[((i : Nat) : Int).toNat]? = some c) (hc : (tx [c] == Str.ofString "\\") = false) : i + 1 = j ∧ some [c] = o := some_pair (nxt_one h hc) hn
theorem step_two (hn : nxt l i = some (j, o)) (h : l[((i : Nat) : Int).toNat]? = some c) (hc : (tx [c] == Str.ofString "\\") = true) (h2 : l[((i : Nat) + 1 : Int).toNat]? = some d) : i + 2 = j ∧ some ([c] ++ [d]) = o := some_pair (nxt_two h hc h2) hn
theorem step_bad (hn : nxt l i = some (j, o)) (h : l[((i : Nat) : Int).toNat]? = some c) (hc : (tx [c] == Str.ofString "\\") = true) (h2 : l[((i : Nat) + 1 : Int).toNat]? = none) : False := by
  rw [nxt_bad h hc h2] at hn; cases hn
end

section
variable {d t : Addr} {o o' ot : Obj} {new new' frs frs' : List (Addr × Obj)} {hb h : Heap} {L : Addr}
theorem upd_mem {l l' : List (Addr × Obj)} (u : Upd d o o' l l') : ∀ p ∈ l', p = (d, o') ∨ (p ∈ l ∧ p.1 ≠ d) := by
  induction u with
  | head h => exact fun p hp => (List.mem_cons.mp hp).imp id fun hp => ⟨.tail _ hp, h p hp⟩
  | tail n r ih => exact fun p hp => (List.mem_cons.mp hp).elim (fun e => .inr ⟨e ▸ .head _, e ▸ n⟩) fun hp => (ih p hp).imp id fun q => ⟨.tail _ q.1, q.2⟩
end

section
variable {prog : Program} {w : World} {A : Around} {E : Value → Shared → Prop} {s : Shared} {t u : Tok}
theorem eq_tx {a b : List Nat} {Q : Value → Shared → Prop} (h : Q (.bool (decide (a = b))) s) : wpAny (model prog w) A (compareOp .Eq (.str (tx a) t) (.str (tx b) u)) Q E s :=
  P.eq_str (by
    have e : ((tx a).cps.toList == (tx b).cps.toList) = decide (a = b) := by
      show (a.toArray.toList == b.toArray.toList) = _
      rw [List.toList_toArray, List.toList_toArray]
      by_cases q : a = b <;> simp [q]
    rw [e]; exact h)
theorem ne_tx {a b : List Nat} {Q : Value → Shared → Prop} (h : Q (.bool (decide (a ≠ b))) s) : wpAny (model prog w) A (compareOp .NotEq (.str (tx a) t) (.str (tx b) u)) Q E s :=
  P.ne_str (by
    have e : ((tx a).cps.toList != (tx b).cps.toList) = decide (a ≠ b) := by
      show (a.toArray.toList != b.toArray.toList) = _
      rw [List.toList_toArray, List.toList_toArray]
      by_cases q : a = b <;> simp [q]
    rw [e]; exact h)
theorem truthy_tx {a : List Nat} {Q : Bool → Shared → Prop} (hl : a.length ≤ 100000) (h : Q (decide (a ≠ [])) { s with toks := s.toks + 1 + 1 }) : wpAny (model prog w) A (truthy (.str (tx a) t)) Q E s :=
  SBL.truthy (by rw [tx_length]; lia) (by
    have e : (((tx a).length : Int) != 0) = decide (a ≠ []) := by
      rw [tx_length]
      cases a
      · rfl
      · simp; lia
    rw [e]; exact h)
theorem len_tx {a : List Nat} {Q : Value → Shared → Prop} (hl : a.length ≤ 100000) (h : Q (.int (a.length : Int) (s.toks + 1)) { s with toks := s.toks + 1 + 1 }) : wpAny (model prog w) A (call (.builtin "len") [.str (tx a) t]) Q E s :=
  SBL.len (by rw [tx_length]; lia) (by rw [tx_length]; exact h)
end

end Mine
end
section
open PySem PySem.W PyProof.Rows PySem.Spec PySem.Calls
namespace Mine
section
open PySem.Builtin PySem.Builtin._codecs
theorem loop_l {α : Type} (b : Array UInt8) (f : Nat → Nat × Array Nat × α → Sem (ForInStep (Nat × Array Nat × α))) (st : α)
   (hf : ∀ x i (out : Array Nat), i < b.size → out.size ≤ b.size → f x ⟨i, out, st⟩ = pure (.yield ⟨i + 1, out.push (b.getD i 0).toNat, st⟩)) :
   ∀ (k j i : Nat), i + k = b.size → forIn (List.range' j k) (i, ((b.toList.take i).map (·.toNat)).toArray, st) f = pure (b.size, b.map (·.toNat), st) := by
  intro k
  induction k with
  | zero =>
    intro j i h
    have : i = b.size := by lia
    subst this
    have : ((b.toList.take b.size).map (·.toNat)).toArray = b.map (·.toNat) := by
      apply Array.ext' 
      simp [List.take_of_length_le]
    rw [this]
    rfl
  | succ k ih =>
    intro j i h
    rw [List.range'_succ, List.forIn_cons, hf _ _ _ (by lia) (by simp; lia), pure_bind]
    have := ih (j + 1) (i + 1) (by lia)
    rw [← this]
    have hi : i < b.size := by lia
    have : ((List.take i b.toList).map (·.toNat)).toArray.push (b.getD i 0).toNat = ((List.take (i + 1) b.toList).map (·.toNat)).toArray := by
      simp [List.take_add_one, hi]
    rw [this]
theorem lat_run (id : String) (b : Array UInt8) (hb : b.size ≤ sizeLine) : runDecoder id latin1Decoder none true b 0 [] = pure (b.map (·.toNat), b.size) := by
  unfold runDecoder
  simp only [Std.Legacy.Range.forIn_eq_forIn_range', Std.Legacy.Range.size]
  refine (congrArg (· >>= _) (loop_l b _ _ ?_ ((b.size - 0 + 1 - 1) / 1) 0 0 ?_)).trans ?_
  · intro x i out hi ho
    dsimp only
    rw [if_neg (by lia), if_neg (by lia)]
    show pure (ForInStep.yield (i + 1, out ++ [(b.getD i 0).toNat].toArray, _)) = _
    simp
  · simp
  · rfl
theorem entry_l (c : UInt8) (cs : List UInt8) (t k : Tok) : «bytes.decode» ⟨[.bytes (c :: cs).toArray t], [("encoding", .str (PySem.Str.ofString "latin1") k)]⟩ = (mkStr (PySem.Str.ofString "utf-8") >>= fun _ => mkStr (PySem.Str.ofString "latin1") >>= fun e => mkStr (PySem.Str.ofString "bytes.decode") >>= fun d =>
    call (.builtin "_codecs.decode.text") [.bytes (c :: cs).toArray t, e, .none, d] >>= fun v => ret v) := by kernel_rfl
theorem road_l {id : String} {b : Array UInt8} : _codecs.decodeRoad id b (PySem.Str.ofString "latin1") none [] = (_codecs.runDecoder id _codecs.latin1Decoder none true b 0 [] >>= fun r => mkStr ⟨r.1⟩) := by kernel_rfl
theorem args_l (b : Array UInt8) (t k : Tok) : argsOk "bytes.decode" ⟨[.bytes b t], [("encoding", .str (PySem.Str.ofString "latin1") k)]⟩ := by unfold argsOk; kernel_rfl
theorem typeCall_l (b : Array UInt8) (t k : Tok) : checkTypeCall "str" ⟨[.bytes b t, .str (Str.ofString "latin1") k], []⟩ = pure () := by kernel_rfl
theorem newCall_l (b : Array UInt8) (t k : Tok) : checkBuiltinCall "str.__new__" ⟨[.type "str", .bytes b t, .str (Str.ofString "latin1") k], []⟩ = pure () := by kernel_rfl
theorem init_l (obj a b : Value) : argsOk "object.__init__" ⟨[obj, a, b], []⟩ := by unfold argsOk; kernel_rfl
noncomputable def latOf (b : Array UInt8) : Str := ⟨b.map (·.toNat)⟩
theorem latOf_length (b : Array UInt8) : (latOf b).length = b.size := by show (b.map _).size = _; simp
section
variable {b : Array UInt8} {t : Tok}
theorem meets_text_l {t1 t2 : Tok} {d : PySem.Str} (hz : b.size ≤ sizeLine) :
    Meets («_codecs.decode.text» ⟨[.bytes b t, .str (PySem.Str.ofString "latin1") t1, .none, .str d t2], []⟩) (fun _ R s => R (.ok (.ret (.str (latOf b) s.toks))) { s with toks := s.toks + 1 }) := by
  refine .of_wp fun prog w A R s h => ?_
  show wpAny _ _ (Bytes.bytesLike _ (.bytes b t) >>= fun r => _) _ _ s
  refine wpAny_bind (wpAny_of_eq KBd.like_eq ?_)
  refine wpAny_bind (wpAny_of_eq KBd.held_eq ?_)
  show wpAny _ _ (_codecs.decodeRoad _ b (PySem.Str.ofString "latin1") none [] >>= fun v => _) _ _ s
  rw [road_l, lat_run _ _ hz]
  refine wpAny_bind (wpAny_bind (wpAny_pure ?_))
  exact wpAny_mkStr (wpAny_pure ⟨_, rfl, h⟩) (by show (latOf b).length ≤ _; rw [latOf_length]; exact hz)
theorem meets_decode_l {k : Tok} (hz : b.size ≤ sizeLine) :
    Meets («bytes.decode» ⟨[.bytes b t], [("encoding", .str (PySem.Str.ofString "latin1") k)]⟩) (fun _ R s => ∀ t' k', R (.ok (.ret (.str (latOf b) t'))) { s with toks := k' }) := by
  refine .of_wp fun prog w A R s h => ?_
  rcases b with ⟨bs⟩
  cases bs with
  | nil =>
    unfold «bytes.decode» Bytes.decodeM
    dsimp only
    refine wpAny_bind (wpAny_of_eq (a := [some (.str (PySem.Str.ofString "latin1") k), none]) (by kernel_rfl) ?_)
    dsimp only
    refine wpAny_bind (wpAny_of_eq (a := ()) (by kernel_rfl) ?_)
    refine wpAny_bind (wpAny_of_eq (a := ()) (by kernel_rfl) ?_)
    refine bm_if_false (by decide) ?_
    refine wpAny_bind (wpAny_pure ?_)
    refine bm_if_true rfl ?_
    refine wpAny_bind (wpAny_rule ?_)
    refine wpAny_bind (wpAny_mkStr ?_ (by decide))
    have e : Str.empty = latOf ⟨[]⟩ := by simp [latOf, Str.empty]
    exact wpAny_pure ⟨_, rfl, (by rw [e]; exact h s.toks (s.toks + 1))⟩
  | cons c cs =>
    rw [entry_l]
    refine wpAny_bind (wpAny_mkStr ?_ (by decide))
    refine wpAny_bind (wpAny_mkStr ?_ (by decide))
    refine wpAny_bind (wpAny_mkStr ?_ (by decide))
    exact wpAny_bind (call_function_meets KBd.kind_text KBd.plain_text KBd.entry_text (KBd.args_text _ _ _ _) (meets_text_l hz) (wpAny_pure ⟨_, rfl, h _ _⟩))
end
section
variable {prog : Program} {w : World} {A : Around} {E : Value → Shared → Prop} {s : Shared} {b : Array UInt8} {t k : Tok}
theorem callKw_meets {T : String} {name : Str} {id : String} {B : Builtin} {self : Value} {rest : List Value} {kw : List (Str × Value)} {S : PySem.Spec} {Q : Value → Shared → Prop} (slot : Slot T name id) (hT : s.TypeIs self T)
    (entry : entryFor table id = some B) (args : argsOk id ⟨self :: rest, kw⟩) (g : Meets (B ⟨self :: rest, kw⟩) S) (h : S A (wants Q E) s) :
    wpAny (model prog w) A (call (.builtin id) (self :: rest) kw) Q E s :=
  wpAny_call (codeAny_call_builtin slot.plain entry (slot.check _ _ _ _ _ _ _ _ hT args (g prog w A (wants Q E) s h)))
theorem meets_new_l (hz : b.size ≤ sizeLine) : Meets («str.__new__» ⟨[.type "str", .bytes b t, .str (Str.ofString "latin1") k], []⟩) (fun _ R s => ∀ t' k', R (.ok (.ret (.str (latOf b) t'))) { s with toks := k' }) := by
  refine .of_wp fun prog w A R s h => ?_
  unfold «str.__new__»
  dsimp only
  refine wpAny_bind (wpAny_of_eq (a := true) rfl ?_)
  refine bm_if_false rfl ?_
  refine wpAny_bind (wpAny_of_eq isSubtype_str_str ?_)
  refine bm_if_false rfl ?_
  refine bm_if_false rfl ?_
  refine wpAny_bind (wpAny_of_eq (a := [some (.bytes b t), some (.str (Str.ofString "latin1") k), none]) (by kernel_rfl) ?_)
  dsimp only
  refine wpAny_bind (wpAny_of_eq (a := some (Str.ofString "latin1")) (by kernel_rfl) ?_)
  refine wpAny_bind (wpAny_of_eq (a := none) (by kernel_rfl) ?_)
  refine bm_if_false rfl ?_
  refine wpAny_bind ?_
  refine wpAny_bind (wpAny_bind (wpAny_mkStr (wpAny_pure ?_) (by decide)))
  refine wpAny_bind (wpAny_pure ?_)
  refine wpAny_bind (wpAny_isInstance (typeIs_bytes _ _ _) F.bm_sub ?_)
  refine bm_if_true rfl ?_
  refine callKw_meets FB.slot_bytes_decode (typeIs_bytes _ _ _) FB.entry_bytes_decode (args_l _ _ _) (meets_decode_l hz) ?_
  intro t' k'
  refine bm_if_true rfl ?_
  exact wpAny_bind (wpAny_pure (wpAny_pure ⟨_, rfl, h _ _⟩))
theorem str_latin {Q : Value → Shared → Prop} (hz : b.size ≤ sizeLine) (h : ∀ t' k', Q (.str (latOf b) t') { s with toks := k' }) : wpAny (model prog w) A (call (.type "str") [.bytes b t, .str (Str.ofString "latin1") k]) Q E s :=
  callType_new F.called_str (by decide) (typeCall_l _ _ _) (newCall_l _ _ _) (fun obj => init_l obj _ _) F.entry_str_new
    (meets_new_l hz) fun t' k' => ⟨typeIs_str _ _ _, h _ _⟩
theorem latOf_tx (b : Array UInt8) {l : List Nat} (h : b.toList.map (·.toNat) = l) : latOf b = tx l := by subst h; simp only [latOf, tx]; congr 1; apply Array.ext'; simp
theorem str_latin_tx {Q : Value → Shared → Prop} {l : List Nat} (hb : b.toList.map (·.toNat) = l) (hz : l.length ≤ sizeLine) (h : ∀ t' k', Q (.str (tx l) t') { s with toks := k' }) : wpAny (model prog w) A (call (.type "str") [.bytes b t, .str (Str.ofString "latin1") k]) Q E s :=
  str_latin (by rw [← hb] at hz; simpa using hz) (by rw [latOf_tx b hb]; exact h)
end
end
end Mine
end
section
namespace Mine

theorem frames_call {A : Around} {C : Addr} {args : List Value} {l : List Env} (hA : A.frames = some l) : (A.under (.builtin "type.__call__" ⟨.ref C :: args, []⟩)).frames = some l := by
  obtain ⟨hd, d, fr, gs, u⟩ := A
  cases hA
  rfl
section
variable {prog : Program} {w : World} {A : Around} {E : Value → Shared → Prop} {s : Shared} {K : Frag} {C f : Addr} {hb : Heap} {L : Addr} {m : Str → Option Value} {p : Program} {loose : List Str} {mean : ExcName → Option Value} {mg mb : Str → Option Value}
  {env : Env} {outer : List Env}
end

end Mine
end
section
namespace Mine
section
variable {prog : Program} {w : World} {A : Around} {E : Value → Shared → Prop} {s : Shared} {h₀ : Heap} {L : Addr} {m : Str → Option Value} {env : Env} {elt iter : Expr} {x : Str} {px pos : Pos} {scope : Scope} {cl : List (Str × Addr)}
  {news : List (Addr × Obj)} {n : Nat} {P G : Nat → Value → Prop} {S : List (Addr × Obj) → Prop} {Fin : List Value → List (Addr × Obj) → Prop}

end
end Mine
end
section
namespace Mine

section
variable {prog : Program} {w : World} {A : Around} {E : Value → Shared → Prop} {Q : Flow → Shared → Prop} {s : Shared} {env : Env} {hb : Heap} {L : Addr} {outer : List Env} {frs0 frs : List (Addr × Obj)}

theorem fram0 : Fram [] [] [] := ⟨trivial, TI.SameUp.refl _⟩
end
end Mine
end
section
set_option pp.maxSteps 600
namespace Mine

theorem bytes_of (l : List Nat) (h : ∀ c ∈ l, c < 256) : (byteArr (l.map fun (c : Nat) => (c : Int))).toList.map (·.toNat) = l := by
  simp only [byteArr, List.map_map]
  conv => rhs; rw [← List.map_id l]
  refine List.map_congr_left fun c hc => ?_
  have := h c hc
  show ((c : Int).toNat.toUInt8).toNat = c
  simp
  lia

section
variable {prog : Program} {w : World} {A : Around} {E : Value → Shared → Prop} {s : Shared} {hb : Heap} {L D : Addr} {m : Str → Option Value} {led : List (Addr × Obj)} {ys : List Value} {l : List Nat}
end
noncomputable def runAt (l : List Nat) : Nat → Nat
  | 0 => 0
  | p + 1 => if l[p]? = some 92 then runAt l p + 1 else 0
noncomputable def startsTo (l : List Nat) (n : Nat) : List Nat := (List.range n).filter fun p => runAt l p % 2 = 0
theorem startsTo_length (l : List Nat) (n : Nat) : (startsTo l n).length ≤ n := by
  have := List.length_filter_le (fun p => decide (runAt l p % 2 = 0)) (List.range n)
  simpa [startsTo] using this
theorem startsTo_yes {l : List Nat} {n : Nat} (h : runAt l n % 2 = 0) : startsTo l (n + 1) = startsTo l n ++ [n] := by
  simp [startsTo, List.range_succ, h]
theorem startsTo_no {l : List Nat} {n : Nat} (h : runAt l n % 2 ≠ 0) : startsTo l (n + 1) = startsTo l n := by
  simp [startsTo, List.range_succ, h]
theorem run_idx {i c : Nat} (h : (c : Int) < 0 + (i : Int)) : (0 + (i : Int) - (c : Int) - 1).toNat = i - (c + 1) ∧ i - c = i - (c + 1) + 1 := by lia
theorem run_step {l : List Nat} {i c d : Nat} (h : (c : Int) < 0 + (i : Int)) (h2 : l[(0 + (i : Int) - (c : Int) - 1).toNat]? = some d) (h3 : (tx [d] == Str.ofString "\\") = true) (h4 : c + runAt l (i - c) = runAt l i) :
    (c + 1 ≤ i ∧ c + 1 + runAt l (i - (c + 1)) = runAt l i) ∧ i - (c + 1) < i - c := by
  obtain ⟨e1, e2⟩ := run_idx h
  rw [bs_beq] at h3
  have hd : d = 92 := by simpa using h3
  subst hd
  rw [e1] at h2
  rw [e2] at h4
  simp only [runAt, h2, if_true] at h4
  refine ⟨⟨by lia, by lia⟩, by lia⟩
theorem run_stop {l : List Nat} {i c d : Nat} (h : (c : Int) < 0 + (i : Int)) (h2 : l[(0 + (i : Int) - (c : Int) - 1).toNat]? = some d) (h3 : (tx [d] == Str.ofString "\\") = false) (h4 : c + runAt l (i - c) = runAt l i) : c = runAt l i := by
  obtain ⟨e1, e2⟩ := run_idx h
  rw [bs_beq] at h3
  have hd : d ≠ 92 := by simpa using h3
  rw [e1] at h2
  rw [e2] at h4
  simp only [runAt, h2] at h4
  rw [if_neg (by simpa using hd)] at h4
  exact h4
theorem run_full {l : List Nat} {i c : Nat} (h : ¬ (c : Int) < 0 + (i : Int)) (h1 : c ≤ i) (h4 : c + runAt l (i - c) = runAt l i) : c = runAt l i := by
  have : i - c = 0 := by lia
  rw [this] at h4
  exact h4
theorem run_out {l : List Nat} {i c : Nat} (hi : i < l.length) (h2 : l[(0 + (i : Int) - (c : Int) - 1).toNat]? = none) : False := by
  rw [List.getElem?_eq_none_iff] at h2
  lia
section
variable {prog : Program} {w : World} {A : Around} {E : Value → Shared → Prop} {s : Shared} {env : Env}
end

theorem join_flat : ∀ cs : List (List Nat), Txt.join (tx []) (cs.map tx) = tx cs.flatten := by
  intro cs
  refine (StrLaws.glued_eq_join _ _).trans ?_
  induction cs with
  | nil => simp [Str.join, tx, Str.empty]
  | cons c cs ih =>
    cases cs with
    | nil => simp [Str.join]
    | cons d cs =>
      show tx c ++ tx [] ++ Str.join (tx []) ((d :: cs).map tx) = _
      rw [ih, tx_append, tx_append]
      simp
section
variable {prog : Program} {w : World} {A : Around} {E : Value → Shared → Prop} {s : Shared} {hb : Heap} {L D : Addr} {m : Str → Option Value} {led : List (Addr × Obj)} {ys : List Value} {cs : List (List Nat)} {l : List Nat} {t : Tok}
end
section
variable {prog : Program} {w : World} {A : Around} {E : Value → Shared → Prop} {s : Shared}
end
theorem nxt_sign {l : List Nat} {i j : Nat} {s : List Nat} (h : nxt l i = some (j, some s)) : i < l.length ∧ j ≤ l.length ∧ j = i + s.length ∧ s ≠ [] ∧ s ≠ [92] ∧ s = (l.drop i).take s.length ∧ s.length ≤ 2 := by
  unfold nxt at h
  cases h1 : l[i]? with
  | none => rw [h1] at h; cases h
  | some c =>
    rw [h1] at h
    have hi := (List.getElem?_eq_some_iff.mp h1)
    have hd : l.drop i = c :: l.drop (i + 1) := by rw [List.drop_eq_getElem_cons hi.1, hi.2]
    dsimp only at h
    by_cases hc : c = 92
    · rw [if_pos hc] at h
      cases h2 : l[i + 1]? with
      | none => rw [h2] at h; cases h
      | some d =>
        rw [h2] at h
        have hi2 := (List.getElem?_eq_some_iff.mp h2)
        have hd2 : l.drop (i + 1) = d :: l.drop (i + 1 + 1) := by rw [List.drop_eq_getElem_cons hi2.1, hi2.2]
        cases h
        refine ⟨hi.1, hi2.1, rfl, by simp, by simp, ?_, by simp⟩
        rw [hd, hd2, hc]
        rfl
    · rw [if_neg hc] at h
      cases h
      refine ⟨hi.1, hi.1, rfl, by simp, by simpa using hc, ?_, by simp⟩
      rw [hd]
      rfl
theorem nxt_none {l : List Nat} {i j : Nat} (h : nxt l i = some (j, none)) : j = i ∧ l.length ≤ i := by
  unfold nxt at h
  cases h1 : l[i]? with
  | none => rw [h1] at h; cases h; exact ⟨rfl, List.getElem?_eq_none_iff.mp h1⟩
  | some c =>
    rw [h1] at h
    dsimp only at h
    by_cases hc : c = 92
    · rw [if_pos hc] at h
      cases h2 : l[i + 1]? with
      | none => rw [h2] at h; cases h
      | some d => rw [h2] at h; cases h
    · rw [if_neg hc] at h; cases h
section
variable {prog : Program} {w : World} {A : Around} {E : Value → Shared → Prop} {s : Shared} {t : Tok} {c : List Nat} {Q : Value → Shared → Prop}
end
end Mine
end
section
set_option pp.maxSteps 600
namespace Mine
section
open PySem.Builtin PySem.Builtin.Str
theorem idx_el (lo hi : Option Int) (n : Nat) : strSliceIndices lo hi 1 n = sliceRange ((lo.elim 0 (clipAt n) : Nat) : Int) ((hi.elim n (clipAt n) : Nat) : Int) 1 := by
  cases lo <;> cases hi <;> simp [strSliceIndices, clipAt_cast]
end
theorem clip_le (n : Nat) (i : Int) : clipAt n i ≤ n := Int.toNat_le.mpr (Int.max_le.mpr ⟨Int.natCast_nonneg _, Int.min_le_right _ _⟩)
theorem lo_le (o : Option Int) (n : Nat) : o.elim 0 (clipAt n) ≤ n := match o with | none => Nat.zero_le _ | some _ => clip_le _ _
theorem hi_le (o : Option Int) (n : Nat) : o.elim n (clipAt n) ≤ n := match o with | none => Nat.le_refl _ | some _ => clip_le _ _
theorem idx_run (lo hi : Option Int) (n A B : Nat) (hA : lo.elim 0 (clipAt n) = A) (hB : hi.elim n (clipAt n) = B) (h1 : A ≤ n) (h2 : A + (B - A) ≤ n) : Builtin.Str.strSliceIndices lo hi 1 n = Builtin.Str.strSliceIndices (some (A : Int)) (some ((A + (B - A) : Nat) : Int)) 1 n := by
  rw [idx_el, idx_el, hA, hB]
  simp only [Option.elim, clipAt_nat, sliceRange_one]
  rw [Nat.min_eq_left h1, Nat.min_eq_left h2, Nat.add_sub_cancel_left]
theorem slice_el (l : List Nat) (lo hi : Option Int) (A B : Nat) (hA : lo.elim 0 (clipAt l.length) = A) (hB : hi.elim l.length (clipAt l.length) = B) : Txt.slice (tx l) lo hi = tx ((l.drop A).take (B - A)) := by
  have h1 : A ≤ l.length := hA ▸ lo_le _ _
  have h2 : A + (B - A) ≤ l.length := (Nat.le_total A B).elim (fun h => by rw [Nat.add_sub_cancel' h, ← hB]; exact hi_le _ _) (fun h => by rw [Nat.sub_eq_zero_of_le h]; exact h1)
  have e : Txt.slice (tx l) lo hi = StrLaws.sliceText (tx l) (some (A : Int)) (some ((A + (B - A) : Nat) : Int)) := by
    unfold Txt.slice StrLaws.sliceText
    rw [tx_length, idx_run lo hi _ A B hA hB h1 h2]
  rw [e, StrLaws.sliceText_nat (tx l) (Nat.le_add_right _ _) ((tx_length l).symm ▸ h2), Nat.add_sub_cancel_left]
  rfl
theorem drop_take_clip (l : List Nat) (a b : Nat) : (l.drop (min a l.length)).take (min b l.length - min a l.length) = (l.drop a).take (b - a) := by
  rcases Nat.le_total a l.length with h | h
  · rw [Nat.min_eq_left h, ← Nat.sub_min_sub_right, ← List.length_drop, ← List.take_eq_take_min]
  · rw [Nat.min_eq_right h, List.drop_of_length_le (Nat.le_refl _), List.drop_of_length_le h, List.take_nil, List.take_nil]
theorem clip_pos (n : Nat) {i : Int} (hi : 0 ≤ i) : clipAt n i = min i.toNat n := by
  rw [← clipAt_nat, Int.toNat_of_nonneg hi]
theorem slice_tx (l : List Nat) {i j : Int} (hi : 0 ≤ i) (hj : 0 ≤ j) : Txt.slice (tx l) (some i) (some j) = tx ((l.drop i.toNat).take (j.toNat - i.toNat)) := by
  rw [slice_el l (some i) (some j) _ _ (clip_pos _ hi) (clip_pos _ hj), drop_take_clip]
theorem slice_upto' (l : List Nat) (j : Int) : Txt.slice (tx l) none (some j) = tx (l.take (clipAt l.length j)) := slice_el l none (some j) 0 _ rfl rfl
section
variable {prog : Program} {w : World} {A : Around} {E : Value → Shared → Prop} {s : Shared} {hb : Heap} {L : Addr} {m : Str → Option Value} {led : List (Addr × Obj)} {l : List Nat} {t : Tok} {value slice : Expr} {Q : Value → Shared → Prop}
theorem cut_ss {i j : Int} {ui uj : Tok} (F : Fr hb L s.heap m) (N : News hb L s.heap led) (hi : 0 ≤ i) (hj : 0 ≤ j) (hl : l.length ≤ 16777216) (h : ∀ h' t' k, Fr hb L h' m → News hb L h' led → Q (.str (tx ((l.drop i.toNat).take (j.toNat - i.toNat))) t') { s with heap := h', toks := k })
    (hs : subscripted slice false (.str (tx l) t) (.ref s.heap.objs.size) = operate [.ref s.heap.objs.size, .str (tx l) t] (getItem (.str (tx l) t) (.ref s.heap.objs.size)) := by with_unfolding_all rfl)
    (ht : ∀ r, letTemporaryGo value (.str (tx l) t) r = pure () := by intro _; with_unfolding_all rfl) :
    wpAny (model prog w) A (subscriptTail value slice (.str (tx l) t) (.ref s.heap.objs.size)) Q E { s with heap := s.heap.push { cls := .type "slice", data := .fields #[.int i ui, .int j uj, .none] } } :=
  slice_strN_ss F N (fun h' t' k F' N' => by rw [slice_tx l hi hj]; exact h h' t' k F' N') hs ht (by rw [tx_length, sizeLine_eq]; exact hl)
end
end Mine
end
section
namespace Mine

inductive V where
  | none
  | bool (b : Bool)
  | int (i : Int)
  | str (l : List Nat)
  | bytes (l : List Nat)
  | ref (a : Addr)
  | cv (v : Value)

noncomputable def VR : V → Value → Prop
  | .none, c => c = Value.none
  | .bool b, c => c = .bool b
  | .int i, c => ∃ t, c = .int i t
  | .str l, c => ∃ t, c = .str (tx l) t
  | .bytes l, c => ∃ b t, c = .bytes b t ∧ b.toList.map (·.toNat) = l
  | .ref a, c => c = .ref a
  | .cv v, c => c = v

inductive VRs : List V → List Value → Prop
  | nil : VRs [] []
  | cons {v c vs cs} : VR v c → VRs vs cs → VRs (v :: vs) (c :: cs)
theorem VRs.length {vs : List V} {cs : List Value} (h : VRs vs cs) : vs.length = cs.length := by
  induction h with
  | nil => rfl
  | cons _ _ ih => exact congrArg Nat.succ ih
theorem VRs.append {vs vs' : List V} {cs cs' : List Value} (h : VRs vs cs) (h' : VRs vs' cs') : VRs (vs ++ vs') (cs ++ cs') := by
  induction h with
  | nil => exact h'
  | cons a _ ih => exact .cons a ih
theorem VRs.one {v : V} {c : Value} (h : VR v c) : VRs [v] [c] := .cons h .nil
theorem VRs.get {vs : List V} {cs : List Value} (h : VRs vs cs) : ∀ (i : Nat) (v : V), vs[i]? = some v → ∃ c, cs[i]? = some c ∧ VR v c := by
  induction h with
  | nil => exact fun i v h => absurd h (by rw [List.getElem?_nil]; exact nofun)
  | cons a _ ih =>
    intro i v h
    cases i with
    | zero => exact ⟨_, rfl, Option.some.inj h ▸ a⟩
    | succ i => exact ih i v h
theorem VRs.get' {vs : List V} {cs : List Value} (h : VRs vs cs) : ∀ (i : Nat) (c : Value), cs[i]? = some c → ∃ v, vs[i]? = some v ∧ VR v c := by
  induction h with
  | nil => exact fun i v h => absurd h (by rw [List.getElem?_nil]; exact nofun)
  | cons a _ ih =>
    intro i v h
    cases i with
    | zero => exact ⟨_, rfl, Option.some.inj h ▸ a⟩
    | succ i => exact ih i v h

inductive Ob where
  | list (vs : List V)
  | tup (vs : List V)
  | inst (C d : Addr)
  | dct (es : List (Str × V))
  | set (fz : Bool) (cs : List (List Nat))
  | fd (f : List Nat → V) (K : List Nat → Prop) (n : Nat)
  | exc (cls : Value) (d : Option Addr) (arg : Option V)
  | xnew (cls : Value) (d : Option Addr) (arg : V)
  | cell (v : V)
  | rng (a b : Int)
  | raw (o : Obj)

inductive ERs (P : Params) : List (Str × V) → List DictEntry → Prop
  | nil : ERs P [] []
  | cons {k v t c es cs} : VR v c → ERs P es cs → ERs P ((k, v) :: es) (⟨PyData.keyHash P k, .str k t, c⟩ :: cs)

structure SeAt (P : Params) (fz : Bool) (cs : List (List Nat)) (o : Obj) (prog : Program) (w : World) (es : Array (Int × Value)) (ep : Nat) (t : SetTable) : Prop where
  wp : w.params = P
  ho : o = { cls := .type (cond fz "frozenset" "set"), data := .set es ep t }
  he : ElemsOf (PySem.strKind prog w) es.toList
  hm : ∀ k, (∃ e ∈ es.toList, (PySem.strKind prog w).is k e.2 = true) ↔ ∃ l ∈ cs, k = tx l
  hn : es.size ≤ cs.length
  hf : t.fits es.size = true
noncomputable def SeR (P : Params) (fz : Bool) (cs : List (List Nat)) (o : Obj) : Prop := ∃ prog w es ep t, SeAt P fz cs o prog w es ep t
structure FdAt (P : Params) (f : List Nat → V) (K : List Nat → Prop) (n : Nat) (o : Obj) (prog : Program) (w : World) (kvs : List (Str × Value)) : Prop where
  wp : w.params = P
  d : o.IsDictOf (PySem.strKind prog w) kvs
  hn : kvs.length ≤ n
  hf : ∀ p ∈ kvs, ∃ l, p.1 = tx l ∧ VR (f l) p.2
  hk : ∀ l, K l → ∃ p ∈ kvs, p.1 = tx l
noncomputable def FdR (P : Params) (f : List Nat → V) (K : List Nat → Prop) (n : Nat) (o : Obj) : Prop := ∃ prog w kvs, FdAt P f K n o prog w kvs
noncomputable def obR (P : Params) : Ob → Obj → Prop
  | .list vs, o => ∃ cs n, o = W.listOf cs.toArray n ∧ VRs vs cs
  | .tup vs, o => o.cls = .type "tuple" ∧ ∃ cs n, o.data = .seq cs.toArray n ∧ VRs vs cs
  | .inst C d, o => o = instObj C d
  | .dct es, o => ∃ cs n, o = dictOf cs n ∧ ERs P es cs
  | .set fz cs, o => SeR P fz cs o
  | .fd f K n, o => FdR P f K n o
  | .exc cls d arg, o => o.cls = cls ∧ (∀ dd, d = some dd → o.dict = some dd) ∧ ∃ a vs, o.data = .fields (#[a] ++ vs) ∧ vs.size = 5 ∧ (∀ v, arg = some v → VR v a) ∧ (d = none → vs[1]? = some .none)
  | .xnew cls d arg, o => o.cls = cls ∧ o.dict = d ∧ ∃ a, o.data = .fields #[a, .none, .none, .none, .bool false, .none] ∧ VR arg a
  | .cell v, o => ∃ c, o.data = .cell (some c) ∧ VR v c
  | .rng a b, o => ∃ t1 t2 t3, o = { cls := .type "range", dict := none, data := .fields #[.int a t1, .int b t2, .int 1 t3], slots := #[] }
  | .raw o', o => o = o'

inductive ORs (P : Params) : List (Addr × Ob) → List (Addr × Obj) → Prop
  | nil : ORs P [] []
  | cons {a b o bs os} : obR P b o → ORs P bs os → ORs P ((a, b) :: bs) ((a, o) :: os)
theorem ORs.map {P : Params} {bs : List (Addr × Ob)} {os : List (Addr × Obj)} (h : ORs P bs os) : os.map (·.1) = bs.map (·.1) := by
  induction h with
  | nil => rfl
  | cons _ _ ih => exact congrArg (List.cons _) ih
theorem ORs.append {P : Params} {bs bs' : List (Addr × Ob)} {os os' : List (Addr × Obj)} (h : ORs P bs os) (h' : ORs P bs' os') : ORs P (bs ++ bs') (os ++ os') := by
  induction h with
  | nil => exact h'
  | cons a _ ih => exact .cons a ih
theorem ORs.split {P : Params} {bs bs' : List (Addr × Ob)} : ∀ {os : List (Addr × Obj)}, ORs P (bs ++ bs') os → ∃ o1 o2, os = o1 ++ o2 ∧ ORs P bs o1 ∧ ORs P bs' o2 := by
  induction bs with
  | nil => exact fun h => ⟨[], _, rfl, .nil, h⟩
  | cons b bs ih =>
    intro os h
    cases h with
    | cons a r =>
      obtain ⟨o1, o2, rfl, h1, h2⟩ := ih r
      exact ⟨_ :: o1, o2, rfl, .cons a h1, h2⟩
theorem ORs.mem {P : Params} {bs : List (Addr × Ob)} {os : List (Addr × Obj)} (q : ORs P bs os) {a : Addr} {b : Ob} : (a, b) ∈ bs → ∃ o, (a, o) ∈ os ∧ obR P b o := by
  induction q with
  | nil => exact fun h => absurd h List.not_mem_nil
  | cons x _ ih =>
    intro h
    rcases List.mem_cons.mp h with e | h
    · cases e; exact ⟨_, .head _, x⟩
    · exact (ih h).imp fun o h => ⟨.tail _ h.1, h.2⟩

noncomputable abbrev Loc := List (Option V)
noncomputable abbrev Obs := List (Addr × Ob)
noncomputable abbrev Nms := List (Str × NameKind)

inductive Has : Nms → Loc → Str → V → Prop
  | here {x v ns lo} : Has ((x, .local) :: ns) (some v :: lo) x v
  | there {x v p u ns lo} : Has ns lo x v → Has (p :: ns) (u :: lo) x v
inductive Put : Nms → Loc → Str → Option V → Loc → Prop
  | here {x v u ns lo} : Put ((x, .local) :: ns) (u :: lo) x v (v :: lo)
  | there {x v p u ns lo lo'} : Put ns lo x v lo' → Put (p :: ns) (u :: lo) x v (u :: lo')
theorem Has.mem {ns : Nms} {lo : Loc} {x : Str} {v : V} (h : Has ns lo x v) : (x, NameKind.local) ∈ ns := by
  induction h with
  | here => exact .head _
  | there _ ih => exact .tail _ ih
theorem Put.mem {ns : Nms} {lo lo' : Loc} {x : Str} {v : Option V} (h : Put ns lo x v lo') : (x, NameKind.local) ∈ ns := by
  induction h with
  | here => exact .head _
  | there _ ih => exact .tail _ ih
theorem lookup_of_mem {ns : Nms} {x : Str} (hn : (ns.map (·.1)).Nodup) (h : (x, NameKind.local) ∈ ns) : ns.lookup x = some .local := by
  induction ns with
  | nil => cases h
  | cons p r ih =>
    obtain ⟨y, k⟩ := p
    rw [List.map_cons, List.nodup_cons] at hn
    rcases List.mem_cons.mp h with e | h
    · cases e; simp [List.lookup]
    · have : x ≠ y := fun e => hn.1 (by rw [← e]; exact List.mem_map_of_mem (f := (·.1)) h)
      rw [List.lookup_cons]
      have e : (x == y) = false := by simpa using this
      rw [e]
      exact ih hn.2 h
theorem Has.inv {q : Str × NameKind} {w : Option V} {ns : Nms} {lo : Loc} {x : Str} {v : V} (h : Has (q :: ns) (w :: lo) x v) : (q.1 = x ∧ w = some v) ∨ Has ns lo x v := by
  cases h with
  | here => exact .inl ⟨rfl, rfl⟩
  | there h => exact .inr h
theorem Put.has {ns : Nms} {lo lo' : Loc} {x : Str} {v : Option V} (hn : (ns.map (·.1)).Nodup) (h : Put ns lo x v lo') {y : Str} {u : V} (g : Has ns lo' y u) : (y = x ∧ v = some u) ∨ (y ≠ x ∧ Has ns lo y u) := by
  induction h with
  | here =>
    rw [List.map_cons, List.nodup_cons] at hn
    rcases g.inv with ⟨e1, e2⟩ | g
    · exact .inl ⟨e1.symm, e2⟩
    · exact .inr ⟨fun e => hn.1 (by rw [← e]; exact List.mem_map_of_mem (f := (·.1)) g.mem), .there g⟩
  | there h ih =>
    rw [List.map_cons, List.nodup_cons] at hn
    cases g with
    | here => exact .inr ⟨fun e => hn.1 (by rw [e]; exact List.mem_map_of_mem (f := (·.1)) h.mem), .here⟩
    | there g => exact (ih hn.2 g).imp id fun q => ⟨q.1, .there q.2⟩

noncomputable def LR (ns : Nms) (lo : Loc) (m : Str → Option Value) : Prop := ∀ x v, Has ns lo x v → ∃ c, m x = some c ∧ VR v c

set_option genInjectivity false in
structure G where
  prog : Program
  w : World
  K : Frag
  hb : Heap
  p : Program
  loose : List Str
  mean : ExcName → Option Value
  mg : Str → Option Value
  mb : Str → Option Value
  os0 : OsState
  gens0 : Array GenState
structure G.Ok (g : G) : Prop where
  X : g.K.In g.hb
  T : Top g.p g.loose g.mean g.mg g.mb g.hb
noncomputable abbrev G.M (g : G) : Model := model g.prog g.w

inductive InN : Nms → Str → NameKind → Prop
  | here {x k ns} : InN ((x, k) :: ns) x k
  | there {x k p ns} : InN ns x k → InN (p :: ns) x k
theorem InN.mem {ns : Nms} {x : Str} {k : NameKind} (h : InN ns x k) : (x, k) ∈ ns := by
  induction h with
  | here => exact .head _
  | there _ ih => exact .tail _ ih
theorem InN.lookup {ns : Nms} {x : Str} {k : NameKind} (h : InN ns x k) (hn : (ns.map (·.1)).Nodup) : ns.lookup x = some k := by
  induction h with
  | here => simp [List.lookup]
  | @there x k p ns h ih =>
    obtain ⟨y, k'⟩ := p
    rw [List.map_cons, List.nodup_cons] at hn
    have : x ≠ y := fun e => hn.1 (by rw [← e]; exact List.mem_map_of_mem (f := (·.1)) h.mem)
    rw [List.lookup_cons]
    have e : (x == y) = false := by simpa using this
    rw [e]
    exact ih hn.2

set_option genInjectivity false in
structure Cx where
  g : G
  B : Around
  env : Env
  fenv : Env
  ns : Nms
  outer : List Env
  frs0 : List (Addr × Obj)
  rest : List (Addr × Obj)
  cv : Option (List (Str × V))
  d : Nat
noncomputable abbrev Cx.L (c : Cx) : Addr := c.fenv.locals

structure Cx.Ok (c : Cx) : Prop where
  g : c.g.Ok
  fr : c.B.frames = some (c.fenv :: c.outer)
  fns : c.fenv.scope.names = c.ns
  nd : (c.ns.map (·.1)).Nodup
  fframe : c.fenv.frame = some c.fenv.locals
  fkind : c.fenv.scope.kind = .function
  frame : c.env.frame = c.fenv.frame
  kind : c.env.scope.kind = .function
  glob : c.env.globals = mainGlobals
  blt : c.env.builtins = builtinsNs
  nd' : (c.env.scope.names.map (·.1)).Nodup
  room : c.B.depth + c.d < recursionLimit
  un : c.B.units + 4 * c.d + 100 < cLine
  fn : c.cv = none → c.env = c.fenv
  cm : ∀ kv, c.cv = some kv → ∃ oC m, (c.env.locals, oC) ∈ c.rest ∧ LCg.NsObj oC m ∧ ∀ p ∈ kv, ∃ v, m p.1 = some v ∧ VR p.2 v
  fv : ∀ x, c.env.scope.names.lookup x = some .cell → ∀ a, c.fenv.cells.lookup x = some a → c.env.cells.lookup x = some a

noncomputable def Og (s s' : Shared) : Prop := s'.os = s.os ∧ s'.gens = s.gens
theorem Og.tr {s s' : Shared} {a : OsState} {b : Array GenState} (h : Og s s') (x : s.os = a ∧ s.gens = b) : s'.os = a ∧ s'.gens = b := ⟨h.1.trans x.1, h.2.trans x.2⟩
structure NowAt (c : Cx) (z : List (Addr × Obj)) (lo : Loc) (ob : Obs) (s : Shared) (m : Str → Option Value) (os frs : List (Addr × Obj)) : Prop where
  F : Fr c.g.hb c.L s.heap m
  lr : LR c.ns lo m
  rs : ORs c.g.w.params ob os
  N : News c.g.hb c.L s.heap (os ++ ((c.rest ++ z) ++ frs))
  nd : ((os ++ (c.rest ++ z)).map (·.1)).Nodup
  fm : Fram c.outer c.frs0 frs
  ap : Apt ((os ++ (c.rest ++ z)).map (·.1)) c.frs0
  og : s.os = c.g.os0 ∧ s.gens = c.g.gens0
noncomputable def Now (c : Cx) (z : List (Addr × Obj)) (lo : Loc) (ob : Obs) (s : Shared) : Prop := ∃ m os frs, NowAt c z lo ob s m os frs

noncomputable def TbOk (c : Cx) (as : List Addr) (h : Heap) (a : Addr) : Prop := ∃ oe vs, h.get? a = some oe ∧ oe.data = .fields vs ∧
  (vs[1]? = some .none ∨ ∃ b ot ts, vs[1]? = some (.ref b) ∧ h.get? b = some ot ∧ ot.data = .fields ts ∧ 3 < ts.size ∧ b ≠ c.L ∧ c.g.hb.get? b = none ∧ b ∉ as)
noncomputable def Exc (c : Cx) (z : List (Addr × Obj)) (a : Addr) (lo : Loc) (ob : Obs) (s : Shared) : Prop := (∃ cls d arg, (a, Ob.exc cls d arg) ∈ ob) ∧ ∃ m os frs, NowAt c z lo ob s m os frs ∧ TbOk c ((os ++ ((c.rest ++ z) ++ frs)).map (·.1)) s.heap a

noncomputable abbrev QT (β : Type) := β → Loc → Obs → Prop
noncomputable def LQ {α β : Type} (c : Cx) (z : List (Addr × Obj)) (rel : β → α → Prop) (Q : QT β) : α → Shared → Prop := fun a s => ∃ b lo ob, rel b a ∧ Now c z lo ob s ∧ Q b lo ob
noncomputable def LX (c : Cx) (z : List (Addr × Obj)) (X : QT Addr) : Value → Shared → Prop := fun e s => ∃ a lo ob, e = .ref a ∧ Exc c z a lo ob s ∧ X a lo ob

noncomputable def W {α β : Type} (c : Cx) (rel : β → α → Prop) (t : Sem α) (Q : QT β) (X : QT Addr) (lo : Loc) (ob : Obs) : Prop :=
  ∀ z s, Now c z lo ob s → wpAny c.g.M c.B t (LQ c z rel Q) (LX c z X) s

section
variable {α β γ δ : Type} {c : Cx} {rel : β → α → Prop} {rel' : δ → γ → Prop} {t : Sem α} {Q Q' : QT β} {X X' : QT Addr} {lo : Loc} {ob : Obs}
theorem LQ.elim {z : List (Addr × Obj)} {a : α} {s : Shared} {P : Prop} (h : LQ c z rel Q a s) (k : ∀ b lo ob, rel b a → Now c z lo ob s → Q b lo ob → P) : P :=
  Exists.elim h fun b h => Exists.elim h fun lo h => Exists.elim h fun ob h => k b lo ob h.1 h.2.1 h.2.2
theorem LX.elim {z : List (Addr × Obj)} {e : Value} {s : Shared} {P : Prop} (h : LX c z X e s) (k : ∀ a lo ob, e = .ref a → Exc c z a lo ob s → X a lo ob → P) : P :=
  Exists.elim h fun b h => Exists.elim h fun lo h => Exists.elim h fun ob h => k b lo ob h.1 h.2.1 h.2.2
theorem thenQ {M : Model} {A : Around} {z : List (Addr × Obj)} {s : Shared} {R : α → Shared → Prop} {E : Value → Shared → Prop} (h : wpAny M A t (LQ c z rel Q) E s) (k : ∀ a s' b lo ob, rel b a → Now c z lo ob s' → Q b lo ob → R a s') : wpAny M A t R E s :=
  wpAny_mono h (fun a s' q => q.elim (k a s')) fun _ _ x => x
theorem W.mono (h : W c rel t Q X lo ob) (hQ : ∀ b lo ob, Q b lo ob → Q' b lo ob) (hX : ∀ b lo ob, X b lo ob → X' b lo ob) : W c rel t Q' X' lo ob := fun z s n =>
  wpAny_mono (h z s n) (fun a s' q => q.elim fun b lo ob h1 h2 h3 => ⟨b, lo, ob, h1, h2, hQ _ _ _ h3⟩) fun e s' q => q.elim fun a lo ob h1 h2 h3 => ⟨a, lo, ob, h1, h2, hX _ _ _ h3⟩
end

theorem NowAt.toks {c : Cx} {z : List (Addr × Obj)} {lo : Loc} {ob : Obs} {s : Shared} {m : Str → Option Value} {os frs : List (Addr × Obj)} (n : NowAt c z lo ob s m os frs) {s' : Shared} (e : s'.heap = s.heap) (hog : Og s s' := by exact ⟨rfl, rfl⟩) : NowAt c z lo ob s' m os frs :=
  ⟨e ▸ n.F, n.lr, n.rs, e ▸ n.N, n.nd, n.fm, n.ap, hog.tr n.og⟩
theorem Now.toks {c : Cx} {z : List (Addr × Obj)} {lo : Loc} {ob : Obs} {s : Shared} (n : Now c z lo ob s) {s' : Shared} (e : s'.heap = s.heap) (hog : Og s s' := by exact ⟨rfl, rfl⟩) : Now c z lo ob s' := by
  obtain ⟨m, os, frs, n⟩ := n
  exact ⟨m, os, frs, n.toks e hog⟩

end Mine
end
section
namespace Mine

noncomputable abbrev BR : Bool → Bool → Prop := fun b a => a = b
noncomputable abbrev UR : Unit → Unit → Prop := fun _ _ => True
inductive AF where
  | next | brk | cont
  | ret (v : V)
noncomputable def FR : AF → Flow → Prop
  | .next, f => f = .next
  | .brk, f => f = .brk
  | .cont, f => f = .cont
  | .ret v, f => ∃ c, f = .ret c ∧ VR v c

noncomputable def Op1 (c : Cx) (f : Value → Sem Value) (a : V) (Q : QT V) (X : QT Addr) (lo : Loc) (ob : Obs) : Prop := ∀ ca, VR a ca → W c VR (f ca) Q X lo ob
noncomputable def Op2 (c : Cx) (f : Value → Value → Sem Value) (a b : V) (Q : QT V) (X : QT Addr) (lo : Loc) (ob : Obs) : Prop := ∀ ca cb, VR a ca → VR b cb → W c VR (f ca cb) Q X lo ob
noncomputable abbrev Bin (c : Cx) (op : Operator) := Op2 c (binaryOp op)
noncomputable abbrev Inp (c : Cx) (op : Operator) := Op2 c (inplaceOp op)
noncomputable abbrev Cmp (c : Cx) (op : CmpOp) := Op2 c (compareOp op)
noncomputable abbrev Una (c : Cx) (op : UnaryOp) := Op1 c (unaryOp op)
noncomputable def Tru (c : Cx) (a : V) (Q : QT Bool) (X : QT Addr) (lo : Loc) (ob : Obs) : Prop := ∀ ca, VR a ca → W c BR (truthy ca) Q X lo ob
noncomputable def Cal (c : Cx) (f : V) (as : List V) (Q : QT V) (X : QT Addr) (lo : Loc) (ob : Obs) : Prop := ∀ cf cas, VR f cf → VRs as cas → W c VR (call cf cas) Q X lo ob
noncomputable def Sub2 (c : Cx) (value slice : Expr) (a b : V) (Q : QT V) (X : QT Addr) (lo : Loc) (ob : Obs) : Prop := ∀ ca cb, VR a ca → VR b cb → W c VR (subscriptTail value slice ca cb) Q X lo ob
noncomputable def Br (b : Bool) (P P' : Prop) : Prop := (b = true → P) ∧ (b = false → P')

section
variable {c : Cx} {lo : Loc} {ob : Obs} {X : QT Addr} {Q : QT V}
theorem LQ.mk {α β : Type} {z : List (Addr × Obj)} {rel : β → α → Prop} {Q : QT β} {a : α} {b : β} {s : Shared} (hr : rel b a) (n : Now c z lo ob s) (h : Q b lo ob) : LQ c z rel Q a s := ⟨b, lo, ob, hr, n, h⟩

theorem W_none {k : Nat} {p : Pos} (h : Q .none lo ob) : W c VR (eval (.Constant .none k p) c.env) Q X lo ob := fun z s n => (wpAny_pure (LQ.mk (rel := VR) (b := V.none) rfl n h) : wpAny _ _ (pure Value.none) _ _ _)
theorem W_bool {b : Bool} {k : Nat} {p : Pos} (h : Q (.bool b) lo ob) : W c VR (eval (.Constant (.bool b) k p) c.env) Q X lo ob := fun z s n => (wpAny_pure (LQ.mk (rel := VR) (b := V.bool b) rfl n h) : wpAny _ _ (pure (Value.bool b)) _ _ _)
theorem W_int {i : Int} {k : Nat} {p : Pos} (h : Q (.int i) lo ob) : W c VR (eval (.Constant (.int i) k p) c.env) Q X lo ob := fun z s n => (wpAny_mkInt (LQ.mk (rel := VR) (b := V.int i) ⟨_, rfl⟩ (n.toks rfl) h) : wpAny _ _ (mkInt i) _ _ _)
theorem W_str {x : Str} {l : List Nat} {k : Nat} {p : Pos} (e : x = tx l) (h : Q (.str l) lo ob) : W c VR (eval (.Constant (.str x) k p) c.env) Q X lo ob := fun z s n => by
  subst e
  exact (wpAny_mkText (LQ.mk (rel := VR) (b := V.str l) ⟨_, rfl⟩ (n.toks rfl) h) : wpAny _ _ (mkText (tx l)) _ _ _)
theorem W_bytes {x : List UInt8} {k : Nat} {p : Pos} (h : Q (.bytes (x.map (·.toNat))) lo ob) : W c VR (eval (.Constant (.bytes x) k p) c.env) Q X lo ob := fun z s n =>
  (wpAny_bind (wpAny_fresh (wpAny_pure (LQ.mk (rel := VR) (b := V.bytes (x.map (·.toNat))) ⟨_, _, rfl, by simp⟩ (n.toks rfl) h))) : wpAny _ _ (mkTextBytes x.toArray) _ _ _)

theorem Now.K {z : List (Addr × Obj)} {s : Shared} (ok : c.Ok) (n : Now c z lo ob s) : c.g.K.In s.heap := by
  refine of_gen fun _ kg => ?_
  obtain ⟨m, os, frs, n⟩ := n
  refine kg ?_
  exact ok.g.X.keeps n.F.keep

theorem W_local {x : Str} {v : V} {p : Pos} {ns : Nms} (ok : c.Ok) (hv : c.cv = none) (hns : c.ns = ns) (hx : Has ns lo x v) (h : Q v lo ob) (hd : (x == ("__debug__" : Str)) = false := by decide) : W c VR (eval (.Name x p) c.env) Q X lo ob := fun z s n => by
  subst hns
  refine of_gen fun _ kg => ?_
  obtain ⟨m, os, frs, n'⟩ := n
  obtain ⟨cv, hm, hr⟩ := n'.lr x v hx
  refine kg ?_
  have e := ok.fn hv
  refine wpAny_Name (wpAny_loadName_local (m := m) ok.kind ?_ ?_ hm (LQ.mk hr ⟨m, os, frs, n'⟩ h)) hd
  · rw [e]
    show c.fenv.scope.names.lookup x = _
    rw [ok.fns]
    exact lookup_of_mem ok.nd hx.mem
  · rw [e]; exact n'.F.ns
theorem W_comp {x : Str} {v : V} {p : Pos} {kv : List (Str × V)} {ns : Nms} (ok : c.Ok) (hv : c.cv = some kv) (hns : c.env.scope.names = ns) (hk : InN ns x .local) (hx : (x, v) ∈ kv) (h : Q v lo ob) (hd : (x == ("__debug__" : Str)) = false := by decide) : W c VR (eval (.Name x p) c.env) Q X lo ob := fun z s n => by
  subst hns
  refine of_gen fun _ kg => ?_
  obtain ⟨m, os, frs, n'⟩ := n
  obtain ⟨oC, m2, h1, h2, h3⟩ := ok.cm kv hv
  obtain ⟨cv, hm, hr⟩ := h3 _ hx
  refine kg ?_
  have hC := (n'.N _ (List.mem_append_right _ (List.mem_append_left _ (List.mem_append_left _ h1)))).1
  exact wpAny_Name (wpAny_loadName_local (m := m2) ok.kind (hk.lookup ok.nd') (h2.ns hC) hm (LQ.mk hr ⟨m, os, frs, n'⟩ h)) hd
theorem W_glob {x : Str} {v : Value} {p : Pos} {ns : Nms} (ok : c.Ok) (hns : c.env.scope.names = ns) (hk : InN ns x .globalImplicit) (hx : nsIn c.g.K mainGlobals x = some (some v)) {u : V} (hu : VR u v) (h : Q u lo ob) (hd : (x == ("__debug__" : Str)) = false := by decide) : W c VR (eval (.Name x p) c.env) Q X lo ob := fun z s n => by
  subst hns
  refine of_gen fun _ kg => ?_
  obtain ⟨m, os, frs, n'⟩ := n
  refine kg ?_
  refine Calls.Name_function_global ok.kind (hk.lookup ok.nd') (Calls.loadGlobal_global (mg := c.g.mg) ?_ (mg_of ok.g.X ok.g.T.g hx) (LQ.mk hu ⟨m, os, frs, n'⟩ h)) hd
  rw [ok.glob]; exact ok.g.T.g.keeps n'.F.keep
theorem W_blt {x : Str} {v : Value} {p : Pos} {ns : Nms} (ok : c.Ok) (hns : c.env.scope.names = ns) (hk : InN ns x .globalImplicit) (hx : nsIn c.g.K mainGlobals x = some none) (hb : bootBuiltins x = some v) {u : V} (hu : VR u v) (h : Q u lo ob) (hn : x ≠ "__name__" := by decide) (hd : (x == ("__debug__" : Str)) = false := by decide) : W c VR (eval (.Name x p) c.env) Q X lo ob := fun z s n => by
  subst hns
  refine of_gen fun _ kg => ?_
  obtain ⟨m, os, frs, n'⟩ := n
  refine kg ?_
  refine Calls.Name_function_global ok.kind (hk.lookup ok.nd') (Calls.loadGlobal_builtin (mg := c.g.mg) (mb := c.g.mb) ?_ (mg_none_of ok.g.X ok.g.T.g hx) ?_ ((ok.g.T.builtins x hn).trans hb) (LQ.mk hu ⟨m, os, frs, n'⟩ h)) hd
  · rw [ok.glob]; exact ok.g.T.g.keeps n'.F.keep
  · rw [ok.blt]; exact ok.g.T.b.keeps n'.F.keep

theorem W_BinOp {l r : Expr} {op : Operator} {p : Pos} (h : W c VR (eval l c.env) (fun a lo ob => W c VR (eval r c.env) (fun b lo ob => Bin c op a b Q X lo ob) X lo ob) X lo ob) : W c VR (eval (.BinOp l op r p) c.env) Q X lo ob := fun z s n =>
  wpAny_BinOp (thenQ (h z s n) fun ca s' a lo ob ha n h => thenQ (h z s' n) fun cb s' b lo ob hb n h => h ca cb ha hb z s' n)
theorem W_Compare {l r : Expr} {op : CmpOp} {p : Pos} (h : W c VR (eval l c.env) (fun a lo ob => W c VR (eval r c.env) (fun b lo ob => Cmp c op a b Q X lo ob) X lo ob) X lo ob) (hm : behindInMarks op r = false := by with_unfolding_all rfl) : W c VR (eval (.Compare l [op] [r] p) c.env) Q X lo ob := fun z s n =>
  wpAny_Compare1 (thenQ (h z s n) fun ca s' a lo ob ha n h => thenQ (h z s' n) fun cb s' b lo ob hb n h => h ca cb ha hb z s' n) hm
theorem W_Unary {x : Expr} {op : UnaryOp} {p : Pos} (h : W c VR (eval x c.env) (fun a lo ob => Una c op a Q X lo ob) X lo ob) : W c VR (eval (.UnaryOp op x p) c.env) Q X lo ob := fun z s n =>
  (wpAny_bind (thenQ (h z s n) fun ca s' a lo ob ha n h => wpAny_bind (wpAny_standAt (wpAny_holding (h ca ha z s' n)))) : wpAny _ _ (eval x c.env >>= fun v => standAt p >>= fun _ => holding [v] (unaryOp op v)) _ _ _)

noncomputable abbrev Tst (c : Cx) (e : Expr) (Q : QT Bool) (X : QT Addr) (lo : Loc) (ob : Obs) : Prop := W c BR (isTrue e c.env (eval e c.env)) Q X lo ob
theorem W_IfExp {t a b : Expr} {p : Pos} (h : Tst c t (fun v lo ob => Br v (W c VR (eval a c.env) Q X lo ob) (W c VR (eval b c.env) Q X lo ob)) X lo ob) : W c VR (eval (.IfExp t a b p) c.env) Q X lo ob := fun z s n => by
  show wpAny _ _ (isTrue t c.env (eval t c.env) >>= fun v => if v = true then eval a c.env else eval b c.env) _ _ _
  refine wpAny_bind (thenQ (h z s n) fun cv s' v lo ob hv n h => ?_)
  subst hv
  cases cv
  · exact h.2 rfl z s' n
  · exact h.1 rfl z s' n
variable {QB : QT Bool}
theorem T_Compare {l r : Expr} {op : CmpOp} {p : Pos} (h : W c VR (eval l c.env) (fun a lo ob => W c VR (eval r c.env) (fun b lo ob => Cmp c op a b (fun v lo ob => Tru c v QB X lo ob) X lo ob) X lo ob) X lo ob) (hm : behindInMarks op r = false := by with_unfolding_all rfl) : Tst c (.Compare l [op] [r] p) QB X lo ob := fun z s n =>
  wpAny_isTrue_Compare1 (thenQ (h z s n) fun ca s' a lo ob ha n h => thenQ (h z s' n) fun cb s' b lo ob hb n h => thenQ (h ca cb ha hb z s' n) fun cv s' v lo ob hv n h => h cv hv z s' n) hm
theorem T_Not {x : Expr} {p : Pos} (h : Tst c x (fun b lo ob => QB (!b) lo ob) X lo ob) : Tst c (.UnaryOp .Not x p) QB X lo ob := fun z s n =>
  wpAny_isTrue_Not (thenQ (h z s n) fun cv s' v lo ob hv n h => by subst hv; exact ⟨_, lo, ob, rfl, n, h⟩)
theorem T_plain {e : Expr} (he : isTrue e c.env (eval e c.env) = (do let v ← eval e c.env; standAt e.pos; holding [v] (truthy v)) := by rfl) (h : W c VR (eval e c.env) (fun v lo ob => Tru c v QB X lo ob) X lo ob) : Tst c e QB X lo ob := fun z s n => by
  rw [he]
  exact wpAny_bind (thenQ (h z s n) fun ca s' a lo ob ha n h => wpAny_bind (wpAny_standAt (wpAny_holding (h ca ha z s' n))))
noncomputable def TstAll (c : Cx) (op : BoolOp) : List Expr → QT Bool → QT Addr → Loc → Obs → Prop
  | [], Q, _, lo, ob => Q (op == .And) lo ob
  | e :: r, Q, X, lo, ob => Tst c e (fun v lo ob => Br v (if op == .And then TstAll c op r Q X lo ob else Q true lo ob) (if op == .And then Q false lo ob else TstAll c op r Q X lo ob)) X lo ob
theorem T_all {op : BoolOp} : ∀ {es : List Expr} {lo : Loc} {ob : Obs}, TstAll c op es QB X lo ob → W c BR (allTrue op es c.env) QB X lo ob
  | [], lo, ob, h => fun z s n => (wpAny_pure (LQ.mk (rel := BR) (b := (op == .And)) rfl n h) : wpAny _ _ (pure (op == .And)) _ _ _)
  | e :: r, lo, ob, h => fun z s n => by
    show wpAny _ _ (isTrue e c.env (eval e c.env) >>= fun v => match op, v with | .And, false => pure false | .Or, true => pure true | _, _ => allTrue op r c.env) _ _ _
    refine wpAny_bind (thenQ (h z s n) fun cv s' v lo ob hv n h => ?_)
    subst hv
    cases op <;> cases cv
    · exact wpAny_pure (LQ.mk (rel := BR) (b := false) rfl n (h.2 rfl))
    · exact T_all (h.1 rfl) z s' n
    · exact T_all (h.2 rfl) z s' n
    · exact wpAny_pure (LQ.mk (rel := BR) (b := true) rfl n (h.1 rfl))
theorem T_BoolOp {op : BoolOp} {es : List Expr} {p : Pos} (h : TstAll c op es QB X lo ob) : Tst c (.BoolOp op es p) QB X lo ob := T_all h

noncomputable def ValAll (c : Cx) (op : BoolOp) : List Expr → QT V → QT Addr → Loc → Obs → Prop
  | [], _, _, _, _ => False
  | [e], Q, X, lo, ob => W c VR (eval e c.env) Q X lo ob
  | e :: r, Q, X, lo, ob => W c VR (eval e c.env) (fun v lo ob => Tru c v (fun b lo ob => Br b (if op == .And then ValAll c op r Q X lo ob else Q v lo ob) (if op == .And then Q v lo ob else ValAll c op r Q X lo ob)) X lo ob) X lo ob
theorem W_valAll {op : BoolOp} {p : Pos} : ∀ {es : List Expr} {lo : Loc} {ob : Obs}, ValAll c op es Q X lo ob → W c VR (boolOp p op (evalEach es c.env)) Q X lo ob
  | [], _, _, h => h.elim
  | [e], lo, ob, h => h
  | e :: e' :: r, lo, ob, h => fun z s n => by
    show wpAny _ _ (eval e c.env >>= fun v => standAt p >>= fun _ => holding [v] (truthy v) >>= fun t => match op, t with | .And, false => pure v | .Or, true => pure v | _, _ => boolOp p op (evalEach (e' :: r) c.env)) _ _ _
    refine wpAny_bind (thenQ (h z s n) fun ca s' a lo ob ha n h => wpAny_bind (wpAny_standAt (wpAny_bind (wpAny_holding (thenQ (h ca ha z s' n) fun cv s' v lo ob hv n h => ?_)))))
    subst hv
    cases op <;> cases cv
    · exact wpAny_pure (LQ.mk ha n (h.2 rfl))
    · exact W_valAll (h.1 rfl) z s' n
    · exact W_valAll (h.2 rfl) z s' n
    · exact wpAny_pure (LQ.mk ha n (h.1 rfl))
theorem W_BoolOp {op : BoolOp} {es : List Expr} {p : Pos} (h : ValAll c op es Q X lo ob) : W c VR (eval (.BoolOp op es p) c.env) Q X lo ob := W_valAll h

noncomputable def Args (c : Cx) : List Expr → (List V → Loc → Obs → Prop) → QT Addr → Loc → Obs → Prop
  | [], Q, _, lo, ob => Q [] lo ob
  | e :: r, Q, X, lo, ob => W c VR (eval e c.env) (fun v lo ob => Args c r (fun vs lo ob => Q (v :: vs) lo ob) X lo ob) X lo ob
noncomputable def noStar : List Expr → Bool
  | [] => true
  | .Starred _ _ :: _ => false
  | _ :: r => noStar r
theorem starEach_of : ∀ {es : List Expr} {env : Env}, noStar es = true → starEach es env = es.map fun e => (false, eval e env)
  | [], _, _ => rfl
  | e :: r, env, h => by
    cases e <;> first | (cases h; done) | (show _ :: starEach r env = _; rw [starEach_of (by exact h)]; rfl)
theorem spliced_of {p : Pos} : ∀ {es : List Expr} {lo : Loc} {ob : Obs} {QS : QT (List V)}, Args c es QS X lo ob → W c VRs (spliced (backTo p (es.map fun e => (false, eval e c.env)))) QS X lo ob
  | [], lo, ob, QS, h => fun z s n => (wpAny_pure (LQ.mk (rel := VRs) (b := []) VRs.nil n h) : wpAny _ _ (pure []) _ _ _)
  | e :: r, lo, ob, QS, h => fun z s n => by
    refine Calls.spliced_cons (thenQ (h z s n) fun ca s' a lo ob ha n h => ?_)
    exact thenQ (spliced_of h z s' n) fun cs s' vs lo ob hvs n h => ⟨_, lo, ob, .cons ha hvs, n, h⟩
end
end Mine
end
section
namespace Mine

inductive OUpd (a : Addr) (b b' : Ob) : Obs → Obs → Prop
  | head {r} : OUpd a b b' ((a, b) :: r) ((a, b') :: r)
  | tail {p r r'} : OUpd a b b' r r' → OUpd a b b' (p :: r) (p :: r')

theorem upd_app {a : Addr} {o o' : Obj} : ∀ {l l' t : List (Addr × Obj)}, (∀ p ∈ t, p.1 ≠ a) → Upd a o o' l l' → Upd a o o' (l ++ t) (l' ++ t)
  | _, _, _, ht, .head h => .head fun p hp => (List.mem_append.mp hp).elim (h p) (ht p)
  | _, _, _, ht, .tail h r => .tail h (upd_app ht r)
theorem nodup_ne {a : Addr} {r : List Addr} (h : (a :: r).Nodup) : ∀ b ∈ r, b ≠ a := fun b hb e => (List.nodup_cons.mp h).1 (e ▸ hb)
theorem ORs.upd {P : Params} {a : Addr} {b b' : Ob} {ob ob' : Obs} {os : List (Addr × Obj)} (r : ORs P ob os) (u : OUpd a b b' ob ob') : (os.map (·.1)).Nodup →
    ∃ o, obR P b o ∧ (a, o) ∈ os ∧ ∀ o', obR P b' o' → ∃ os', Upd a o o' os os' ∧ ORs P ob' os' ∧ os'.map (·.1) = os.map (·.1) := by
  induction u generalizing os with
  | head =>
    cases r with
    | cons h r => exact fun hn => ⟨_, h, .head _, fun o' ho' => ⟨_, .head fun p hp => nodup_ne hn _ (List.mem_map_of_mem hp), .cons ho' r, rfl⟩⟩
  | tail u ih =>
    cases r with
    | cons h r =>
      exact fun hn => (ih r (List.nodup_cons.mp hn).2).imp fun o q => ⟨q.1, .tail _ q.2.1, fun o' ho' => (q.2.2 o' ho').elim fun os' t => ⟨_, .tail (fun e2 => nodup_ne hn a (List.mem_map_of_mem (f := (·.1)) q.2.1) e2.symm) t.1, .cons h t.2.1, congrArg (List.cons _) t.2.2⟩⟩

section
variable {c : Cx} {z : List (Addr × Obj)} {lo : Loc} {ob : Obs} {s : Shared} {m : Str → Option Value} {os frs : List (Addr × Obj)}
theorem NowAt.frs_lt (n : NowAt c z lo ob s m os frs) : ∀ p ∈ os ++ ((c.rest ++ z) ++ frs), p.1 < s.heap.objs.size := fun p hp => Heap.lt_size (n.N p hp).1
theorem NowAt.apt (n : NowAt c z lo ob s m os frs) : ∀ p ∈ os ++ (c.rest ++ z), ∀ q ∈ frs, q.1 ≠ p.1 := fun p hp q hq e => by
  refine n.ap p.1 (List.mem_map_of_mem (f := (·.1)) hp) ?_
  rw [← sameUp_addrs n.fm.su, ← e]
  exact List.mem_map_of_mem (f := (·.1)) hq
theorem NowAt.go (n : NowAt c z lo ob s m os frs) {s' : Shared} (F : Fr c.g.hb c.L s'.heap m) (N : News c.g.hb c.L s'.heap (os ++ ((c.rest ++ z) ++ frs))) (hog : Og s s' := by exact ⟨rfl, rfl⟩) : NowAt c z lo ob s' m os frs := ⟨F, n.lr, n.rs, N, n.nd, n.fm, n.ap, hog.tr n.og⟩
theorem NowAt.add (n : NowAt c z lo ob s m os frs) {s' : Shared} {D : Addr} {o : Obj} {b : Ob} (F : Fr c.g.hb c.L s'.heap m) (N : News c.g.hb c.L s'.heap ((D, o) :: (os ++ ((c.rest ++ z) ++ frs)))) (hb : obR c.g.w.params b o)
    (hD : ∀ p ∈ os ++ ((c.rest ++ z) ++ frs), p.1 ≠ D) (hog : Og s s' := by exact ⟨rfl, rfl⟩) : NowAt c z lo ((D, b) :: ob) s' m ((D, o) :: os) frs := by
  refine ⟨F, n.lr, .cons hb n.rs, N, ?_, n.fm, ?_, hog.tr n.og⟩
  · rw [List.cons_append, List.map_cons, List.nodup_cons]
    refine ⟨fun hm => ?_, n.nd⟩
    refine of_gen fun _ kg => ?_
    obtain ⟨p, hp, e⟩ := List.mem_map.mp hm
    refine kg ?_
    exact hD p (by rw [← List.append_assoc]; exact List.mem_append_left _ hp) e
  · intro a ha hm
    rw [List.cons_append, List.map_cons] at ha
    rcases List.mem_cons.mp ha with rfl | ha
    · rw [← sameUp_addrs n.fm.su] at hm
      refine of_gen fun _ kg => ?_
      obtain ⟨p, hp, e⟩ := List.mem_map.mp hm
      refine kg ?_
      exact hD p (List.mem_append_right _ (List.mem_append_right _ hp)) e
    · exact n.ap a ha hm
theorem NowAt.push (n : NowAt c z lo ob s m os frs) {s' : Shared} {o : Obj} {b : Ob} (hb : obR c.g.w.params b o) (e : s'.heap = s.heap.push o) (hf : o.isFreed = false := by rfl) (hog : Og s s' := by exact ⟨rfl, rfl⟩) : NowAt c z lo ((s.heap.objs.size, b) :: ob) s' m ((s.heap.objs.size, o) :: os) frs := by
  refine n.add (by rw [e]; exact n.F.push _) (by rw [e]; exact n.N.push n.F _ hf) hb (fun p hp => Nat.ne_of_lt (n.frs_lt p hp)) hog
theorem nd_left {α β : Type} {a b : List (α × β)} (h : ((a ++ b).map (·.1)).Nodup) : (a.map (·.1)).Nodup := by
  rw [List.map_append] at h
  exact (List.nodup_append.mp h).1
theorem NowAt.upd (n : NowAt c z lo ob s m os frs) {a : Addr} {b b' : Ob} {ob' : Obs} (u : OUpd a b b' ob ob') :
    ∃ o, obR c.g.w.params b o ∧ (a, o) ∈ os ∧ ∀ o', obR c.g.w.params b' o' → ∃ os', Upd a o o' (os ++ ((c.rest ++ z) ++ frs)) (os' ++ ((c.rest ++ z) ++ frs)) ∧
      ∀ s' : Shared, Og s s' → Fr c.g.hb c.L s'.heap m → News c.g.hb c.L s'.heap (os' ++ ((c.rest ++ z) ++ frs)) → NowAt c z lo ob' s' m os' frs := by
  refine of_gen fun _ kg => ?_
  obtain ⟨o, h1, hm, h2⟩ := n.rs.upd u (nd_left n.nd)
  refine kg ?_
  refine ⟨o, h1, hm, fun o' ho' => ?_⟩
  refine of_gen fun _ kg => ?_
  obtain ⟨os', u', r', e⟩ := h2 o' ho'
  refine kg ?_
  have e2 : (os' ++ (c.rest ++ z)).map (·.1) = (os ++ (c.rest ++ z)).map (·.1) := by rw [List.map_append, e, ← List.map_append]
  refine ⟨os', upd_app (fun p hp => ?_) u', fun s' hog F N => ⟨F, n.lr, r', N, by rw [e2]; exact n.nd, n.fm, by rw [e2]; exact n.ap, hog.tr n.og⟩⟩
  rcases List.mem_append.mp hp with hp | hp
  · have := n.nd
    rw [List.map_append, List.nodup_append] at this
    exact fun q => this.2.2 a (List.mem_map_of_mem (f := (·.1)) hm) p.1 (List.mem_map_of_mem (f := (·.1)) hp) q.symm
  · exact n.apt (a, o) (List.mem_append_left _ hm) p hp
theorem NowAt.mem (n : NowAt c z lo ob s m os frs) {a : Addr} {b : Ob} (h : (a, b) ∈ ob) : ∃ o, (a, o) ∈ os ∧ (a, o) ∈ os ++ ((c.rest ++ z) ++ frs) ∧ s.heap.get? a = some o ∧ obR c.g.w.params b o := by
  refine of_gen fun _ kg => ?_
  obtain ⟨o, h1, h2⟩ := n.rs.mem h
  refine kg ?_
  have h3 := List.mem_append_left ((c.rest ++ z) ++ frs) h1
  exact ⟨o, h1, h3, (n.N _ h3).1, h2⟩
end


section
variable {c : Cx} {z : List (Addr × Obj)} {lo : Loc} {ob : Obs} {Q : QT V} {s : Shared}
theorem LQ.none (n : Now c z lo ob s) (h : Q .none lo ob) : LQ c z VR Q Value.none s := ⟨V.none, lo, ob, rfl, n, h⟩
theorem LQ.bool {b : Bool} (n : Now c z lo ob s) (h : Q (.bool b) lo ob) : LQ c z VR Q (.bool b) s := ⟨V.bool b, lo, ob, rfl, n, h⟩
theorem LQ.bool' {b b' : Bool} (e : b' = b) (n : Now c z lo ob s) (h : Q (.bool b) lo ob) : LQ c z VR Q (.bool b') s := ⟨V.bool b, lo, ob, by rw [e]; rfl, n, h⟩
theorem LQ.int {i : Int} {t : Tok} (n : Now c z lo ob s) (h : Q (.int i) lo ob) : LQ c z VR Q (.int i t) s := ⟨V.int i, lo, ob, ⟨_, rfl⟩, n, h⟩
theorem LQ.str {l : List Nat} {t : Tok} (n : Now c z lo ob s) (h : Q (.str l) lo ob) : LQ c z VR Q (.str (tx l) t) s := ⟨V.str l, lo, ob, ⟨_, rfl⟩, n, h⟩
theorem LQ.bytes {l : List Nat} {b : Array UInt8} {t : Tok} (e : b.toList.map (·.toNat) = l) (n : Now c z lo ob s) (h : Q (.bytes l) lo ob) : LQ c z VR Q (.bytes b t) s := ⟨V.bytes l, lo, ob, ⟨_, _, rfl, e⟩, n, h⟩
theorem LQ.b {b : Bool} {Q : QT Bool} (n : Now c z lo ob s) (h : Q b lo ob) : LQ c z BR Q b s := ⟨b, lo, ob, rfl, n, h⟩
end
section
variable {c : Cx} {lo : Loc} {ob : Obs} {X : QT Addr} {Q : QT V} {i j : Int} {a b : List Nat}
theorem add_ints (h : Q (.int (i + j)) lo ob) : Bin c .Add (.int i) (.int j) Q X lo ob := by rintro _ _ ⟨t, rfl⟩ ⟨u, rfl⟩ z s n; exact PyProof.Rows.add_int (LQ.int (n.toks rfl) h)
theorem sub_ints (h : Q (.int (i - j)) lo ob) : Bin c .Sub (.int i) (.int j) Q X lo ob := by rintro _ _ ⟨t, rfl⟩ ⟨u, rfl⟩ z s n; exact PyProof.Rows.sub_int (LQ.int (n.toks rfl) h)
theorem mod_ints (hj : j ≠ 0) (h : Q (.int (i.fmod j)) lo ob) : Bin c .Mod (.int i) (.int j) Q X lo ob := by rintro _ _ ⟨t, rfl⟩ ⟨u, rfl⟩ z s n; exact PyProof.Rows.mod_int' hj (LQ.int (n.toks rfl) h)
theorem iadd_ints (h : Q (.int (i + j)) lo ob) : Inp c .Add (.int i) (.int j) Q X lo ob := by rintro _ _ ⟨t, rfl⟩ ⟨u, rfl⟩ z s n; exact PyProof.Rows.iadd_int (LQ.int (n.toks rfl) h)
theorem lt_ints (h : Q (.bool (decide (i < j))) lo ob) : Cmp c .Lt (.int i) (.int j) Q X lo ob := by rintro _ _ ⟨t, rfl⟩ ⟨u, rfl⟩ z s n; exact PyProof.Rows.lt_int (LQ.bool (n.toks rfl) h)
theorem gt_ints (h : Q (.bool (decide (j < i))) lo ob) : Cmp c .Gt (.int i) (.int j) Q X lo ob := by rintro _ _ ⟨t, rfl⟩ ⟨u, rfl⟩ z s n; exact PyProof.Rows.gt_int (LQ.bool (n.toks rfl) h)
theorem eq_ints (h : Q (.bool (decide (i = j))) lo ob) : Cmp c .Eq (.int i) (.int j) Q X lo ob := by
  rintro _ _ ⟨t, rfl⟩ ⟨u, rfl⟩ z s n
  exact PyProof.Rows.eq_int (LQ.bool' (by by_cases q : i = j <;> simp [q]) (n.toks rfl) h)
theorem ne_ints (h : Q (.bool (decide (i ≠ j))) lo ob) : Cmp c .NotEq (.int i) (.int j) Q X lo ob := by
  rintro _ _ ⟨t, rfl⟩ ⟨u, rfl⟩ z s n
  exact PyProof.Rows.ne_int (LQ.bool' (by by_cases q : i = j <;> simp [q]) (n.toks rfl) h)
theorem neg_int (h : Q (.int (-i)) lo ob) : Una c .USub (.int i) Q X lo ob := by rintro _ ⟨t, rfl⟩ z s n; exact P.neg_int (LQ.int (n.toks rfl) h)
theorem add_strs (hz : a.length + b.length ≤ 1000000) (h : Q (.str (a ++ b)) lo ob) : Bin c .Add (.str a) (.str b) Q X lo ob := by
  rintro _ _ ⟨t, rfl⟩ ⟨u, rfl⟩ z s n; exact tx_add (by rw [sizeLine_eq]; lia) fun t k => LQ.str (n.toks rfl) h
theorem iadd_strs (hz : a.length + b.length ≤ 1000000) (h : Q (.str (a ++ b)) lo ob) : Inp c .Add (.str a) (.str b) Q X lo ob := by
  rintro _ _ ⟨t, rfl⟩ ⟨u, rfl⟩ z s n; exact tx_iadd (by rw [sizeLine_eq]; lia) fun t k => LQ.str (n.toks rfl) h
theorem eq_strs (h : Q (.bool (decide (a = b))) lo ob) : Cmp c .Eq (.str a) (.str b) Q X lo ob := by rintro _ _ ⟨t, rfl⟩ ⟨u, rfl⟩ z s n; exact eq_tx (LQ.bool n h)
theorem ne_strs (h : Q (.bool (decide (a ≠ b))) lo ob) : Cmp c .NotEq (.str a) (.str b) Q X lo ob := by rintro _ _ ⟨t, rfl⟩ ⟨u, rfl⟩ z s n; exact ne_tx (LQ.bool n h)
theorem ne_none_none (h : Q (.bool false) lo ob) : Cmp c .NotEq .none .none Q X lo ob := by rintro _ _ rfl rfl z s n; exact EqNone.ne_none_none (LQ.bool n h)
theorem isnot_str_none' (h : Q (.bool true) lo ob) : Cmp c .IsNot (.str a) .none Q X lo ob := by rintro _ _ ⟨t, rfl⟩ rfl z s n; exact isnot_str_none (LQ.bool n h)
theorem tru_bool {b : Bool} {Q : QT Bool} (h : Q b lo ob) : Tru c (.bool b) Q X lo ob := by rintro _ rfl z s n; exact wpAny_truthy_bool (LQ.b n h)
theorem tru_none {Q : QT Bool} (h : Q false lo ob) : Tru c .none Q X lo ob := by rintro _ rfl z s n; exact truthy_none (LQ.b n h)
theorem tru_str {Q : QT Bool} (hz : a.length ≤ 100000) (h : Q (decide (a ≠ [])) lo ob) : Tru c (.str a) Q X lo ob := by rintro _ ⟨t, rfl⟩ z s n; exact truthy_tx hz (LQ.b (n.toks rfl) h)
end
end Mine
end
section
namespace Mine

noncomputable def Sto (c : Cx) (x : Str) (v : V) (Q : Loc → Obs → Prop) (X : QT Addr) (lo : Loc) (ob : Obs) : Prop := ∀ cv, VR v cv → W c UR (storeName c.env x cv) (fun _ => Q) X lo ob
noncomputable def Then (c : Cx) (r : List Stmt) (Q : QT AF) (X : QT Addr) : QT AF := fun f lo ob => match f with
  | .next => W c FR (execs r c.env) Q X lo ob
  | f => Q f lo ob

section
variable {c : Cx} {lo lo' : Loc} {ob : Obs} {X : QT Addr} {Q : QT AF} {r : List Stmt}
theorem NowAt.set {z : List (Addr × Obj)} {s : Shared} {m : Str → Option Value} {os frs : List (Addr × Obj)} (n : NowAt c z lo ob s m os frs) {x : Str} {v : Option V} {cv : Option Value} {h' : Heap} {tk : Nat} (ok : c.Ok) (p : Put c.ns lo x v lo')
    (hv : ∀ u, v = some u → ∃ cu, cv = some cu ∧ VR u cu) (hn : h'.Ns c.L (fun y => if y = x then cv else m y)) (hs : Heap.SameBut c.L s.heap h') : Now c z lo' ob { s with heap := h', toks := tk } := by
  refine ⟨_, os, frs, ⟨n.F.set hn hs, fun y u hy => ?_, n.rs, n.N.set hs, n.nd, n.fm, n.ap, n.og⟩⟩
  rcases p.has ok.nd hy with ⟨rfl, hu⟩ | ⟨hne, h⟩
  · obtain ⟨cu, e, hr⟩ := hv u hu
    exact ⟨cu, by rw [if_pos rfl]; exact e, hr⟩
  · obtain ⟨cu, e, hr⟩ := n.lr y u h
    exact ⟨cu, by rw [if_neg hne]; exact e, hr⟩
theorem Sto_local {x : Str} {v : V} {ns : Nms} {Q : Loc → Obs → Prop} (ok : c.Ok) (hv : c.cv = none) (hns : c.ns = ns) (p : Put ns lo x (some v) lo') (h : Q lo' ob) : Sto c x v Q X lo ob := by
  subst hns
  rintro cv hr z s
  intro hgr28_0
  refine of_gen fun _ kg => ?_
  obtain ⟨m, os, frs, n⟩ := hgr28_0
  refine kg ?_
  have e := ok.fn hv
  refine wpAny_storeName_local (m := m) ?_ ?_ (fun h' hn hs => ⟨(), lo', ob, trivial, n.set ok p (fun u hu => ⟨cv, rfl, by cases hu; exact hr⟩) (by rw [e] at hn; exact hn) (by rw [e] at hs; exact hs), h⟩) ?_
  · rw [e]
    show c.fenv.scope.names.lookup x = _
    rw [ok.fns]
    exact lookup_of_mem ok.nd p.mem
  · rw [e]; exact n.F.ns
  · rw [ok.kind]; rfl

noncomputable def Asg (c : Cx) (tg : Expr) (v : V) (Q : Loc → Obs → Prop) (X : QT Addr) (lo : Loc) (ob : Obs) : Prop := ∀ cv, VR v cv → W c UR (assign tg c.env cv) (fun _ => Q) X lo ob
theorem asg_name {x : Str} {px : Pos} {v : V} {Q : Loc → Obs → Prop} (h : Sto c x v Q X lo ob) : Asg c (.Name x px) v Q X lo ob := fun cv hv z s n => wpAny_assign_Name (h cv hv z s n)
theorem S_nil (h : Q .next lo ob) : W c FR (execs [] c.env) Q X lo ob := fun z s n => wpAny_execs_nil ⟨AF.next, lo, ob, rfl, n, h⟩
theorem S_cons {st : Stmt} (h : W c FR (exec st c.env) (Then c r Q X) X lo ob) : W c FR (execs (st :: r) c.env) Q X lo ob := fun z s n =>
  wpAny_execs_cons (thenQ (h z s n) fun f s' g lo ob hf n h => by
    cases g with
    | next => cases hf; exact h z s' n
    | brk => cases hf; exact ⟨AF.brk, lo, ob, rfl, n, h⟩
    | cont => cases hf; exact ⟨AF.cont, lo, ob, rfl, n, h⟩
    | ret v => obtain ⟨cv, rfl, hr⟩ := hf; exact ⟨AF.ret v, lo, ob, ⟨cv, rfl, hr⟩, n, h⟩)
theorem then_next (h : W c FR (execs r c.env) Q X lo ob) : Then c r Q X .next lo ob := h
theorem then_ret {v : V} (h : Q (.ret v) lo ob) : Then c r Q X (.ret v) lo ob := h
theorem then_brk (h : Q .brk lo ob) : Then c r Q X .brk lo ob := h
theorem S_Assign {x : Str} {px pos : Pos} {e : Expr} (h : W c VR (eval e c.env) (fun v lo ob => Sto c x v (Q .next) X lo ob) X lo ob)
    (hs : swapsWith e (some (.Name x px)) pos.line c.env = pure false := by rfl) : W c FR (exec (.Assign [.Name x px] e pos) c.env) Q X lo ob := fun z s n =>
  wpAny_Assign_Name (thenQ (h z s n) fun ca s' a lo ob ha n h => thenQ (h ca ha z s' n) fun _ s' _ lo ob _ n h => ⟨AF.next, lo, ob, rfl, n, h⟩) hs
theorem S_Aug {x : Str} {px pos : Pos} {op : Operator} {e : Expr} {ns : Nms} {old : V} (ok : c.Ok) (hv : c.cv = none) (hns : c.ns = ns) (hx : Has ns lo x old) (h : W c VR (eval e c.env) (fun v lo ob => Inp c op old v (fun u lo ob => Sto c x u (Q .next) X lo ob) X lo ob) X lo ob) :
    W c FR (exec (.AugAssign (.Name x px) op e pos) c.env) Q X lo ob := fun z s n => by
  subst hns
  refine of_gen fun _ kg => ?_
  obtain ⟨m, os, frs, n'⟩ := n
  obtain ⟨co, hm, hr⟩ := n'.lr x old hx
  refine kg ?_
  have e := ok.fn hv
  refine wpAny_AugAssign_Name (wpAny_loadName_local (m := m) ok.kind ?_ ?_ hm ?_)
  · rw [e]
    show c.fenv.scope.names.lookup x = _
    rw [ok.fns]
    exact lookup_of_mem ok.nd hx.mem
  · rw [e]; exact n'.F.ns
  · exact thenQ (h z s ⟨m, os, frs, n'⟩) fun ca s' a lo ob ha n h => thenQ (h co ca hr ha z s' n) fun cu s' u lo ob hu n h => thenQ (h cu hu z s' n) fun _ s' _ lo ob _ n h => ⟨AF.next, lo, ob, rfl, n, h⟩
theorem S_If {t : Expr} {a b : List Stmt} {pos : Pos} (h : Tst c t (fun v lo ob => Br v (W c FR (execs a c.env) Q X lo ob) (W c FR (execs b c.env) Q X lo ob)) X lo ob) : W c FR (exec (.If t a b pos) c.env) Q X lo ob := fun z s n =>
  wpAny_If (thenQ (h z s n) fun cv s' v lo ob hv n h => by
    subst hv
    cases cv
    · exact h.2 rfl z s' n
    · exact h.1 rfl z s' n)
theorem S_Return {e : Expr} {pos : Pos} (h : W c VR (eval e c.env) (fun v lo ob => Q (.ret v) lo ob) X lo ob) : W c FR (exec (.Return (some e) pos) c.env) Q X lo ob := fun z s n =>
  wpAny_Return_some (thenQ (h z s n) fun ca s' a lo ob ha n h => ⟨AF.ret a, lo, ob, ⟨ca, rfl, ha⟩, n, h⟩)
theorem S_Return0 {pos : Pos} (h : Q (.ret .none) lo ob) : W c FR (exec (.Return none pos) c.env) Q X lo ob := fun z s n => wpAny_Return_none ⟨AF.ret V.none, lo, ob, ⟨_, rfl, rfl⟩, n, h⟩
theorem S_Break {pos : Pos} (h : Q .brk lo ob) : W c FR (exec (.Break pos) c.env) Q X lo ob := fun z s n => (wpAny_bind (wpAny_standAt (wpAny_pure ⟨AF.brk, lo, ob, rfl, n, h⟩)) : wpAny _ _ (standAt pos >>= fun _ => pure Flow.brk) _ _ _)
theorem inter (ok : c.Ok) : interactive c.env = false := by
  unfold interactive
  rw [ok.kind]; rfl

end
end Mine
end
section
namespace Mine

theorem ORs.perm {P : Params} {ob ob2 : Obs} (p : ob.Perm ob2) : ∀ {os : List (Addr × Obj)}, ORs P ob os → ∃ os2, ORs P ob2 os2 ∧ os.Perm os2 := by
  induction p with
  | nil => intro os h; cases h; exact ⟨[], .nil, .nil⟩
  | cons x _ ih =>
    intro os h
    cases h with
    | cons a r =>
      obtain ⟨o2, h2, p2⟩ := ih r
      exact ⟨_, .cons a h2, .cons _ p2⟩
  | swap x y l =>
    intro os h
    cases h with
    | cons a r => cases r with
      | cons b r => exact ⟨_, .cons b (.cons a r), .swap _ _ _⟩
  | trans _ _ ih1 ih2 =>
    intro os h
    obtain ⟨o2, h2, p2⟩ := ih1 h
    obtain ⟨o3, h3, p3⟩ := ih2 h2
    exact ⟨o3, h3, p2.trans p3⟩

section
variable {c : Cx} {z z' : List (Addr × Obj)} {lo : Loc} {ob ob2 : Obs} {s : Shared} {m : Str → Option Value} {os os2 frs : List (Addr × Obj)}
theorem NowAt.re (n : NowAt c z lo ob s m os frs) (h : ORs c.g.w.params ob2 os2) (p : (os ++ (c.rest ++ z)).Perm (os2 ++ (c.rest ++ z'))) : NowAt c z' lo ob2 s m os2 frs := by
  refine ⟨n.F, n.lr, h, fun q hq => n.N q ?_, (p.map _).nodup_iff.mp n.nd, n.fm, fun a ha => n.ap a ((p.map _).mem_iff.mpr ha), n.og⟩
  rw [← List.append_assoc] at hq ⊢
  rcases List.mem_append.mp hq with hq | hq
  · exact List.mem_append_left _ (p.mem_iff.mpr hq)
  · exact List.mem_append_right _ hq
theorem NowAt.perm (n : NowAt c z lo ob s m os frs) (p : ob.Perm ob2) : ∃ os2, NowAt c z lo ob2 s m os2 frs ∧ os.Perm os2 := by
  obtain ⟨os2, h2, p2⟩ := n.rs.perm p
  exact ⟨os2, n.re h2 (p2.append_right _), p2⟩
theorem Now.perm (n : Now c z lo ob s) (p : ob.Perm ob2) : Now c z lo ob2 s := by
  obtain ⟨m, os, frs, n⟩ := n
  obtain ⟨os2, n2, _⟩ := n.perm p
  exact ⟨m, os2, frs, n2⟩
theorem perm_mid {α : Type} (a b r z : List α) : (a ++ b ++ (r ++ z)).Perm (a ++ (r ++ (b ++ z))) := by
  rw [List.append_assoc]
  refine List.Perm.append_left _ ?_
  rw [← List.append_assoc, ← List.append_assoc]
  exact List.Perm.append_right _ List.perm_append_comm
theorem NowAt.out {oth : Obs} (n : NowAt c z lo (ob ++ oth) s m os frs) : ∃ o1 o2, ORs c.g.w.params oth o2 ∧ os = o1 ++ o2 ∧ NowAt c (o2 ++ z) lo ob s m o1 frs := by
  obtain ⟨o1, o2, rfl, h1, h2⟩ := n.rs.split
  exact ⟨o1, o2, h2, rfl, n.re h1 (perm_mid _ _ _ _)⟩
theorem NowAt.back {oth : Obs} {o2 : List (Addr × Obj)} (h : ORs c.g.w.params oth o2) (n : NowAt c (o2 ++ z) lo ob s m os frs) : NowAt c z lo (ob ++ oth) s m (os ++ o2) frs :=
  n.re (n.rs.append h) (perm_mid _ _ _ _).symm
theorem NowAt.drop (n : NowAt c z lo ob s m os frs) (h : ORs c.g.w.params ob2 os2) (p : List.Sublist (os2 ++ (c.rest ++ z')) (os ++ (c.rest ++ z))) : NowAt c z' lo ob2 s m os2 frs := by
  refine ⟨n.F, n.lr, h, fun q hq => n.N q ?_, n.nd.sublist (p.map _), n.fm, fun a ha => n.ap a ((p.map _).mem ha), n.og⟩
  rw [← List.append_assoc] at hq ⊢
  rcases List.mem_append.mp hq with hq | hq
  · exact List.mem_append_left _ (p.mem hq)
  · exact List.mem_append_right _ hq
theorem NowAt.less {a : List (Addr × Obj)} (n : NowAt c (a ++ z) lo ob s m os frs) : NowAt c z lo ob s m os frs :=
  n.drop n.rs (List.Sublist.append_left (List.Sublist.append_left (List.sublist_append_right _ _) _) _)
theorem Now.less {a : List (Addr × Obj)} (n : Now c (a ++ z) lo ob s) : Now c z lo ob s := by
  obtain ⟨m, os, frs, n⟩ := n
  exact ⟨m, os, frs, n.less⟩
theorem Now.at {p : Addr × Obj} (n : Now c z lo ob s) (h : p ∈ z) : s.heap.get? p.1 = some p.2 := by
  refine of_gen fun _ kg => ?_
  obtain ⟨m, os, frs, n⟩ := n
  refine kg ?_
  exact (n.N p (List.mem_append_right _ (List.mem_append_left _ (List.mem_append_right _ h)))).1
theorem TbOk.sub {as as' : List Addr} {h : Heap} {a : Addr} (t : TbOk c as h a) (hs : ∀ b ∈ as', b ∈ as) : TbOk c as' h a := by
  refine of_gen fun _ kg => ?_
  obtain ⟨oe, vs, h1, h2, h3⟩ := t
  refine kg ?_
  refine ⟨oe, vs, h1, h2, h3.imp id ?_⟩
  intro hgr74_0
  refine of_gen fun _ kg => ?_
  obtain ⟨b, ot, ts, e1, e2, e3, e4, e5, e6, e7⟩ := hgr74_0
  refine kg ?_
  exact ⟨b, ot, ts, e1, e2, e3, e4, e5, e6, fun hm => e7 (hs _ hm)⟩
theorem mem_sub4 {α β : Type} {a b r z y f : List (α × β)} (h : ∀ x ∈ z, x ∈ y) : ∀ x ∈ (a ++ ((r ++ z) ++ f)).map (·.1), x ∈ (a ++ ((r ++ y) ++ f)).map (·.1) := by
  intro x hx
  simp only [List.map_append, List.mem_append, List.mem_map] at hx ⊢
  rcases hx with h1 | (h1 | ⟨q, h1, rfl⟩) | h1
  · exact .inl h1
  · exact .inr (.inl (.inl h1))
  · exact .inr (.inl (.inr ⟨q, h _ h1, rfl⟩))
  · exact .inr (.inr h1)
theorem Exc.less {a : List (Addr × Obj)} {e : Addr} (n : Exc c (a ++ z) e lo ob s) : Exc c z e lo ob s := by
  refine of_gen fun _ kg => ?_
  obtain ⟨he, m, os, frs, n, t⟩ := n
  refine kg ?_
  refine ⟨he, m, os, frs, n.less, t.sub (mem_sub4 (b := []) fun x hx => List.mem_append_right _ hx)⟩
end

inductive Pick (p : Addr × Ob) : Obs → Obs → Prop
  | head {r} : Pick p (p :: r) r
  | tail {q r r'} : Pick p r r' → Pick p (q :: r) (q :: r')
inductive Picks : Obs → Obs → Obs → Prop
  | nil {f} : Picks f [] f
  | cons {p f f' s o} : Pick p f f' → Picks f' s o → Picks f (p :: s) o
theorem Pick.perm {p : Addr × Ob} {f f' : Obs} (h : Pick p f f') : f.Perm (p :: f') := by
  induction h with
  | head => exact .refl _
  | tail _ ih => exact (List.Perm.cons _ ih).trans (.swap _ _ _)
theorem Picks.perm {f s o : Obs} (h : Picks f s o) : f.Perm (s ++ o) := by
  induction h with
  | nil => exact .refl _
  | cons h _ ih => exact h.perm.trans (.cons _ ih)

section
variable {α β : Type} {c : Cx} {rel : β → α → Prop} {t : Sem α} {Q Q' : QT β} {X X' : QT Addr} {lo : Loc} {ob small oth : Obs}
end
end Mine
end
section
namespace Mine

inductive LoS : Loc → Loc → Prop
  | nil : LoS [] []
  | keep {x a b} : LoS a b → LoS (x :: a) (x :: b)
  | drop {x a b} : LoS a b → LoS (x :: a) (none :: b)
theorem LoS.has {a b : Loc} (h : LoS a b) : ∀ {ns : Nms} {x : Str} {v : V}, Has ns b x v → Has ns a x v := by
  induction h with
  | nil => intro ns x v g; cases g
  | keep _ ih => intro ns x v g; cases g with
    | here => exact .here
    | there g => exact .there (ih g)
  | drop _ ih => intro ns x v g; cases g with
    | there g => exact .there (ih g)
theorem LoS.refl : ∀ {a : Loc}, LoS a a
  | [] => .nil
  | _ :: _ => .keep LoS.refl
noncomputable def Wkn (P : Loc → Obs → Prop) (lo : Loc) (ob : Obs) : Prop := ∃ lo2 ob2 d, LoS lo lo2 ∧ Picks ob ob2 d ∧ P lo2 ob2
theorem Picks.all : ∀ {f : Obs}, Picks f f []
  | [] => .nil
  | _ :: _ => .cons .head Picks.all
theorem Wkn.of {P : Loc → Obs → Prop} {lo : Loc} {ob : Obs} (h : P lo ob) : Wkn P lo ob := ⟨lo, ob, [], .refl, .all, h⟩

section
variable {c : Cx} {z : List (Addr × Obj)} {lo lo2 : Loc} {ob ob2 d : Obs} {s : Shared}
theorem Now.loc (n : Now c z lo ob s) (h : LoS lo lo2) : Now c z lo2 ob s := by
  obtain ⟨m, os, frs, n⟩ := n
  exact ⟨m, os, frs, n.F, fun x v hx => n.lr x v (h.has hx), n.rs, n.N, n.nd, n.fm, n.ap, n.og⟩
theorem Now.forget (n : Now c z lo ob s) (p : Picks ob ob2 d) : Now c z lo ob2 s := by
  obtain ⟨m, os, frs, n⟩ := n.perm p.perm
  obtain ⟨o1, o2, _, rfl, n1⟩ := n.out
  exact ⟨m, o1, frs, n1.less⟩
theorem Now.wkn {P : Loc → Obs → Prop} (n : Now c z lo ob s) (h : Wkn P lo ob) : ∃ lo2 ob2, Now c z lo2 ob2 s ∧ P lo2 ob2 := by
  obtain ⟨lo2, ob2, d, h1, h2, h3⟩ := h
  exact ⟨lo2, ob2, (n.loc h1).forget h2, h3⟩
end
section
variable {α β : Type} {c : Cx} {rel : β → α → Prop} {t : Sem α} {Q : QT β} {X : QT Addr} {lo lo2 : Loc} {ob ob2 d : Obs}
theorem W.wkn (h : Wkn (W c rel t Q X) lo ob) : W c rel t Q X lo ob := fun z s n => by
  obtain ⟨lo2, ob2, n2, h⟩ := n.wkn h
  exact h z s n2
end

noncomputable def Passes (c : Cx) (X : QT Addr) : Prop := ∀ z, PassesOwn c.g.M c.B c.env (LX c z X)
theorem passes_never {c : Cx} : Passes c (fun _ _ _ => False) := fun _ _ _ q => q.elim fun _ _ _ _ _ h => h.elim

section
variable {c : Cx} {lo : Loc} {ob : Obs} {X : QT Addr} {Q : QT AF}
noncomputable def WhileQ (c : Cx) (I : Nat → Loc → Obs → Prop) (n : Nat) (Q : QT AF) : QT AF := fun f lo ob => match f with
  | .brk => Q .next lo ob
  | .ret v => Q (.ret v) lo ob
  | _ => Wkn (fun lo ob => ∃ k, k < n ∧ I k lo ob) lo ob
theorem S_While {t : Expr} {body : List Stmt} {pos : Pos} (I : Nat → Loc → Obs → Prop) (hE : Passes c X) (h0 : Wkn (fun lo ob => ∃ n, I n lo ob) lo ob)
    (turn : ∀ n lo ob, I n lo ob → Tst c t (fun b lo ob => Br b (W c FR (execs body c.env) (WhileQ c I n Q) X lo ob) (Q .next lo ob)) X lo ob) : W c FR (exec (.While t body [] pos) c.env) Q X lo ob := by
  intro z s n
  obtain ⟨lo1, ob1, n1, n₀, h1⟩ := n.wkn h0
  refine wpAny_While (codeAny_whileLoop (fun k s' => ∃ lo ob, I k lo ob ∧ Now c z lo ob s') (fun k s' hI => ?_) n₀ ⟨lo1, ob1, h1, n1⟩)
  obtain ⟨lo2, ob2, h2, n2⟩ := hI
  refine wpAny_mono (turn k lo2 ob2 h2 z s' n2) (fun b s₂ hb => ?_) (hE z)
  obtain ⟨b', lo3, ob3, rfl, n3, h3⟩ := hb
  cases b with
  | false =>
    simp only [Bool.false_eq_true, if_false]
    exact wpAny_execs_nil ⟨AF.next, lo3, ob3, rfl, n3, h3.2 rfl⟩
  | true =>
    simp only [if_true]
    refine wpAny_mono (h3.1 rfl z s₂ n3) (fun f s₃ hf => ?_) (hE z)
    obtain ⟨g, lo4, ob4, hg, n4, h4⟩ := hf
    cases g with
    | next => cases hg; obtain ⟨lo5, ob5, n5, j, hj, h5⟩ := n4.wkn h4; exact ⟨j, hj, lo5, ob5, h5, n5⟩
    | cont => cases hg; obtain ⟨lo5, ob5, n5, j, hj, h5⟩ := n4.wkn h4; exact ⟨j, hj, lo5, ob5, h5, n5⟩
    | brk => cases hg; exact ⟨AF.next, lo4, ob4, rfl, n4, h4⟩
    | ret v => obtain ⟨cv, rfl, hr⟩ := hg; exact ⟨AF.ret v, lo4, ob4, ⟨cv, rfl, hr⟩, n4, h4⟩

noncomputable def ForW (c : Cx) (tg : Expr) (body : List Stmt) (Q : QT AF) (X : QT Addr) : List V → Loc → Obs → Prop
  | [], lo, ob => Q .next lo ob
  | v :: vs, lo, ob => Asg c tg v (fun lo ob => W c FR (execs body c.env) (fun f lo ob => match f with
      | .brk => Q .next lo ob
      | .ret v => Q (.ret v) lo ob
      | _ => Wkn (ForW c tg body Q X vs) lo ob) X lo ob) X lo ob
noncomputable def GoesOn (c : Cx) (tg : Expr) (I : Addr) (St : Nat → Heap → Prop) : Prop := ∀ i v (s : Shared) (Q : Unit → Shared → Prop) (E : Value → Shared → Prop), St (i + 1) s.heap → Q () s → wpAny c.g.M c.B (letOwnedTupleGo tg (.ref I) v) Q E s
theorem own_go {M : Model} {A : Around} {E : Value → Shared → Prop} {s : Shared} {tg : Expr} {I a : Addr} {o : Obj} {T : String} {Q : Unit → Shared → Prop} (ho : s.heap.get? I = some o) (hc : o.cls = .type T) (hT : ["enumerate", "zip", "dict_itemiterator", "dict_reverseitemiterator", "odict_iterator", "itertools.zip_longest", "itertools.pairwise"].contains T = false) (hQ : Q () s) {t : Sem Unit} {f : Obj → Sem Unit}
    (ht : t = (load I >>= f)) (hf : ∀ d w l, f ⟨.type T, d, w, l⟩ = pure ()) : wpAny M A t Q E s := by
  rw [ht]
  refine wpAny_bind (wpAny_load ho ?_)
  obtain ⟨oc, od, w, l⟩ := o
  obtain rfl : oc = _ := hc
  rw [hf]
  exact wpAny_pure hQ
theorem goesOn_cls {c : Cx} {tg : Expr} {I : Addr} {St : Nat → Heap → Prop} {T : String} (hst : ∀ i h, St i h → ∃ o, h.get? I = some o ∧ o.cls = .type T) (hT : ["enumerate", "zip", "dict_itemiterator", "dict_reverseitemiterator", "odict_iterator", "itertools.zip_longest", "itertools.pairwise"].contains T = false := by decide) : GoesOn c tg I St := by
  intro i v s Q E st hQ
  obtain ⟨o, ho, hc⟩ := hst _ _ st
  cases tg with
  | Tuple e k p =>
    cases v with
    | ref a =>
      refine own_go (t := letOwnedTupleGo (.Tuple e k p) (.ref I) (.ref a)) (a := a) (tg := .Tuple e k p) ho hc hT hQ rfl fun d w l => ?_
      cases w with
      | fields vs => exact if_neg (by rw [hT]; exact Bool.false_ne_true)
      | _ => rfl
    | _ => exact wpAny_pure hQ
  | List e k =>
    cases v with
    | ref a =>
      refine own_go (t := letOwnedTupleGo (.List e k) (.ref I) (.ref a)) (a := a) (tg := .List e k) ho hc hT hQ rfl fun d w l => ?_
      cases w with
      | fields vs => exact if_neg (by rw [hT]; exact Bool.false_ne_true)
      | _ => rfl
    | _ => exact wpAny_pure hQ
  | _ => exact wpAny_pure hQ
structure IterOK (c : Cx) (z : List (Addr × Obj)) (items : List V) (I : Addr) (St : Nat → Heap → Prop) : Prop where
  wk : ∃ fp P, Walks c.g.prog c.g.w c.B I fp [I] items.length P St ∧ (∀ i v, i < items.length → P i v → ∃ u, items[i]? = some u ∧ VR u v) ∧ (∀ b ∈ fp, b = I ∨ (∃ o, (b, o) ∈ z) ∨ ∃ o, c.g.hb.get? b = some o)
  has : ∀ i h, St i h → ∃ o, h.get? I = some o

theorem Now.swapI {z : List (Addr × Obj)} {s s' : Shared} {I : Addr} {oI oI' : Obj} (n : Now c ((I, oI) :: z) lo ob s) (hk : ∀ b o, b ∉ [I] → s.heap.get? b = some o → s'.heap.get? b = some o) (hI : s'.heap.get? I = some oI') (hog : Og s s' := by exact ⟨rfl, rfl⟩) : Now c ((I, oI') :: z) lo ob s' := by
  obtain ⟨m, os, frs, n⟩ := n
  have hz := n.N (I, oI) (List.mem_append_right _ (List.mem_append_left _ (List.mem_append_right _ (.head _))))
  have e : (os ++ (c.rest ++ (I, oI') :: z)).map (·.1) = (os ++ (c.rest ++ (I, oI) :: z)).map (·.1) := by simp
  have hne : ∀ p ∈ os ++ (c.rest ++ z), p.1 ≠ I := by
    have hnd := n.nd
    have p : (os ++ (c.rest ++ (I, oI) :: z)).Perm ((I, oI) :: (os ++ (c.rest ++ z))) := by
      rw [← List.append_assoc, ← List.append_assoc]
      exact List.perm_middle
    have := (p.map (·.1)).nodup_iff.mp hnd
    rw [List.map_cons] at this
    exact fun q hq => nodup_ne this _ (List.mem_map_of_mem hq)
  have hfr : ∀ p ∈ frs, p.1 ≠ I := n.apt (I, oI) (List.mem_append_right _ (List.mem_append_right _ (.head _)))
  have hL : c.L ≠ I := Ne.symm hz.2.1
  refine ⟨m, os, frs, ⟨⟨n.F.ns.at' fun o e => hk _ o (by simpa using hL) e, fun b o e => hk b o (fun hm => ?_) (n.F.keep b o e), n.F.above⟩, n.lr, n.rs, fun p hp => ?_, e ▸ n.nd, n.fm, e ▸ n.ap, hog.tr n.og⟩⟩
  · rw [List.mem_singleton.mp hm, hz.2.2] at e; cases e
  · have old : ∀ p, p.1 ≠ I → p ∈ os ++ ((c.rest ++ (I, oI) :: z) ++ frs) → s'.heap.get? p.1 = some p.2 ∧ p.1 ≠ c.L ∧ c.g.hb.get? p.1 = none := fun p h1 h2 => ⟨hk _ _ (by simpa using h1) (n.N p h2).1, (n.N p h2).2⟩
    simp only [List.mem_append, List.mem_cons] at hp
    rcases hp with h | (h | rfl | h) | h
    · exact old p (hne p (by simp [h])) (by simp [h])
    · exact old p (hne p (by simp [h])) (by simp [h])
    · exact ⟨hI, hz.2⟩
    · exact old p (hne p (by simp [h])) (by simp [h])
    · exact old p (hfr p h) (by simp [h])
theorem IterOK.keep {z : List (Addr × Obj)} {items : List V} {I : Addr} {oI : Obj} {St : Nat → Heap → Prop} (K : IterOK c z items I St) {lo' : Loc} {ob' : Obs} {s s' : Shared} {i : Nat} (n : Now c ((I, oI) :: z) lo ob s) (n' : Now c ((I, oI) :: z) lo' ob' s') (h : St i s.heap) : St i s'.heap := by
  obtain ⟨⟨fp, P, wk, _, hf⟩, _⟩ := K
  refine wk.frame i _ _ h fun b hb o e => ?_
  rcases hf b hb with rfl | ⟨o', ho'⟩ | ⟨o', ho'⟩
  · have h1 : s.heap.get? b = some oI := n.at (p := (b, oI)) (.head _)
    have h2 : s'.heap.get? b = some oI := n'.at (p := (b, oI)) (.head _)
    rw [h1] at e; cases e; exact h2
  · have h1 : s.heap.get? b = some o' := n.at (p := (b, o')) (.tail _ ho')
    have h2 : s'.heap.get? b = some o' := n'.at (p := (b, o')) (.tail _ ho')
    rw [h1] at e; cases e; exact h2
  · obtain ⟨_, _, _, n1⟩ := n
    obtain ⟨_, _, _, n2⟩ := n'
    have h1 := n1.F.keep b o' ho'
    rw [h1] at e; cases e; exact n2.F.keep _ _ ho'

theorem Now.dropI {z : List (Addr × Obj)} {s s' : Shared} {I : Addr} {oI : Obj} (n : Now c ((I, oI) :: z) lo ob s) (hk : ∀ b o, b ∉ [I] → s.heap.get? b = some o → s'.heap.get? b = some o) (hog : Og s s' := by exact ⟨rfl, rfl⟩) : Now c z lo ob s' := by
  obtain ⟨m, os, frs, n1⟩ := n
  have hz := n1.N (I, oI) (List.mem_append_right _ (List.mem_append_left _ (List.mem_append_right _ (.head _))))
  have n2 := NowAt.less (a := [(I, oI)]) n1
  have hne : ∀ p ∈ os ++ (c.rest ++ z), p.1 ≠ I := by
    have p : (os ++ (c.rest ++ (I, oI) :: z)).Perm ((I, oI) :: (os ++ (c.rest ++ z))) := by
      rw [← List.append_assoc, ← List.append_assoc]
      exact List.perm_middle
    have := (p.map (·.1)).nodup_iff.mp n1.nd
    rw [List.map_cons] at this
    exact fun q hq => nodup_ne this _ (List.mem_map_of_mem hq)
  have hfr : ∀ p ∈ frs, p.1 ≠ I := n1.apt (I, oI) (List.mem_append_right _ (List.mem_append_right _ (.head _)))
  have hL : c.L ≠ I := Ne.symm hz.2.1
  refine ⟨m, os, frs, ⟨⟨n2.F.ns.at' fun o e => hk _ o (by simpa using hL) e, fun b o e => hk b o (fun hm => ?_) (n2.F.keep b o e), n2.F.above⟩, n2.lr, n2.rs, fun p hp => ⟨hk _ _ ?_ (n2.N p hp).1, (n2.N p hp).2⟩, n2.nd, n2.fm, n2.ap, hog.tr n2.og⟩⟩
  · rw [List.mem_singleton.mp hm, hz.2.2] at e; cases e
  · rw [List.mem_singleton]
    simp only [List.mem_append] at hp
    rcases hp with h | (h | h) | h
    · exact hne p (by simp [h])
    · exact hne p (by simp [h])
    · exact hne p (by simp [h])
    · exact hfr p h

inductive ForI (c : Cx) (z : List (Addr × Obj)) (tg : Expr) (body : List Stmt) (Q : QT AF) (X : QT Addr) (items : List V) (St : Nat → Heap → Prop) (I : Addr) : Nat → Shared → Prop
  | mk {i : Nat} {lo : Loc} {ob : Obs} {oI : Obj} {s : Shared} (hi : i ≤ items.length) (st : St i s.heap) (n : Now c ((I, oI) :: z) lo ob s) (h : ForW c tg body Q X (items.drop i) lo ob) : ForI c z tg body Q X items St I (items.length + 1 - i) s
theorem for_loop {tg : Expr} {body : List Stmt} {z : List (Addr × Obj)} {items : List V} {I : Addr} {oI : Obj} {St : Nat → Heap → Prop} (K : IterOK c z items I St) (hgo : GoesOn c tg I St) (hE : Passes c X) {s : Shared}
    (hst : St 0 s.heap) (n : Now c ((I, oI) :: z) lo ob s) (h : ForW c tg body Q X items lo ob) :
    codeAny c.g.M c.B (.forLoop tg (.ref I) body [] c.env) (fun r s' => match r with | .ok f => LQ c z FR Q f s' | .error e => cameBackBy c.g.M c.B c.env (LX c z X) e s') s := by
  obtain ⟨fp, P, wk, hP, hf⟩ := K.wk
  have hX : ∀ {oI : Obj} e s', LX c ((I, oI) :: z) X e s' → LX c z X e s' := fun e s' q => q.elim fun a lo ob he hx hX => ⟨a, lo, ob, he, Exc.less (a := [_]) hx, hX⟩
  have hX2 : ∀ {oI : Obj} e s', LX c ((I, oI) :: z) X e s' → notedBy c.g.M c.B c.env (fun e s' => cameBackBy c.g.M c.B c.env (LX c z X) e s') e s' := fun e s' hx => hE z e s' (hX e s' hx)
  refine codeAny_forLoop_any (ForI c z tg body Q X items St I) ?_ (items.length + 1) (.mk (i := 0) (Nat.zero_le _) hst n h)
  rintro k s1 @⟨i, lo1, ob1, oI1, _, hi, st1, n1, h1⟩
  by_cases hlt : i < items.length
  · refine wk.item i s1 _ _ hlt st1 fun v h' tk hPv st2 hk => ?_
    obtain ⟨u, hu, hr⟩ := hP i v hlt hPv
    obtain ⟨oI2, hI2⟩ := K.has _ _ st2
    have n2 : Now c ((I, oI2) :: z) lo1 ob1 { s1 with heap := h', toks := tk } := n1.swapI hk hI2
    have e : items.drop i = u :: items.drop (i + 1) := by
      rw [List.drop_eq_getElem_cons hlt]
      congr 1
      rw [List.getElem?_eq_getElem hlt] at hu
      exact Option.some.inj hu
    rw [e] at h1
    refine hgo _ _ _ _ _ st2 ?_
    refine (wpAny_mono (h1 v hr _ _ n2) (fun _ s3 q => q.elim fun _ lo3 ob3 _ n3 h3 => ?_) hX2)
    have st3 := K.keep n2 n3 st2
    refine wpAny_mono (h3 _ s3 n3) (fun f s4 q => q.elim fun g lo4 ob4 hg n4 h4 => ?_) hX2
    have st4 := K.keep n3 n4 st3
    cases g with
    | next => cases hg; obtain ⟨lo5, ob5, n5, h5⟩ := n4.wkn h4; exact ⟨_, Nat.sub_lt_sub_left (Nat.lt_succ_of_lt hlt) (Nat.lt_succ_self i), .mk hlt st4 n5 h5⟩
    | cont => cases hg; obtain ⟨lo5, ob5, n5, h5⟩ := n4.wkn h4; exact ⟨_, Nat.sub_lt_sub_left (Nat.lt_succ_of_lt hlt) (Nat.lt_succ_self i), .mk hlt st4 n5 h5⟩
    | brk => cases hg; exact ⟨AF.next, lo4, ob4, rfl, Now.less (a := [_]) n4, h4⟩
    | ret v => obtain ⟨cv, rfl, hr⟩ := hg; exact ⟨AF.ret v, lo4, ob4, ⟨cv, rfl, hr⟩, Now.less (a := [_]) n4, h4⟩
  · have e : i = items.length := Nat.le_antisymm hi (Nat.not_lt.mp hlt)
    subst e
    rw [List.drop_length] at h1
    refine wk.done s1 _ _ st1 fun h' tk hk => wpAny_execs_nil ?_
    exact ⟨AF.next, lo1, ob1, rfl, n1.dropI (s' := { s1 with heap := h', toks := tk }) hk, h1⟩
end
end Mine
end
section
namespace Mine

noncomputable def ForIn (c : Cx) (v : V) (tg : Expr) (body : List Stmt) (Q : QT AF) (X : QT Addr) (lo : Loc) (ob : Obs) : Prop :=
  ∀ z s cv, VR v cv → Now c z lo ob s → wpAny c.g.M c.B (pyIter cv) (fun it s₂ => codeAny c.g.M c.B (.forLoop tg it body [] c.env) (fun r s' => match r with | .ok f => LQ c z FR Q f s' | .error e => cameBackBy c.g.M c.B c.env (LX c z X) e s') s₂) (LX c z X) s

section
variable {c : Cx} {lo : Loc} {ob oth : Obs} {X : QT Addr} {Q : QT AF} {tg : Expr} {body : List Stmt} {a : Addr} {vs : List V}
theorem S_For {iter : Expr} {pos : Pos} (h : W c VR (eval iter c.env) (fun v lo ob => ForIn c v tg body Q X lo ob) X lo ob) (hs : ∀ x, foldedSetIterable iter c.env x = pure x := by intro _; rfl) :
    W c FR (exec (.For tg iter body [] pos) c.env) Q X lo ob := fun z s n =>
  wpAny_For (thenQ (h z s n) fun cv s' v lo ob hv n h => h z s' cv hv n) hs

theorem NowAt.pushI {z : List (Addr × Obj)} {s : Shared} {m : Str → Option Value} {os frs : List (Addr × Obj)} (n : NowAt c z lo ob s m os frs) {o : Obj} (hf : o.isFreed = false := by rfl) : Now c ((s.heap.objs.size, o) :: z) lo ob { s with heap := s.heap.push o } := by
  have n2 : NowAt c z lo ((s.heap.objs.size, Ob.raw o) :: ob) { s with heap := s.heap.push o } m ((s.heap.objs.size, o) :: os) frs := n.push (b := .raw o) rfl rfl hf
  obtain ⟨o1, o2, h2, e, n3⟩ := (n2.re (ob2 := ob ++ [(s.heap.objs.size, Ob.raw o)]) (os2 := os ++ [(s.heap.objs.size, o)]) (z' := z) (n.rs.append (.cons rfl .nil)) (by
    rw [List.append_assoc]
    exact (List.perm_middle (l₁ := os)).symm)).out
  cases h2 with
  | cons h2 h3 =>
    cases h3
    obtain ⟨e1, e2⟩ := List.append_inj' e rfl
    cases e2
    cases h2
    exact ⟨m, o1, frs, n3⟩

theorem back_LQ {z o2 : List (Addr × Obj)} {src : Obs} (h2 : ORs c.g.w.params src o2) {f : Flow} {s : Shared} (h : LQ c (o2 ++ z) FR (fun f lo ob => Q f lo (ob ++ src)) f s) : LQ c z FR Q f s := by
  obtain ⟨b, lo, ob, hr, ⟨m, os, frs, n⟩, hq⟩ := h
  exact ⟨b, lo, _, hr, ⟨m, _, frs, n.back h2⟩, hq⟩
theorem back_LX {z o2 : List (Addr × Obj)} {src : Obs} (h2 : ORs c.g.w.params src o2) {e : Value} {s : Shared} (h : LX c (o2 ++ z) (fun a lo ob => X a lo (ob ++ src)) e s) : LX c z X e s := by
  refine of_gen fun _ kg => ?_
  obtain ⟨a, lo, ob, rfl, ⟨⟨k, d, r, hm⟩, m, os, frs, n, t⟩, hq⟩ := h
  refine kg ?_
  refine ⟨a, lo, _, rfl, ⟨⟨k, d, r, List.mem_append_left _ hm⟩, m, _, frs, n.back h2, t.sub fun b hb => ?_⟩, hq⟩
  simp only [List.map_append, List.mem_append] at hb ⊢
  rcases hb with (h | h) | (h | h) | h
  · exact .inl h
  · exact .inr (.inl (.inr (.inl h)))
  · exact .inr (.inl (.inl h))
  · exact .inr (.inl (.inr (.inr h)))
  · exact .inr (.inr h)
theorem cameBack_mono {M : Model} {A : Around} {env : Env} {E E' : Value → Shared → Prop} (h : ∀ e s, E e s → E' e s) {e : Value} {s : Shared} (x : cameBackBy M A env E e s) : cameBackBy M A env E' e s :=
  wpAny_mono x (fun _ s' y => h _ _ y) fun _ s' y => h _ _ y

theorem For_tup (hh : c.B.handled = none) (hE : Passes c (fun e lo ob => X e lo (ob ++ [(a, .tup vs)]))) (p : Picks ob [(a, .tup vs)] oth) (h : Wkn (ForW c tg body (fun f lo ob => Q f lo (ob ++ [(a, .tup vs)])) (fun e lo ob => X e lo (ob ++ [(a, .tup vs)])) vs) lo oth) :
    ForIn c (.ref a) tg body Q X lo ob := by
  rintro z s _ rfl n
  refine of_gen fun _ kg => ?_
  obtain ⟨m, os, frs, n⟩ := n.perm (p.perm.trans List.perm_append_comm)
  obtain ⟨o1, o2, h2, rfl, n1⟩ := n.out
  refine kg ?_
  have h2' := h2
  cases h2 with
  | cons h2 h3 =>
    rename_i o os'
    cases h3
    refine of_gen fun _ kg => ?_
    obtain ⟨hc, cs, k, hd, hr⟩ := h2
    refine kg ?_
    have ha : s.heap.get? a = some o := Now.at ⟨m, o1, frs, n1⟩ (p := (a, o)) (.head _)
    have hl : s.heap.IsTuple a cs.toArray := ⟨_, ha, hc, _, hd⟩
    have hlt := Heap.lt_size ha
    refine wpAny_pyIter_tuple hl ?_
    have n2 := n1.pushI (o := { cls := .type "tuple_iterator", data := .fields #[.ref a, .int 0 0] })
    refine of_gen fun _ kg => ?_
    obtain ⟨lo2, ob2, n3, h3⟩ := n2.wkn h
    refine kg ?_
    refine codeAny_mono (for_loop (St := fun i h => h.IsTupleIter s.heap.objs.size a i ∧ h.IsTuple a cs.toArray) ⟨⟨[s.heap.objs.size, a], fun i v => cs.toArray[i]? = some v, ?_, ?_, ?_⟩, ?_⟩ (goesOn_cls (T := "tuple_iterator") fun i h st => by obtain ⟨⟨o, ho, hc, _⟩, _⟩ := st; exact ⟨o, ho, hc⟩) hE ⟨⟨_, Heap.get?_push_size _ rfl, rfl, rfl⟩, hl.push _⟩ n3 h3) ?_
    · have := Walks.tuple (prog := c.g.prog) (w := c.g.w) hh s.heap.objs.size a (Nat.ne_of_lt hlt) cs.toArray
      rw [show vs.length = cs.toArray.size from by simp [hr.length]]
      exact this
    · intro i v hi hv
      obtain ⟨u, hu, hr'⟩ := hr.get' i v (by simpa using hv)
      exact ⟨u, hu, hr'⟩
    · intro b hb
      rcases List.mem_cons.mp hb with e | hb
      · exact .inl e
      · rw [List.mem_singleton.mp hb]; exact .inr (.inl ⟨_, .head _⟩)
    · rintro i h ⟨⟨o, ho, _⟩, _⟩; exact ⟨o, ho⟩
    · intro r s' hq
      cases r with
      | ok f => exact back_LQ h2' hq
      | error e => exact cameBack_mono (fun e s x => back_LX h2' x) hq

theorem For_range {p q : Int} {n : Nat} (hh : c.B.handled = none) (hE : Passes c X) (hp : Picks ob [(a, .rng p q)] oth) (hsm : Builtin.Range.small p q 1 = true) (hn : Builtin.Range.rangeSize p q 1 = ((n : Nat) : Int)) (h : Wkn (ForW c tg body Q X ((List.range n).map fun (i : Nat) => V.int (p + (i : Int)))) lo oth) :
    ForIn c (.ref a) tg body Q X lo ob := by
  rintro z s _ rfl n0
  refine of_gen fun _ kg => ?_
  obtain ⟨m, os, frs, n1⟩ := n0.perm hp.perm
  obtain ⟨o, _, _, ha, t1, t2, t3, rfl⟩ := n1.mem (a := a) (b := .rng p q) (.head _)
  refine kg ?_
  have nn : Now c z lo oth s := by
    obtain ⟨m, os, frs, n⟩ := Now.perm ⟨m, os, frs, n1⟩ List.perm_append_comm
    obtain ⟨o1, o2, _, rfl, n1⟩ := n.out
    exact ⟨m, o1, frs, n1.less⟩
  refine of_gen fun _ kg => ?_
  obtain ⟨lo2, ob2, n2, h2⟩ := nn.wkn h
  obtain ⟨m, os, frs, n2⟩ := n2
  refine kg ?_
  refine wpAny_pyIter_range ha hsm ?_
  refine for_loop (St := fun i h => IsRangeIter h s.heap.objs.size (p + (i : Nat) * 1) ((n : Int) - (i : Nat)) 1) ⟨⟨[s.heap.objs.size], fun i v => ∃ t, v = .int (p + (i : Int)) t, ?_, ?_, ?_⟩, ?_⟩ (goesOn_cls (T := "range_iterator") fun i h st => ⟨_, st, rfl⟩) hE (by show IsRangeIter _ _ _ _ _; rw [hn]; simpa using Heap.get?_push_size _ rfl) n2.pushI h2
  · have := LCg.range_walks (prog := c.g.prog) (w := c.g.w) (A := c.B) (I := s.heap.objs.size) hh p n
    simpa using this
  · rintro i v hi ⟨t, rfl⟩
    exact ⟨.int (p + (i : Int)), by simp at hi; simp [hi], t, rfl⟩
  · intro b hb
    exact .inl (List.mem_singleton.mp hb)
  · intro i h st
    exact ⟨_, st⟩
end
section
variable {c : Cx} {lo : Loc} {ob : Obs} {X : QT Addr} {Q : QT V}
theorem range_1 {q : Int} (h : ∀ a, Q (.ref a) lo ((a, .rng 0 q) :: ob)) : Cal c (.cv (.type "range")) [.int q] Q X lo ob := by
  rintro _ _ rfl hv
  cases hv with
  | cons h1 h2 =>
    cases h2
    obtain ⟨t, rfl⟩ := h1
    rintro z s
    intro hgr201_0
    refine of_gen fun _ kg => ?_
    obtain ⟨m, os, frs, n⟩ := hgr201_0
    refine kg ?_
    exact call_range_1 ⟨.ref s.heap.objs.size, lo, _, rfl, ⟨m, _, frs, n.push (b := .rng 0 q) ⟨_, _, _, rfl⟩ rfl⟩, h _⟩
theorem range_2 {p q : Int} (h : ∀ a, Q (.ref a) lo ((a, .rng p q) :: ob)) : Cal c (.cv (.type "range")) [.int p, .int q] Q X lo ob := by
  rintro _ _ rfl hv
  cases hv with
  | cons h1 h2 => cases h2 with
    | cons h3 h4 =>
      cases h4
      refine of_gen fun _ kg => ?_
      obtain ⟨t, rfl⟩ := h1
      obtain ⟨u, rfl⟩ := h3
      refine kg ?_
      rintro z s
      intro hgr213_0
      refine of_gen fun _ kg => ?_
      obtain ⟨m, os, frs, n⟩ := hgr213_0
      refine kg ?_
      exact call_range_2 ⟨.ref s.heap.objs.size, lo, _, rfl, ⟨m, _, frs, n.push (b := .rng p q) ⟨_, _, _, rfl⟩ rfl⟩, h _⟩
end
end Mine
end
section
namespace Mine

noncomputable def Kp (c : Cx) (f : V) : Prop := ∀ cf, VR f cf → ∀ h, c.g.K.In h → ∃ k, (k = Keeper.frame ∨ k = Keeper.machine ∨ k = Keeper.boundFrame) ∧ Looks c.g.M h (keeperOf cf) k
theorem kp_ref {c : Cx} {a : Addr} (hk : keepIn c.g.K (.ref a) = true) : Kp c (.ref a) := by rintro _ rfl h X; exact keeps_K hk h X
theorem kp_blt {c : Cx} {id : String} : Kp c (.cv (.builtin id)) := by rintro _ rfl h X; exact ⟨.machine, .inr (.inl rfl), Looks.now⟩
theorem kp_type {c : Cx} {id : String} : Kp c (.cv (.type id)) := by rintro _ rfl h X; exact ⟨.machine, .inr (.inl rfl), Looks.now⟩

section
variable {c : Cx} {lo : Loc} {ob : Obs} {X : QT Addr} {Q : QT V}
theorem backTo_any {p : Pos} {env : Env} : ∀ {es : List Expr}, noStar es = true → (backTo p (starEach es env)).any (·.1) = false
  | [], _ => rfl
  | e :: r, h => by
    rw [starEach_of h]
    simp [backTo]
theorem evalArgs_of {p : Pos} {es : List Expr} {f : Value} {QS : QT (List V)} (hs : noStar es = true) (h : Args c es QS X lo ob) :
    W c (fun (vs : List V) (a : PySem.Args) => VRs vs a.pos ∧ a.kw = []) (evalArgs f true (backTo p (starEach es c.env)) []) QS X lo ob := fun z s n => by
  rw [starEach_of hs]
  cases es with
  | nil => exact PyProof.Rows.evalArgs_none ⟨[], lo, ob, ⟨.nil, rfl⟩, n, h⟩
  | cons e r => exact Calls.evalArgs_plain (thenQ (spliced_of h z s n) fun cs s' vs lo ob hv n hq => ⟨vs, lo, ob, ⟨hv, rfl⟩, n, hq⟩)
theorem callWith_abs {p : Pos} {es : List Expr} {f : V} {cf : Value} {first : List V} {cfirst : List Value} (ok : c.Ok) (hf : VR f cf) (hfs : VRs first cfirst) (hk : Kp c f) (hs : noStar es = true)
    (h : Args c es (fun vs lo ob => Cal c f (first ++ vs) Q X lo ob) X lo ob) : W c VR (callWith p cf cfirst (backTo p (starEach es c.env)) []) Q X lo ob := fun z s n => by
  refine callWith_of (P := c.g.K.In) (by rw [backTo_any hs]; rfl) (hk cf hf) ?_
  refine thenQ (evalArgs_of hs h z s n) fun a s' vs lo ob hv n hq => ⟨n.K ok, ?_⟩
  rw [hv.2]
  exact hq cf _ hf (hfs.append hv.1) z s' n
theorem W_Call {func : Expr} {es : List Expr} {p : Pos} (ok : c.Ok) (hs : noStar es = true) (h : W c VR (eval func c.env) (fun f lo ob => Kp c f ∧ Args c es (fun vs lo ob => Cal c f vs Q X lo ob) X lo ob) X lo ob)
    (he : eval (.Call func es [] p) c.env = (do callWith p (← eval func c.env) [] (backTo p (starEach es c.env)) (backToKw p (keywordEach [] c.env))) := by rfl) : W c VR (eval (.Call func es [] p) c.env) Q X lo ob := fun z s n =>
  Call_ (thenQ (h z s n) fun cf s' f lo ob hf n h => callWith_abs (first := []) ok hf .nil h.1 hs h.2 z s' n) he

noncomputable abbrev MR : V × List V → Value × List Value → Prop := fun b a => VR b.1 a.1 ∧ VRs b.2 a.2
noncomputable def GetM (c : Cx) (v : V) (name : Str) (Q : V → List V → Loc → Obs → Prop) (X : QT Addr) (lo : Loc) (ob : Obs) : Prop := ∀ cv pl, VR v cv → W c MR (getMethod cv name pl) (fun b lo ob => Q b.1 b.2 lo ob) X lo ob
theorem W_Method {o : Expr} {name : Str} {es : List Expr} {p ap : Pos} {pl : Sem Bool} (ok : c.Ok) (hs : noStar es = true) (h : W c VR (eval o c.env) (fun v lo ob => GetM c v name (fun f first lo ob => Kp c f ∧ Args c es (fun vs lo ob => Cal c f (first ++ vs) Q X lo ob) X lo ob) X lo ob) X lo ob)
    (he : eval (.Call (.Attribute o name ap) es [] p) c.env = (do
      let ov ← eval o c.env
      standAt ap.atName
      let (f, first) ← holding [ov] (getMethod ov name pl)
      callWith p f first (backTo p (starEach es c.env)) []) := by rfl) : W c VR (eval (.Call (.Attribute o name ap) es [] p) c.env) Q X lo ob := fun z s n =>
  MethodCall_ (thenQ (h z s n) fun cv s' v lo ob hv n h => thenQ (h cv pl hv z s' n) fun fx s' b lo ob hb n h => callWith_abs ok hb.1 hb.2 h.1 hs h.2 z s' n) he

noncomputable def GetA (c : Cx) (v : V) (name : Str) (Q : QT V) (X : QT Addr) (lo : Loc) (ob : Obs) : Prop := ∀ cv, VR v cv → W c VR (getAttr cv name true) Q X lo ob
theorem W_Attr {e : Expr} {name : Str} {p : Pos} (h : W c VR (eval e c.env) (fun v lo ob => GetA c v name Q X lo ob) X lo ob)
    (he : eval (.Attribute e name p) c.env = (do
      let o ← eval e c.env
      standAt p.atName
      let r ← holding [o] (getAttr o name true)
      letTemporaryGo e o r
      pure r) := by with_unfolding_all rfl)
    (hl : ∀ o r, letTemporaryGo e o r = pure () := by intro _ _; rfl) : W c VR (eval (.Attribute e name p) c.env) Q X lo ob := fun z s n => by
  rw [he]
  refine wpAny_bind (thenQ (h z s n) fun cv s' v lo ob hv n h => wpAny_bind (wpAny_standAt (wpAny_bind (wpAny_holding (wpAny_mono (h cv hv z s' n) (fun cu s' hu => ?_) fun _ _ x => x)))))
  rw [hl]
  exact wpAny_bind (wpAny_pure (wpAny_pure hu))

theorem isStr_str (k name : Str) (t : Tok) : (Value.str k t).isStr name = (k == name) := rfl
inductive Ent : List (Str × V) → Str → V → Prop
  | here {k v r} : Ent ((k, v) :: r) k v
  | there {k k' v u r} : k' ≠ k → Ent r k v → Ent ((k', u) :: r) k v
inductive NoEnt : List (Str × V) → Str → Prop
  | nil {k} : NoEnt [] k
  | cons {k k' u r} : k' ≠ k → NoEnt r k → NoEnt ((k', u) :: r) k
inductive EPut : List (Str × V) → Str → V → List (Str × V) → Prop
  | nil {k v} : EPut [] k v [(k, v)]
  | here {k v u r} : EPut ((k, u) :: r) k v ((k, v) :: r)
  | there {k k' v u r r'} : k' ≠ k → EPut r k v r' → EPut ((k', u) :: r) k v ((k', u) :: r')
theorem ERs.noRef {P : Params} {es : List (Str × V)} {cs : List DictEntry} (h : ERs P es cs) : cs.any (·.refKey) = false := by
  induction h with
  | nil => rfl
  | cons _ _ ih => rw [List.any_cons, ih]; rfl
theorem ERs.get {P : Params} {name : Str} {v : V} {es : List (Str × V)} {cs : List DictEntry} (h : Ent es name v) (e : ERs P es cs) : ∃ cv, getL name cs = some (some cv) ∧ VR v cv := by
  induction h generalizing cs with
  | here =>
    cases e with
    | cons hv r =>
      refine ⟨_, ?_, hv⟩
      unfold getL
      rw [List.find?_cons, isStr_str]
      simp
  | there hne _ ih =>
    cases e with
    | cons hv r =>
      refine of_gen fun _ kg => ?_
      obtain ⟨cv, h1, h2⟩ := ih r
      refine kg ?_
      refine ⟨cv, ?_, h2⟩
      unfold getL at h1 ⊢
      rw [List.find?_cons, isStr_str, beq_eq_false_iff_ne.mpr hne]
      rw [List.any_cons]
      exact h1
theorem ERs.no {P : Params} {name : Str} {es : List (Str × V)} {cs : List DictEntry} (h : NoEnt es name) (e : ERs P es cs) : getL name cs = some none := by
  have hf : cs.find? (·.key.isStr name) = none := by
    induction h generalizing cs with
    | nil => cases e; rfl
    | cons hne _ ih =>
      cases e with
      | cons hv r => rw [List.find?_cons, isStr_str, beq_eq_false_iff_ne.mpr hne]; exact ih r
  unfold getL
  rw [hf, e.noRef]
  rfl
theorem ERs.put {P : Params} {name : Str} {v : V} {es es' : List (Str × V)} (h : EPut es name v es') {cs : List DictEntry} (e : ERs P es cs) {cv : Value} (hv : VR v cv) (t : Tok) : ERs P es' (putL name (PyData.keyHash P name) (.str name t) cv cs) := by
  induction h generalizing cs with
  | nil => cases e; exact .cons hv .nil
  | here => cases e with
    | cons _ r => unfold putL; rw [isStr_str]; simp only [beq_self_eq_true, if_true]; exact .cons hv r
  | there hne _ ih => cases e with
    | cons hu r => unfold putL; rw [isStr_str, beq_eq_false_iff_ne.mpr hne]; exact .cons hu (ih r hv)
theorem ERs.length {P : Params} {es : List (Str × V)} {cs : List DictEntry} (h : ERs P es cs) : cs.length = es.length := by
  induction h with
  | nil => rfl
  | cons _ _ ih => exact congrArg Nat.succ ih
theorem getL_some {P : Params} {name : Str} : ∀ {es : List (Str × V)} {cs : List DictEntry}, ERs P es cs → (getL name cs).isSome = true := by
  intro es cs e
  unfold getL
  rw [e.noRef]
  split <;> rfl

theorem InstAt.of {z : List (Addr × Obj)} {s : Shared} {x C d : Addr} {es : List (Str × V)} (n : Now c z lo ob s) (h1 : (x, .inst C d) ∈ ob) (h2 : (d, .dct es) ∈ ob) : ∃ cs k, InstAt s.heap x (instObj C d) C (some (dictOf cs k)) ∧ ERs c.g.w.params es cs := by
  refine of_gen fun _ kg => ?_
  obtain ⟨m, os, frs, n⟩ := n
  obtain ⟨o1, _, _, g1, e1⟩ := n.mem h1
  obtain ⟨o2, _, _, g2, cs, k, e2, hr⟩ := n.mem h2
  refine kg ?_
  cases e1
  subst e2
  exact ⟨cs, k, ⟨g1, rfl, rfl, g2⟩, hr⟩
theorem getm_inst {x C d f : Addr} {es : List (Str × V)} {name : Str} {Q : V → List V → Loc → Obs → Prop} (ok : c.Ok) (h1 : (x, .inst C d) ∈ ob) (h2 : (d, .dct es) ∈ ob) (hg : plainGet c.g.K C name = true) (hf : findIn c.g.K (.ref C) name = some (some (.ref f))) (ht : isFn c.g.K (.ref f) = true) (hl : NoEnt es name)
    (h : Q (.ref f) [.ref x] lo ob) : GetM c (.ref x) name Q X lo ob := by
  rintro _ pl rfl z s n
  refine of_gen fun _ kg => ?_
  obtain ⟨cs, k, I, hr⟩ := InstAt.of n h1 h2
  refine kg ?_
  have n0 := n
  refine of_gen fun _ kg => ?_
  obtain ⟨m, os, frs, n⟩ := n
  refine kg ?_
  exact method_inst n.F ok.g.X I hg hf ht (hr.no hl) ⟨(.ref f, [.ref x]), lo, ob, ⟨rfl, .one rfl⟩, n0, h⟩
noncomputable def handedV : V → Bool
  | .cv v => handedIn v
  | .ref a => handedIn (.ref a)
  | _ => true
theorem handed_of {v : V} {cv : Value} (h : VR v cv) (hh : handedV v = true) : handedIn cv = true := by
  cases v with
  | none => cases h; rfl
  | bool b => cases h; rfl
  | int i => obtain ⟨t, rfl⟩ := h; rfl
  | str l => obtain ⟨t, rfl⟩ := h; rfl
  | bytes l => obtain ⟨b, t, rfl, _⟩ := h; rfl
  | ref a => cases h; exact hh
  | cv v => cases h; exact hh
theorem geta_own {x C d : Addr} {es : List (Str × V)} {name : Str} {v : V} {attr : Option Value} (ok : c.Ok) (h1 : (x, .inst C d) ∈ ob) (h2 : (d, .dct es) ∈ ob) (hg : plainGet c.g.K C name = true) (hh : hasDictIn c.g.K C = true) (ha : findIn c.g.K (.ref C) name = some attr) (hn : noGet c.g.K attr = true) (hl : Ent es name v) (hv : handedV v = true)
    (h : Q v lo ob) : GetA c (.ref x) name Q X lo ob := by
  rintro _ rfl z s n
  refine of_gen fun _ kg => ?_
  obtain ⟨cs, k, I, hr⟩ := InstAt.of n h1 h2
  refine kg ?_
  have n0 := n
  refine of_gen fun _ kg => ?_
  obtain ⟨m, os, frs, n⟩ := n
  obtain ⟨cv, e, hcv⟩ := hr.get hl
  refine kg ?_
  exact get_own n.F ok.g.X I hg hh ha hn e (handed_of hcv hv) (LQ.mk hcv (n0.toks rfl) h)
end
end Mine
end
section
namespace Mine

noncomputable abbrev callee (c : Cx) (A : Around) (env : Env) (L : Addr) (oL : Obj) (frs : List (Addr × Obj)) (d : Nat) : Cx :=
  { g := c.g, B := A.deeper env, env := env, fenv := env, ns := env.scope.names, outer := c.fenv :: c.outer, frs0 := (L, oL) :: frs, rest := [], cv := none, d := d }

noncomputable def LeavesOK (X : QT Addr) (X' : Addr → Obs → Prop) : Prop := ∀ (c : Cx) (A : Around) (env : Env) (oL : Obj) (frs : List (Addr × Obj)) (d : Nat) (m : Str → Option Value) (z : List (Addr × Obj)) (lo : Loc) (e : Value) (s : Shared),
  c.Ok → (callee c A env c.L oL frs d).Ok → Fram c.outer c.frs0 frs → LR c.ns lo m → (∃ es ep, oL.data = .dict es ep ∧ StrKeys es ∧ ∀ name, nsFind es name = m name) → c.g.hb.objs.size ≤ c.L → (∀ p ∈ frs, p.1 ≠ c.L) →
  LX (callee c A env c.L oL frs d) (c.rest ++ z) X e s →
  wpAny c.g.M (A.deeper env) (leaving env e) (fun _ s' => ∃ a ob, e = .ref a ∧ Exc c z a lo ob s' ∧ X' a ob) (fun e' s' => ∃ a ob, e' = .ref a ∧ Exc c z a lo ob s' ∧ X' a ob) s
theorem leaves_never {X' : Addr → Obs → Prop} : LeavesOK (fun _ _ _ => False) X' := by
  rintro c A env oL frs d m z lo e s _ _ _ _ _ _ _
  intro hgr17_0
  refine of_gen fun _ kg => ?_
  obtain ⟨_, _, _, _, _, h⟩ := hgr17_0
  refine kg ?_
  exact h.elim

noncomputable def FnR (c : Cx) (z : List (Addr × Obj)) (lo : Loc) (Q : V → Obs → Prop) (X : Addr → Obs → Prop) : Result → Shared → Prop := fun r s => match r with
  | .ok (.ret v) => ∃ u ob, VR u v ∧ Now c z lo ob s ∧ Q u ob
  | .ok _ => False
  | .error e => ∃ a ob, e = .ref a ∧ Exc c z a lo ob s ∧ X a ob
noncomputable def FnH (g : G) (f : Addr) (args : List V) (d : Nat) (H : Option Value → Prop) (Q : V → Obs → Prop) (X : Addr → Obs → Prop) (ob : Obs) : Prop :=
  ∀ (c : Cx) (A : Around), c.Ok → c.g = g → A.frames = some (c.fenv :: c.outer) → A.depth + d < recursionLimit → A.units + 4 * d + 100 < cLine → H A.handled → ∀ cas, VRs args cas → ∀ z lo s, Now c z lo ob s → codeAny g.M A (.call (.ref f) ⟨cas, []⟩) (FnR c z lo Q X) s
noncomputable def Hq (hq : Bool) (o : Option Value) : Prop := hq = false → o = none
noncomputable def FnC (g : G) (f : Addr) (args : List V) (d : Nat) (hq : Bool) (Q : V → Obs → Prop) (X : Addr → Obs → Prop) (ob : Obs) : Prop := FnH g f args d (Hq hq) Q X ob

section
variable {c : Cx} {lo : Loc} {ob : Obs} {X : QT Addr} {Q : QT V}
theorem cal_fn {f : Addr} {args : List V} {d : Nat} {hq : Bool} {QF : V → Obs → Prop} {XF : Addr → Obs → Prop} (ok : c.Ok) (F : FnC c.g f args d hq QF XF ob) (hd : d ≤ c.d) (hh : hq = true ∨ c.B.handled = none) (hQ : ∀ v ob, QF v ob → Q v lo ob) (hX : ∀ a ob, XF a ob → X a lo ob) : Cal c (.ref f) args Q X lo ob := by
  rintro _ cas rfl hv z s n
  refine wpAny_call (codeAny_mono (F c c.B ok rfl ok.fr (by have := ok.room; lia) (by have := ok.un; lia) (fun h => hh.resolve_left (by rw [h]; simp)) cas hv z lo s n) fun r s' hr => ?_)
  match r with
  | .ok (.ret v) => obtain ⟨u, ob, hu, n, hq⟩ := hr; exact ⟨u, lo, ob, hu, n, hQ _ _ hq⟩
  | .ok .next => exact hr.elim
  | .ok .brk => exact hr.elim
  | .ok .cont => exact hr.elim
  | .error e => obtain ⟨a, ob, rfl, n, hq⟩ := hr; exact ⟨a, lo, ob, rfl, n, hX _ _ hq⟩
theorem FnH.mono {g : G} {f : Addr} {args : List V} {d : Nat} {H : Option Value → Prop} {Q Q' : V → Obs → Prop} {X X' : Addr → Obs → Prop} (F : FnH g f args d H Q X ob) (hQ : ∀ v ob, Q v ob → Q' v ob) (hX : ∀ a ob, X a ob → X' a ob) : FnH g f args d H Q' X' ob := by
  intro c A ok hg hf hd hu hh cas hv z lo s n
  refine codeAny_mono (F c A ok hg hf hd hu hh cas hv z lo s n) fun r s' hr => ?_
  match r with
  | .ok (.ret v) => obtain ⟨u, ob, hu, n, hq⟩ := hr; exact ⟨u, ob, hu, n, hQ _ _ hq⟩
  | .ok .next => exact hr.elim
  | .ok .brk => exact hr.elim
  | .ok .cont => exact hr.elim
  | .error e => obtain ⟨a, ob, rfl, n, hq⟩ := hr; exact ⟨a, ob, rfl, n, hX _ _ hq⟩
theorem FnH.frame {g : G} {f : Addr} {args : List V} {d : Nat} {H : Option Value → Prop} {Q : V → Obs → Prop} {X : Addr → Obs → Prop} {small oth : Obs} (p : Picks ob small oth) (F : FnH g f args d H (fun v ob => Q v (ob ++ oth)) (fun a ob => X a (ob ++ oth)) small) : FnH g f args d H Q X ob := by
  intro c A ok hg hf hd hu hh cas hv z lo s n
  refine of_gen fun _ kg => ?_
  obtain ⟨m, os, frs, n⟩ := n.perm p.perm
  obtain ⟨o1, o2, ho, rfl, n1⟩ := n.out
  refine kg ?_
  refine codeAny_mono (F c A ok hg hf hd hu hh cas hv (o2 ++ z) lo s ⟨m, o1, frs, n1⟩) fun r s' hr => ?_
  match r with
  | .ok (.ret v) => obtain ⟨u, ob, hu, ⟨m, os, frs, n⟩, hq⟩ := hr; subst hg; exact ⟨u, _, hu, ⟨m, _, frs, n.back ho⟩, hq⟩
  | .ok .next => exact hr.elim
  | .ok .brk => exact hr.elim
  | .ok .cont => exact hr.elim
  | .error e =>
    refine of_gen fun _ kg => ?_
    obtain ⟨a, ob, rfl, ⟨⟨k, d, r, hm⟩, m, os, frs, n, t⟩, hq⟩ := hr
    refine kg ?_
    refine ⟨a, _, rfl, ⟨⟨k, d, r, List.mem_append_left _ hm⟩, m, _, frs, n.back ho, t.sub fun x hx => ?_⟩, hq⟩
    simp only [List.map_append, List.mem_append] at hx ⊢
    rcases hx with (h | h) | (h | h) | h
    · exact .inl h
    · exact .inr (.inl (.inr (.inl h)))
    · exact .inr (.inl (.inl h))
    · exact .inr (.inl (.inr (.inr h)))
    · exact .inr (.inr h)

theorem FnC.mono {g : G} {f : Addr} {args : List V} {d : Nat} {hq : Bool} {Q Q' : V → Obs → Prop} {X X' : Addr → Obs → Prop} (F : FnC g f args d hq Q X ob) (hQ : ∀ v ob, Q v ob → Q' v ob) (hX : ∀ a ob, X a ob → X' a ob) : FnC g f args d hq Q' X' ob := FnH.mono F hQ hX
theorem FnC.frame {g : G} {f : Addr} {args : List V} {d : Nat} {hq : Bool} {Q : V → Obs → Prop} {X : Addr → Obs → Prop} {small oth : Obs} (p : Picks ob small oth) (F : FnC g f args d hq (fun v ob => Q v (ob ++ oth)) (fun a ob => X a (ob ++ oth)) small) : FnC g f args d hq Q X ob := FnH.frame p F

theorem mem_of_lookup {β : Type} {x : Str} {w : β} : ∀ {r : List (Str × β)}, r.lookup x = some w → (x, w) ∈ r
  | [], h => by cases h
  | (a, b) :: r, h => by
    rw [List.lookup_cons] at h
    by_cases q : x = a
    · subst q; simp at h; subst h; exact .head _
    · have e : (x == a) = false := by simpa using q
      rw [e] at h
      exact .tail _ (mem_of_lookup h)
noncomputable def iniL (ns : Nms) (kv : List (Str × V)) : Loc := ns.map fun p => if p.2 == .local then kv.lookup p.1 else none
theorem iniL_has {kv : List (Str × V)} {x : Str} {v : V} : ∀ {ns : Nms}, Has ns (iniL ns kv) x v → kv.lookup x = some v := by
  intro ns
  induction ns with
  | nil => intro h; cases h
  | cons p r ih =>
    intro h
    generalize hl : iniL (p :: r) kv = l at h
    cases h with
    | here =>
      simp only [iniL, List.map_cons] at hl
      injection hl with h1 h2
    | there h =>
      simp only [iniL, List.map_cons] at hl
      injection hl with h1 h2
      subst h2
      exact ih h
theorem lookup_zip {pn : List Str} {vs : List V} {cs : List Value} (hr : VRs vs cs) (hn : pn.Nodup) {x : Str} {v : V} (h : (pn.zip vs).lookup x = some v) : ∃ cv, (pn.zip cs).reverse.lookup x = some cv ∧ VR v cv := by
  have key : ∀ {pn : List Str} {vs : List V} {cs : List Value}, VRs vs cs → (pn.zip vs).lookup x = some v → ∃ cv, (pn.zip cs).lookup x = some cv ∧ VR v cv := by
    intro pn vs cs hr h
    induction hr generalizing pn with
    | nil => cases pn <;> cases h
    | cons h1 _ ih =>
      cases pn with
      | nil => cases h
      | cons a pn =>
        rw [List.zip_cons_cons, List.lookup_cons] at h ⊢
        by_cases q : x = a
        · subst q; simp at h; subst h; exact ⟨_, by simp, h1⟩
        · have e : (x == a) = false := by simpa using q
          rw [e] at h ⊢
          exact ih h
  obtain ⟨cv, h1, h2⟩ := key hr h
  refine ⟨cv, ?_, h2⟩
  -- a lookup from behind is the same where the names differ
  have rev : ∀ {l : List (Str × Value)}, (l.map (·.1)).Nodup → l.reverse.lookup x = l.lookup x := by
    intro l hl
    induction l with
    | nil => rfl
    | cons p r ih =>
      obtain ⟨a, b⟩ := p
      rw [List.map_cons, List.nodup_cons] at hl
      rw [List.reverse_cons, List.lookup_append, ih hl.2, List.lookup_cons, List.lookup_cons]
      by_cases q : x = a
      · subst q
        have : r.lookup x = none := by
          cases hq : r.lookup x with
          | none => rfl
          | some w => exact absurd (List.mem_map_of_mem (f := (·.1)) (mem_of_lookup hq)) hl.1
        simp [this]
      · have e : (x == a) = false := by simpa using q
        simp [e]
  rw [rev ?_]
  · exact h1
  · have e : ((pn.zip cs).map (·.1)).Sublist pn := by
      clear h h1 h2 hr rev key
      induction pn generalizing cs with
      | nil => simp
      | cons a pn ih =>
        cases cs with
        | nil => simp
        | cons c cs => simp only [List.zip_cons_cons, List.map_cons]; exact (ih (List.nodup_cons.mp hn).2).cons_cons _
    exact hn.sublist e
end
end Mine
end
section
namespace Mine

noncomputable def FnQ (Q : V → Obs → Prop) : QT AF := fun f _ ob => match f with
  | .ret v => Q v ob
  | _ => Q .none ob

theorem fn_introP {g : G} {f : Addr} {args : List V} {d : Nat} {hq : Bool} {Q : V → Obs → Prop} {X : QT Addr} {X' : Addr → Obs → Prop} {ob : Obs} {lo0 : Loc} {pn : List Str}
    {name qual : Str} {params : Arguments} {body : List Stmt} {scope : Scope} {dV kV doc pm cdv ct oc : Value} {an od : Option Addr} {osl : Array (Option Value)}
    (ho : g.K.lookup f = some ⟨oc, od, .func (fnOf name qual params body scope dV kV doc pm an cdv ct), osl⟩) (hcd : codeIn g.K cdv qual = true)
    (hbind : ∀ (s : Shared) cas, g.K.In s.heap → VRs args cas → BindsTo s (fnOf name qual params body scope dV kV doc pm an cdv ct) ⟨cas, []⟩ (pn.zip cas))
    (hpn : pn.Nodup) (hlo : iniL scope.names (pn.zip args) = lo0) (hloc : ∀ y ∈ pn, scope.names.lookup y = some .local) (hnd : (scope.names.map (·.1)).Nodup)
    (hcell : ∀ x ∈ scope.names, x.2 ≠ .cell) (hX : LeavesOK X X')
    (h : ∀ c : Cx, c.Ok → c.g = g → c.env = envOf qual scope c.L f cdv → c.ns = scope.names → c.env.scope.names = scope.names → c.cv = none → c.d = d → (hq = false → c.B.handled = none) → ∀ z s, Now c z lo0 ob s → (args ≠ [] → pn ≠ [] → 0 < s.toks) → wpAny c.g.M c.B (execs body c.env) (LQ c z FR (FnQ Q)) (LX c z X) s)
    (hco : scope.isCoroutine = false := by rfl) (hgen : scope.isGenerator = false := by rfl) (hk : scope.kind = .function := by rfl) : FnC g f args (d + 1) hq Q X' ob := by
  intro c A ok hg hf hd hun hh cas hv z lo s n
  subst hg
  have n0 := n
  refine of_gen fun _ kg => ?_
  obtain ⟨m, os, frs, n⟩ := n
  refine kg ?_
  have F := n.F
  have X₀ := ok.g.X.keeps F.keep
  refine of_gen fun _ kg => ?_
  obtain ⟨oL, es, ep, hL, hLd, hLk, hLf⟩ := F.ns
  refine kg ?_
  have hLt := Heap.lt_size hL
  have hfst : ∀ y ∈ pn.zip cas, scope.names.lookup y.1 = some .local := fun y hy => hloc _ (List.of_mem_zip hy).1
  refine codeAny_call_def (fd := fnOf name qual params body scope dV kV doc pm an cdv ct) (body := body) (binds := pn.zip cas) (by lia) (X₀ _ _ ho) rfl (ok.g.T.nolimit.keeps F.keep) (codeRec_of X₀ hcd) rfl (hbind _ _ X₀ hv) hcell hfst (fun h₁ hns hk₁ => ?_) hco hgen hk
  have up : ∀ b o, s.heap.get? b = some o → h₁.get? b = some o := fun b o e => hk₁ b o e
  have ok' : (callee c A (envOf qual scope s.heap.objs.size f cdv) c.L oL frs d).Ok := by
    refine ⟨ok.g, ?_, rfl, hnd, rfl, hk, rfl, hk, rfl, rfl, hnd, ?_, ?_, fun _ => rfl, (fun _ h => nomatch h), fun _ _ _ h => h⟩
    · show A.frames.map _ = _
      rw [hf]; rfl
    · show A.depth + 1 + d < _
      lia
    · show A.units + 3 + 4 * d + 100 < _
      lia
  have n' : NowAt (callee c A (envOf qual scope s.heap.objs.size f cdv) c.L oL frs d) (c.rest ++ z) lo0 ob { s with heap := h₁, toks := s.toks + (pn.zip cas).length } (fun y => (pn.zip cas).reverse.lookup y) os ((c.L, oL) :: frs) := by
    refine ⟨⟨hns, fun b o e => up b o (F.keep b o e), Nat.le_trans F.above (Nat.le_of_lt hLt)⟩, fun x v hx => ?_, n.rs, fun q hq => ?_, n.nd, ⟨⟨?_, ok.fframe, ⟨es, ep, hLd⟩, n.fm.fs⟩, TI.SameUp.refl _⟩, (fun a ha hm => ?_), n.og⟩
    · subst hlo
      exact lookup_zip hv hpn (iniL_has hx)
    · have hin : s.heap.get? q.1 = some q.2 ∧ c.g.hb.get? q.1 = none := by
        simp only [List.nil_append, List.mem_append, List.mem_cons] at hq
        rcases hq with h | (h | h) | rfl | h
        · exact ⟨(n.N q (by simp [h])).1, (n.N q (by simp [h])).2.2⟩
        · exact ⟨(n.N q (by simp [h])).1, (n.N q (by simp [h])).2.2⟩
        · exact ⟨(n.N q (by simp [h])).1, (n.N q (by simp [h])).2.2⟩
        · exact ⟨hL, Heap.get?_none_of_le F.above⟩
        · exact ⟨(n.N q (by simp [h])).1, (n.N q (by simp [h])).2.2⟩
      exact ⟨up _ _ hin.1, Nat.ne_of_lt (Heap.lt_size hin.1), hin.2⟩
    · rw [ok.fkind]; decide
    · rcases List.mem_cons.mp hm with e | hm
      · obtain ⟨q, hq, e'⟩ := List.mem_map.mp ha
        have hq' : q ∈ os ++ ((c.rest ++ z) ++ frs) := by
          simp only [List.nil_append, List.mem_append] at hq ⊢
          rcases hq with h | h | h
          · exact .inl h
          · exact .inr (.inl (.inl h))
          · exact .inr (.inl (.inr h))
        exact (n.N q hq').2.1 (e'.trans e)
      · exact n.ap a ha (by rw [← sameUp_addrs n.fm.su]; exact hm)
  have hpos : args ≠ [] → pn ≠ [] → 0 < s.toks + (pn.zip cas).length := by
    intro hp0 hpl
    cases hv with
    | nil => exact absurd rfl hp0
    | cons _ _ =>
      cases pn with
      | nil => exact absurd rfl hpl
      | cons _ _ => exact Nat.succ_pos _
  refine wpAny_mono (h _ ok' rfl rfl rfl rfl rfl rfl (fun q => hh q) (c.rest ++ z) _ ⟨_, os, _, n'⟩ hpos) (fun fl s' hl => ?_) fun e s' hx => ?_
  · obtain ⟨gf, lo', ob', hg', ⟨m', os', frs', nn⟩, hq'⟩ := hl
    have nn2 : Now c z lo ob' s' := by
      refine ⟨m, os', frs'.tail, ?_⟩
      have hsu := nn.fm.su
      cases frs' with
      | nil => exact hsu.elim
      | cons q qs =>
        refine of_gen fun _ kg => ?_
        obtain ⟨h1, ⟨sl, h2⟩, SU'⟩ := hsu
        refine kg ?_
        have hq := (nn.N q (List.mem_append_right _ (List.mem_append_right _ List.mem_cons_self))).1
        have h1' : q.1 = c.L := h1
        have h2' : q.2 = { oL with slots := sl } := h2
        rw [h1', h2'] at hq
        have hap : ∀ a ∈ (os' ++ (c.rest ++ z)).map (·.1), a ≠ c.L ∧ a ∉ frs.map (·.1) := fun a ha => ⟨fun e => nn.ap a ha (by rw [e]; exact .head _), fun hm => nn.ap a ha (.tail _ hm)⟩
        refine ⟨⟨⟨_, es, ep, hq, hLd, hLk, hLf⟩, nn.F.keep, F.above⟩, n.lr, nn.rs, fun r hr => ?_, nn.nd, n.fm.up SU', (fun a ha hm => ?_), nn.og⟩
        · rw [List.tail_cons] at hr
          have hr' : r ∈ os' ++ (([] ++ (c.rest ++ z)) ++ q :: qs) := by
            simp only [List.nil_append, List.mem_append, List.mem_cons] at hr ⊢
            rcases hr with h | (h | h) | h
            · exact .inl h
            · exact .inr (.inl (.inl h))
            · exact .inr (.inl (.inr h))
            · exact .inr (.inr (.inr h))
          refine ⟨(nn.N r hr').1, ?_, (nn.N r hr').2.2⟩
          simp only [List.mem_append] at hr
          rcases hr with h | (h | h) | h
          · exact (hap r.1 (List.mem_map_of_mem (by simp [h]))).1
          · exact (hap r.1 (List.mem_map_of_mem (by simp [h]))).1
          · exact (hap r.1 (List.mem_map_of_mem (by simp [h]))).1
          · obtain ⟨r₀, hr₀, e⟩ := TI.SameUp.fwd SU' r h
            rw [e]
            exact (n.N r₀ (List.mem_append_right _ (List.mem_append_right _ hr₀))).2.1
        · exact (hap a ha).2 (by rw [← sameUp_addrs n.fm.su] at hm; exact hm)
    cases gf with
    | next => cases hg'; exact ⟨V.none, ob', rfl, nn2, hq'⟩
    | brk => cases hg'; exact ⟨V.none, ob', rfl, nn2, hq'⟩
    | cont => cases hg'; exact ⟨V.none, ob', rfl, nn2, hq'⟩
    | ret v => obtain ⟨cv, rfl, hr⟩ := hg'; exact ⟨v, ob', hr, nn2, hq'⟩
  · exact hX c A (envOf qual scope s.heap.objs.size f cdv) oL frs d m z lo e s' ok ok' n.fm n.lr ⟨es, ep, hLd, hLk, hLf⟩ F.above (fun p hp => (n.N p (List.mem_append_right _ (List.mem_append_right _ hp))).2.1) hx
theorem fn_intro {g : G} {f : Addr} {args : List V} {d : Nat} {hq : Bool} {Q : V → Obs → Prop} {X : QT Addr} {X' : Addr → Obs → Prop} {ob : Obs} {lo0 : Loc} {pn : List Str}
    {name qual : Str} {params : Arguments} {body : List Stmt} {scope : Scope} {dV kV doc pm cdv ct oc : Value} {an od : Option Addr} {osl : Array (Option Value)}
    (ho : g.K.lookup f = some ⟨oc, od, .func (fnOf name qual params body scope dV kV doc pm an cdv ct), osl⟩) (hcd : codeIn g.K cdv qual = true)
    (hbind : ∀ (s : Shared) cas, g.K.In s.heap → VRs args cas → BindsTo s (fnOf name qual params body scope dV kV doc pm an cdv ct) ⟨cas, []⟩ (pn.zip cas))
    (hpn : pn.Nodup) (hlo : iniL scope.names (pn.zip args) = lo0) (hloc : ∀ y ∈ pn, scope.names.lookup y = some .local) (hnd : (scope.names.map (·.1)).Nodup)
    (hcell : ∀ x ∈ scope.names, x.2 ≠ .cell) (hX : LeavesOK X X')
    (h : ∀ c : Cx, c.Ok → c.g = g → c.env = envOf qual scope c.L f cdv → c.ns = scope.names → c.env.scope.names = scope.names → c.cv = none → c.d = d → (hq = false → c.B.handled = none) → W c FR (execs body c.env) (FnQ Q) X lo0 ob)
    (hco : scope.isCoroutine = false := by rfl) (hgen : scope.isGenerator = false := by rfl) (hk : scope.kind = .function := by rfl) : FnC g f args (d + 1) hq Q X' ob :=
  fn_introP ho hcd hbind hpn hlo hloc hnd hcell hX (fun c a1 a2 a3 a4 a5 a6 a7 a8 z s n _ => h c a1 a2 a3 a4 a5 a6 a7 a8 z s n) hco hgen hk
end Mine
end
section
namespace Mine

section
variable {c : Cx} {lo : Loc} {ob : Obs} {X : QT Addr} {Q : QT V}
theorem exc_new {z : List (Addr × Obj)} {s : Shared} {m : Str → Option Value} {os frs : List (Addr × Obj)} (n : NowAt c z lo ob s m os frs) {h' : Heap} {tk : Nat} {e : Addr} {T : String} (hx : Heap.NewExc s.heap h' e T) :
    Exc c z e lo ((e, .exc (.type T) none none) :: ob) { s with heap := h', toks := tk } := by
  obtain ⟨o, t, he, hcls, hd⟩ := hx.there
  refine ⟨⟨_, _, _, .head _⟩, m, (e, o) :: os, frs, n.add (s' := { s with heap := h', toks := tk }) (n.F.keeps hx.keeps) (fun p hp => ?_) ⟨hcls, (by intro _ h; cases h), t, #[Value.none, Value.none, Value.none, Value.bool false, Value.none], hd, rfl, (by intro _ h; cases h), (fun _ => rfl)⟩ (fun p hp q => ?_), o, _, he, hd, .inl rfl⟩
  · rcases List.mem_cons.mp hp with rfl | hp
    · refine ⟨he, fun q => ?_, ?_⟩
      · obtain ⟨oL, es, ep, hL, _⟩ := n.F.ns
        have := hx.new
        rw [show e = c.L from q, hL] at this; cases this
      · cases hq : c.g.hb.get? e with
        | none => rfl
        | some w => have := n.F.keep e w hq; rw [hx.new] at this; cases this
    · exact ⟨hx.keeps _ _ (n.N p hp).1, (n.N p hp).2⟩
  · have := (n.N p hp).1
    rw [q, hx.new] at this; cases this
theorem VRs1 {v : V} {cs : List Value} (h : VRs [v] cs) : ∃ c, cs = [c] ∧ VR v c := by
  cases h with
  | cons a r => cases r; exact ⟨_, rfl, a⟩
theorem VRs2 {v w : V} {cs : List Value} (h : VRs [v, w] cs) : ∃ c d, cs = [c, d] ∧ VR v c ∧ VR w d := by
  cases h with
  | cons a r => cases r with
    | cons b r => cases r; exact ⟨_, _, rfl, a, b⟩
theorem VRs3 {v w x : V} {cs : List Value} (h : VRs [v, w, x] cs) : ∃ c d e, cs = [c, d, e] ∧ VR v c ∧ VR w d ∧ VR x e := by
  cases h with
  | cons a r => cases r with
    | cons b r => cases r with
      | cons d r => cases r; exact ⟨_, _, _, rfl, a, b, d⟩

theorem sub_str {value slice : Expr} {l : List Nat} {i : Int} (hh : c.B.handled = none) (h0 : 0 ≤ i) (h63 : i < 9223372036854775808) (hin : ∀ k, l[i.toNat]? = some k → Q (.str [k]) lo ob)
    (hout : l[i.toNat]? = none → ∀ e, X e lo ((e, .exc (.type "IndexError") none none) :: ob)) (hs : ∀ t u, subscripted slice false (.str (tx l) t) (.int i u) = operate [.str (tx l) t, .int i u] (getItem (.str (tx l) t) (.int i u)) := by intro _ _; with_unfolding_all rfl) : Sub2 c value slice (.str l) (.int i) Q X lo ob := by
  rintro _ _ ⟨t, rfl⟩ ⟨u, rfl⟩ z s n
  refine str_item_T hh h0 h63 (fun k hk => LQ.str (n.toks rfl) (hin k hk)) (fun hn h' tk e hx => ?_) (hs t u)
  obtain ⟨m, os, frs, n⟩ := n
  exact ⟨e, lo, _, rfl, exc_new n hx, hout hn e⟩

theorem len_str {l : List Nat} (hz : l.length ≤ 100000) (h : Q (.int l.length) lo ob) : Cal c (.cv (.builtin "len")) [.str l] Q X lo ob := by
  rintro _ cs rfl hv z s n
  obtain ⟨_, rfl, t, rfl⟩ := VRs1 hv
  exact len_tx hz (LQ.int (n.toks rfl) h)
theorem len_list {a : Addr} {vs : List V} (hm : (a, .list vs) ∈ ob) (hz : vs.length ≤ 100000) (h : Q (.int vs.length) lo ob) : Cal c (.cv (.builtin "len")) [.ref a] Q X lo ob := by
  rintro _ cs rfl hv z s n0
  obtain ⟨_, rfl, rfl⟩ := VRs1 hv
  obtain ⟨m, os, frs, n⟩ := n0
  obtain ⟨o, _, _, ha, ks, k, rfl, hr⟩ := n.mem hm
  refine Calls.call_len_list (items := ks.toArray) ⟨_, ha, rfl, _, rfl⟩ (by rw [List.size_toArray, ← hr.length]; lia) ?_
  rw [List.size_toArray, ← hr.length]
  exact LQ.int ⟨m, os, frs, n.toks rfl⟩ h
theorem len_bytes' {l : List Nat} (hz : l.length ≤ 100000) (h : Q (.int l.length) lo ob) : Cal c (.cv (.builtin "len")) [.bytes l] Q X lo ob := by
  rintro _ cs rfl hv z s n
  obtain ⟨_, rfl, b, t, rfl, hb⟩ := VRs1 hv
  have e : b.size = l.length := by rw [← hb]; simp
  refine len_bytes (by lia) ?_
  rw [e]
  exact LQ.int (n.toks rfl) h
theorem ord_1 {k : Nat} (h : Q (.int k) lo ob) : Cal c (.cv (.builtin "ord")) [.str [k]] Q X lo ob := by
  rintro _ cs rfl hv z s n
  obtain ⟨_, rfl, t, rfl⟩ := VRs1 hv
  exact P.ord_of_char (LQ.int (n.toks rfl) h)
theorem isi_str_str {l : List Nat} (h : Q (.bool true) lo ob) : Cal c (.cv (.builtin "isinstance")) [.str l, .cv (.type "str")] Q X lo ob := by
  rintro _ cs rfl hv z s n
  obtain ⟨_, _, rfl, ⟨t, rfl⟩, rfl⟩ := VRs2 hv
  exact IsiPair.str_str (LQ.bool n h)
theorem isi_bytes_str {l : List Nat} (ok : c.Ok) (h : Q (.bool false) lo ob) : Cal c (.cv (.builtin "isinstance")) [.bytes l, .cv (.type "str")] Q X lo ob := by
  rintro _ cs rfl hv z s n
  obtain ⟨_, _, rfl, ⟨b, t, rfl, _⟩, rfl⟩ := VRs2 hv
  exact kia_one (K := c.g.K) (b := false) kitx_bytes (n.K ok) trivial (by kernel_rfl) (by intro e; cases e) fun tk => LQ.bool (n.toks rfl) h
theorem str_latin1 {l : List Nat} (hz : l.length ≤ 100000) (h : Q (.str l) lo ob) : Cal c (.cv (.type "str")) [.bytes l, .str [108, 97, 116, 105, 110, 49]] Q X lo ob := by
  rintro _ cs rfl hv z s n
  obtain ⟨_, _, rfl, ⟨b, t, rfl, hb⟩, u, rfl⟩ := VRs2 hv
  have e : tx [108, 97, 116, 105, 110, 49] = Str.ofString "latin1" := by decide +kernel
  rw [e]
  exact str_latin_tx hb (by rw [sizeLine_eq]; lia) fun t' k' => LQ.str (n.toks rfl) h
end
end Mine
namespace Mine
end Mine
end
section
namespace Mine
section
variable {c : Cx} {lo : Loc} {ob : Obs} {X : QT Addr} {Q : QT V} {QB : QT Bool} {P P' : Prop} {e : Expr} {r : List Expr}
theorem args_nil' {Q : List V → Loc → Obs → Prop} (h : Q [] lo ob) : Args c [] Q X lo ob := h
theorem args_cons' {Q : List V → Loc → Obs → Prop} (h : W c VR (eval e c.env) (fun v lo ob => Args c r (fun vs lo ob => Q (v :: vs) lo ob) X lo ob) X lo ob) : Args c (e :: r) Q X lo ob := h
theorem br_t (h : P) : Br true P P' := ⟨fun _ => h, fun h => nomatch h⟩
theorem br_f (h : P') : Br false P P' := ⟨fun h => (nomatch h), fun _ => h⟩
theorem br_not {b : Bool} (h : Br b P' P) : Br (!b) P P' := by cases b; exact br_t (h.2 rfl); exact br_f (h.1 rfl)
theorem br_dec {p : Prop} [Decidable p] (h1 : p → P) (h2 : ¬ p → P') : Br (decide p) P P' := ⟨fun h => h1 (of_decide_eq_true h), fun h => h2 (of_decide_eq_false h)⟩
theorem br_yes {p : Prop} [Decidable p] (hp : p) (h1 : P) : Br (decide p) P P' := br_dec (fun _ => h1) fun h => absurd hp h
theorem br_no {p : Prop} [Decidable p] (hp : ¬ p) (h1 : P') : Br (decide p) P P' := br_dec (fun h => absurd h hp) fun _ => h1
theorem br_b {b : Bool} (h1 : b = true → P) (h2 : b = false → P') : Br b P P' := ⟨h1, h2⟩
theorem tst_and_nil (h : QB true lo ob) : TstAll c .And [] QB X lo ob := h
theorem tst_and (h : Tst c e (fun v lo ob => Br v (TstAll c .And r QB X lo ob) (QB false lo ob)) X lo ob) : TstAll c .And (e :: r) QB X lo ob := h
theorem tst_or_nil (h : QB false lo ob) : TstAll c .Or [] QB X lo ob := h
theorem tst_or (h : Tst c e (fun v lo ob => Br v (QB true lo ob) (TstAll c .Or r QB X lo ob)) X lo ob) : TstAll c .Or (e :: r) QB X lo ob := h
theorem val_one {op : BoolOp} (h : W c VR (eval e c.env) Q X lo ob) : ValAll c op [e] Q X lo ob := by cases op <;> exact h
theorem val_or {e' : Expr} (h : W c VR (eval e c.env) (fun v lo ob => Tru c v (fun b lo ob => Br b (Q v lo ob) (ValAll c .Or (e' :: r) Q X lo ob)) X lo ob) X lo ob) : ValAll c .Or (e :: e' :: r) Q X lo ob := h
theorem fnq_ret {Q : V → Obs → Prop} {v : V} (h : Q v ob) : FnQ Q (.ret v) lo ob := h
theorem fnq_next {Q : V → Obs → Prop} (h : Q .none ob) : FnQ Q .next lo ob := h
theorem kp_and {f : V} (h : Kp c f) (hp : P) : Kp c f ∧ P := ⟨h, hp⟩
end
end Mine
end
section
namespace Mine

section
variable {M : Model} {A : Around} {E : Value → Shared → Prop} {s : Shared}
theorem entry_raw {base : Heap} {env : Env} {outer : List Env} {L e : Addr} {oe : Obj} {vs : Array Value} {head : Value} {hadNext : Bool} {Q : Unit → Shared → Prop}
    (hfr : A.frames = some (env :: outer)) (hl : s.heap.FunFrames base (env :: outer)) (hf : env.frame = some L) (he : s.heap.get? e = some oe) (hd : oe.data = .fields vs) (hsz : 1 < vs.size)
    (h : ∀ h' T oT ts, (∀ b o, b ∉ (env :: outer).filterMap (·.frame) → b ≠ e → s.heap.get? b = some o → h'.get? b = some o) → (∀ b o, b ≠ e → s.heap.get? b = some o → ∃ sl, h'.get? b = some { o with slots := sl }) →
      h'.get? e = some (oe.mapFields (·.setIfInBounds 1 (.ref T))) → s.heap.get? T = none → h'.get? T = some oT → oT.data = .fields ts → ts[3]? = some (rawInt L) → Q () { s with heap := h' }) :
    wpAny M A (do let a ← frameOf env; let pl ← entryPlaceOf L hadNext; let b ← EntryCells.newEntry head a .none (rawInt L) .none pl; setField (.ref e) 1 b) Q E s := by
  have hene : e ∉ (env :: outer).filterMap (·.frame) := fun hm => by
    refine of_gen fun _ kg => ?_
    obtain ⟨_, o, ho, hnf⟩ := hl.mem hm
    refine kg ?_
    rw [he] at ho; injection ho with ho; subst ho; exact hnf vs hd
  refine wpAny_bind (wpAny_frameOf_fun hfr hl hf fun h₁ hs₁ => ?_)
  refine wpAny_bind (wpAny_entryPlaceOf fun pl hpl => ?_)
  unfold EntryCells.newEntry newFields
  refine wpAny_bind (wpAny_newObj_type ?_ (hpl.sizeOk5 _ _ _ _ _))
  have he₁ : h₁.get? e = some oe := (hs₁.2.1 e hene).trans he
  have he₂ := Heap.get?_push_of_some (h := h₁) { cls := .type "traceback", dict := none, data := .fields ([head, .ref L, .none, rawInt L, .none] ++ (if pl.isEmpty then List.replicate 6 Value.none else pl)).toArray } he₁
  have hTe : h₁.objs.size ≠ e := Nat.ne_of_gt (Heap.lt_size he₁)
  have hd₃ := Obj.data_mapFields hd (·.setIfInBounds 1 (Value.ref h₁.objs.size))
  have keep : ∀ b o, b ≠ e → h₁.get? b = some o →
      ((h₁.push { cls := .type "traceback", dict := none, data := .fields ([head, .ref L, .none, rawInt L, .none] ++ (if pl.isEmpty then List.replicate 6 Value.none else pl)).toArray }).update e (Obj.mapFields (·.setIfInBounds 1 (Value.ref h₁.objs.size)))).get? b = some o :=
    fun b o hbe hb => by
      rw [Heap.get?_update_other _ _ (Ne.symm hbe)]
      exact Heap.get?_push_of_some _ hb
  refine wpAny_setField he₂ hd hsz (h _ h₁.objs.size _ _ (fun b o hb hbe e1 => keep b o hbe ((hs₁.2.1 b hb).trans e1)) (fun b o hbe e1 => ?_) (Heap.get?_update_self _ he₂ (Obj.isFreed_of_fields hd₃)) ?_
    ((Heap.get?_update_other _ _ (Ne.symm hTe)).trans (Heap.get?_push_size _ rfl)) rfl ?_)
  · obtain ⟨sl, e2⟩ := hs₁.2.2 b o e1
    exact ⟨sl, keep b _ hbe e2⟩
  · cases hq : s.heap.get? h₁.objs.size with
    | none => rfl
    | some o =>
      obtain ⟨sl, e2⟩ := hs₁.2.2 _ o hq
      exact absurd (Heap.lt_size e2) (Nat.lt_irrefl _)
  · rcases hpl with rfl | ⟨_, _, _, _, _, _, _, rfl⟩ <;> simp
end

noncomputable def TbAt (c : Cx) (as : List Addr) (h : Heap) (a : Addr) (fl : Value) : Prop := ∃ oe vs b ot ts, h.get? a = some oe ∧ oe.data = .fields vs ∧ vs[1]? = some (.ref b) ∧ h.get? b = some ot ∧ ot.data = .fields ts ∧ ts[3]? = some fl ∧ b ≠ c.L ∧ c.g.hb.get? b = none ∧ b ∉ as
noncomputable def HeldX (c : Cx) (z : List (Addr × Obj)) (a : Addr) (lo : Loc) (ob : Obs) (fl : Value) (s : Shared) : Prop := (∃ cls d arg, (a, Ob.exc cls d arg) ∈ ob) ∧ ∃ m os frs, NowAt c z lo ob s m os frs ∧ TbAt c ((os ++ ((c.rest ++ z) ++ frs)).map (·.1)) s.heap a fl
theorem HeldX.exc {c : Cx} {z : List (Addr × Obj)} {a : Addr} {lo : Loc} {ob : Obs} {fl : Value} {s : Shared} (h : HeldX c z a lo ob fl s) : Exc c z a lo ob s := by
  obtain ⟨hm, m, os, frs, n, oe, vs, b, ot, ts, h1, h2, h3, h4, h5, h6, h7, h8, h9⟩ := h
  exact ⟨hm, m, os, frs, n, oe, vs, h1, h2, .inr ⟨b, ot, ts, h3, h4, h5, (Array.getElem?_eq_some_iff.mp h6).1, h7, h8, h9⟩⟩
theorem HeldX.now {c : Cx} {z : List (Addr × Obj)} {a : Addr} {lo : Loc} {ob : Obs} {fl : Value} {s : Shared} (h : HeldX c z a lo ob fl s) : Now c z lo ob s := by
  obtain ⟨hm, m, os, frs, n, _⟩ := h
  exact ⟨m, os, frs, n⟩

theorem OUpd.same {a : Addr} {b : Ob} {ob : Obs} (h : (a, b) ∈ ob) : OUpd a b b ob ob := by
  induction ob with
  | nil => exact absurd h List.not_mem_nil
  | cons p r ih =>
    rcases List.mem_cons.mp h with e | h
    · subst e; exact .head
    · exact .tail (ih h)
theorem exc_set {P : Params} {cls : Value} {d : Option Addr} {arg : Option V} {oe : Obj} (h : obR P (.exc cls d arg) oe) (T : Value) : obR P (.exc cls d arg) (oe.mapFields (·.setIfInBounds 1 T)) := by
  refine of_gen fun _ kg => ?_
  obtain ⟨h1, h2, a, vs, h3, h4, h5, h6⟩ := h
  refine kg ?_
  refine ⟨(Obj.cls_mapFields _ _).trans h1, fun dd e => ?_, a, vs.setIfInBounds 0 T, ?_, by simp [h4], h5, fun e => by simpa using h6 e⟩
  · obtain ⟨c, dct, dat, sl⟩ := oe
    obtain rfl : dat = _ := h3
    exact h2 dd e
  · rw [Obj.data_mapFields h3]
    congr 1
    apply Array.ext'
    simp

section
variable {c : Cx} {z : List (Addr × Obj)} {lo : Loc} {ob : Obs} {s : Shared} {m : Str → Option Value} {os frs : List (Addr × Obj)} {a : Addr}
theorem NowAt.noted (n : NowAt c z lo ob s m os frs) {cls : Value} {d : Option Addr} {arg : Option V} (hm : (a, Ob.exc cls d arg) ∈ ob) {oe' : Obj} (ho : obR c.g.w.params (.exc cls d arg) oe') {s' : Shared}
    (hk : ∀ b o, b ∉ c.L :: frs.map (·.1) → b ≠ a → (b ∈ (os ++ (c.rest ++ z)).map (·.1) ∨ (c.g.hb.get? b).isSome) → s.heap.get? b = some o → s'.heap.get? b = some o)
    (hf : ∀ b o, b ∈ c.L :: frs.map (·.1) → s.heap.get? b = some o → ∃ sl, s'.heap.get? b = some { o with slots := sl }) (ha : s'.heap.get? a = some oe') (hog : Og s s' := by exact ⟨rfl, rfl⟩) :
    ∃ os' frs', NowAt c z lo ob s' m os' frs' ∧ os'.map (·.1) = os.map (·.1) ∧ frs'.map (·.1) = frs.map (·.1) := by
  refine of_gen fun _ kg => ?_
  obtain ⟨o, h1, hmo, h2⟩ := n.rs.upd (OUpd.same hm) (nd_left n.nd)
  obtain ⟨os', U, r', e⟩ := h2 oe' ho
  obtain ⟨frs', SU, ht⟩ := TI.sameUp_of (h' := s'.heap) (frs := frs) fun p hp => hf p.1 p.2 (.tail _ (List.mem_map_of_mem hp)) (n.N p (List.mem_append_right _ (List.mem_append_right _ hp))).1
  refine kg ?_
  have ha' := n.N (a, o) (List.mem_append_left _ hmo)
  have apart : ∀ p ∈ os ++ (c.rest ++ z), p.1 ∉ c.L :: frs.map (·.1) := fun p hp hq => by
    rcases List.mem_cons.mp hq with e | hq
    · refine (n.N p ?_).2.1 e
      rw [← List.append_assoc]; exact List.mem_append_left _ hp
    · obtain ⟨q, hq, e⟩ := List.mem_map.mp hq
      exact n.apt p hp q hq e
  have hne : ∀ p ∈ c.rest ++ z, p.1 ≠ a := fun p hp q => by
    have := n.nd
    rw [List.map_append, List.nodup_append] at this
    exact this.2.2 a (List.mem_map_of_mem (f := (·.1)) hmo) p.1 (List.mem_map_of_mem (f := (·.1)) hp) q.symm
  have e2 : (os' ++ (c.rest ++ z)).map (·.1) = (os ++ (c.rest ++ z)).map (·.1) := by rw [List.map_append, e, ← List.map_append]
  refine ⟨os', frs', ⟨⟨?_, fun b o' hb => ?_, n.F.above⟩, n.lr, r', fun p hp => ?_, by rw [e2]; exact n.nd, n.fm.up SU, by rw [e2]; exact n.ap, hog.tr n.og⟩, e, sameUp_addrs SU⟩
  · obtain ⟨oL, es, ep, hL, hd, r⟩ := n.F.ns
    obtain ⟨sl, hs⟩ := hf c.L oL (.head _) hL
    exact ⟨_, es, ep, hs, hd, r⟩
  · refine hk b o' (fun hq => ?_) (fun q => ?_) (.inr (by rw [hb]; rfl)) (n.F.keep b o' hb)
    · rcases List.mem_cons.mp hq with e | hq
      · have h1 := Heap.lt_size hb
        rw [e] at h1
        exact absurd n.F.above (Nat.not_le.mpr h1)
      · obtain ⟨q, hq, e⟩ := List.mem_map.mp hq
        have := (n.N q (List.mem_append_right _ (List.mem_append_right _ hq))).2.2
        rw [e, hb] at this; cases this
    · rw [q, ha'.2.2] at hb; cases hb
  · rcases List.mem_append.mp hp with hp | hp
    · rcases upd_mem U p hp with rfl | ⟨hp, hpa⟩
      · exact ⟨ha, ha'.2⟩
      · have h3 := n.N p (List.mem_append_left _ hp)
        exact ⟨hk _ _ (apart p (List.mem_append_left _ hp)) hpa (.inl (List.mem_map_of_mem (List.mem_append_left _ hp))) h3.1, h3.2⟩
    · rcases List.mem_append.mp hp with hp | hp
      · have h3 := n.N p (List.mem_append_right _ (List.mem_append_left _ hp))
        exact ⟨hk _ _ (apart p (List.mem_append_right _ hp)) (hne p hp) (.inl (List.mem_map_of_mem (List.mem_append_right _ hp))) h3.1, h3.2⟩
      · obtain ⟨q, hq, e⟩ := TI.SameUp.fwd SU p hp
        have h3 := n.N q (List.mem_append_right _ (List.mem_append_right _ hq))
        exact ⟨ht p hp, by rw [e]; exact h3.2.1, by rw [e]; exact h3.2.2⟩

theorem NowAt.funs (n : NowAt c z lo ob s m os frs) (ok : c.Ok) {h : Heap} (hf : ∀ b o, b ∈ c.L :: frs.map (·.1) → s.heap.get? b = some o → ∃ sl, h.get? b = some { o with slots := sl }) : ∃ base, h.FunFrames base (c.fenv :: c.outer) ∧ (c.fenv :: c.outer).filterMap (·.frame) = c.L :: frs.map (·.1) := by
  obtain ⟨hn, SU⟩ := TI.sameUp_of (h' := h) (frs := frs) fun p hp => hf p.1 p.2 (.tail _ (List.mem_map_of_mem hp)) (n.N p (List.mem_append_right _ (List.mem_append_right _ hp))).1
  refine ⟨{ objs := #[] }, ?_, ?_⟩
  · refine Heap.FunFrames.cons (by rw [ok.fkind]; decide) ok.fframe (m := m) ?_ (by rfl) ?_
    · obtain ⟨oL, es, ep, hL, hd, r⟩ := n.F.ns
      obtain ⟨sl, hs⟩ := hf c.L oL (.head _) hL
      exact ⟨_, es, ep, hs, hd, r⟩
    · have Fs := n.fm.fs.up SU.1
      exact Fs.fun fun q hq => ⟨SU.2 q hq, by rfl⟩
  · rw [List.filterMap_cons, ok.fframe]
    simp only
    rw [n.fm.fs.addrs]
end
end Mine
end
section
namespace Mine

section
variable {c : Cx} {z : List (Addr × Obj)} {lo : Loc} {ob : Obs} {s : Shared} {m : Str → Option Value} {os frs : List (Addr × Obj)} {a : Addr} {E : Value → Shared → Prop}
theorem addrs_of (as fs : List (Addr × Obj)) {as' fs' : List (Addr × Obj)} (r z : List (Addr × Obj)) (e1 : as'.map (·.1) = as.map (·.1)) (e2 : fs'.map (·.1) = fs.map (·.1)) :
    (as' ++ ((r ++ z) ++ fs')).map (·.1) = (as ++ ((r ++ z) ++ fs)).map (·.1) := by
  simp only [List.map_append, e1, e2]
theorem NowAt.old (n : NowAt c z lo ob s m os frs) {b : Addr} (h : b ∈ (os ++ ((c.rest ++ z) ++ frs)).map (·.1)) : (s.heap.get? b).isSome := by
  refine of_gen fun _ kg => ?_
  obtain ⟨p, hp, rfl⟩ := List.mem_map.mp h
  refine kg ?_
  rw [(n.N p hp).1]; rfl
theorem new_tb (n : NowAt c z lo ob s m os frs) {T : Addr} (hT : s.heap.get? T = none) : T ≠ c.L ∧ c.g.hb.get? T = none ∧ T ∉ (os ++ ((c.rest ++ z) ++ frs)).map (·.1) := by
  refine ⟨fun e => ?_, ?_, fun h => ?_⟩
  · obtain ⟨oL, es, ep, hL, _⟩ := n.F.ns
    rw [e, hL] at hT; cases hT
  · cases hq : c.g.hb.get? T with
    | none => rfl
    | some o => have := n.F.keep T o hq; rw [hT] at this; cases this
  · have := n.old h
    rw [hT] at this; cases this

theorem note_exc (ok : c.Ok) {Q : Unit → Shared → Prop} (x : Exc c z a lo ob s) (h : ∀ h', HeldX c z a lo ob (rawInt c.L) { s with heap := h' } → Q () { s with heap := h' }) :
    wpAny c.g.M c.B (noteFrame (.ref a) c.fenv) Q E s := by
  refine of_gen fun _ kg => ?_
  obtain ⟨⟨cls, d, arg, hm⟩, m, os, frs, n, oe, vs, he, hd, htb⟩ := x
  obtain ⟨o, hmo, _, hge, hobr⟩ := n.mem hm
  refine kg ?_
  rw [he] at hge; cases hge
  have hae : ∀ b, b ∈ c.L :: frs.map (·.1) → b ≠ a := fun b hb q => by
    subst q
    have hp : (b, oe) ∈ os ++ (c.rest ++ z) := List.mem_append_left _ hmo
    rcases List.mem_cons.mp hb with e | hb
    · exact (n.N (b, oe) (List.mem_append_left _ hmo)).2.1 e
    · obtain ⟨q, hq, e⟩ := List.mem_map.mp hb
      exact n.apt (b, oe) hp q hq e
  have hsz : 1 < vs.size := by
    refine of_gen fun _ kg => ?_
    obtain ⟨_, _, a0, ws, h1, h2, _⟩ := hobr
    refine kg ?_
    rw [hd] at h1; cases h1; simp [h2]
  -- the entry itself, from a heap where the older head is let go
  have go : ∀ (h₁ : Heap) (head : Value) (hn : Bool), (∀ b o, b ∈ c.L :: frs.map (·.1) ∨ b ∈ (os ++ (c.rest ++ z)).map (·.1) ∨ (c.g.hb.get? b).isSome → s.heap.get? b = some o → h₁.get? b = some o) → (∀ T, h₁.get? T = none → s.heap.get? T = none) →
      wpAny c.g.M c.B (do let a' ← frameOf c.fenv; let pl ← entryPlaceOf c.L hn; let b ← EntryCells.newEntry head a' .none (rawInt c.L) .none pl; setField (.ref a) 1 b) Q E { s with heap := h₁ } := by
    intro h₁ head hn hk1 hT1
    refine of_gen fun _ kg => ?_
    obtain ⟨base, hff, hadr⟩ := n.funs ok (h := h₁) fun b o hb e => ⟨o.slots, hk1 b o (.inl hb) e⟩
    refine kg ?_
    have he1 : h₁.get? a = some oe := hk1 a oe (.inr (.inl (List.mem_map_of_mem (List.mem_append_left _ hmo)))) he
    refine entry_raw (s := { s with heap := h₁ }) ok.fr hff ok.fframe he1 hd hsz fun h' T oT ts k1 k2 k3 k4 k5 k6 k7 => h h' ?_
    obtain ⟨os', frs', n', e1, e2⟩ := n.noted hm (s' := { s with heap := h' }) (exc_set hobr (.ref T)) (fun b o h1 h2 h3 h4 => k1 b o (by rw [hadr]; exact h1) h2 (hk1 b o (.inr h3) h4)) (fun b o h1 h2 => k2 b o (hae b h1) (hk1 b o (.inl h1) h2)) k3
    obtain ⟨t1, t2, t3⟩ := new_tb n (hT1 T k4)
    exact ⟨⟨cls, d, arg, hm⟩, m, os', frs', n', _, _, T, oT, ts, k3, Obj.data_mapFields hd _, by simp [hsz], k5, k6, k7, t1, t2, by rw [addrs_of os frs c.rest z e1 e2]; exact t3⟩
  rcases htb with h1 | ⟨b, ot, ts, h1, hb, hbd, h3, hbL, hbh, hba⟩
  · unfold noteFrame
    simp only [ok.fframe]
    refine wpAny_bind (wpAny_field he hd h1 ?_)
    rw [if_neg (by decide)]
    exact go s.heap .none _ (fun _ _ _ e => e) (fun _ e => e)
  · obtain ⟨fl, h3'⟩ : ∃ fl, ts[3]? = some fl := ⟨_, Array.getElem?_eq_getElem h3⟩
    unfold noteFrame
    simp only [ok.fframe]
    refine wpAny_bind (wpAny_field he hd h1 ?_)
    rw [if_pos (show (Value.ref b != Value.none) = true from by simp)]
    refine wpAny_bind (wpAny_field hb hbd h3' ?_)
    by_cases hfl : fl = rawInt c.L
    · subst hfl
      rw [if_pos (by simp)]
      exact wpAny_pure (h s.heap ⟨⟨cls, d, arg, hm⟩, m, os, frs, n, oe, vs, b, ot, ts, he, hd, h1, hb, hbd, h3', hbL, hbh, hba⟩)
    · rw [if_neg (by simpa using hfl)]
      refine wpAny_bind (wpAny_setField hb hbd h3 ?_)
      have other : ∀ x, x ≠ b → (s.heap.update b (Obj.mapFields (·.setIfInBounds 3 Value.none))).get? x = s.heap.get? x := fun x hx => Heap.get?_update_other _ _ (Ne.symm hx)
      refine go _ _ _ (fun x o hx e => ?_) (fun T e => ?_)
      · refine (other x fun q => ?_).trans e
        subst q
        rcases hx with hx | hx | hx
        · rcases List.mem_cons.mp hx with e | hx
          · exact hbL e
          · exact hba (by rw [List.map_append, List.map_append]; exact List.mem_append_right _ (List.mem_append_right _ hx))
        · refine hba ?_
          rw [← List.append_assoc, List.map_append]
          exact List.mem_append_left _ hx
        · rw [hbh] at hx; cases hx
      · by_cases hq : T = b
        · subst hq
          have := Heap.get?_update_self (Obj.mapFields (·.setIfInBounds 3 Value.none)) hb (Obj.isFreed_of_fields (Obj.data_mapFields hbd _))
          rw [this] at e; cases e
        · exact (other T hq).symm.trans e

theorem flight_exc {fl : Value} {f : Option Addr} {Q : Unit → Shared → Prop} (x : HeldX c z a lo ob fl s) (h : ∀ h', HeldX c z a lo ob (f.elim .none fun f => rawInt f) { s with heap := h' } → Q () { s with heap := h' }) :
    wpAny c.g.M c.B (setFlight (.ref a) f) Q E s := by
  refine of_gen fun _ kg => ?_
  obtain ⟨⟨cls, d, arg, hm⟩, m, os, frs, n, oe, vs, b, ot, ts, he, hd, h1, hb, hbd, h3, hbL, hbh, hba⟩ := x
  refine kg ?_
  have hsz3 : 3 < ts.size := (Array.getElem?_eq_some_iff.mp h3).1
  have other : ∀ x, x ≠ b → ∀ v, (s.heap.update b (Obj.mapFields (·.setIfInBounds 3 v))).get? x = s.heap.get? x := fun x hx v => Heap.get?_update_other _ _ (Ne.symm hx)
  unfold setFlight
  refine wpAny_bind (wpAny_field he hd h1 ?_)
  rw [if_pos (show (Value.ref b != Value.none) = true from by simp)]
  refine wpAny_setField hb hbd hsz3 (h _ ⟨⟨cls, d, arg, hm⟩, m, os, frs, ?_, oe, vs, b, _, _, ?_, hd, h1, Heap.get?_update_self _ hb (Obj.isFreed_of_fields (Obj.data_mapFields hbd _)), Obj.data_mapFields hbd _, by simp [hsz3], hbL, hbh, hba⟩)
  · refine n.go ⟨?_, fun x o e => (other x (fun q => ?_) _).trans (n.F.keep x o e), n.F.above⟩ fun p hp => ⟨(other p.1 (fun q => hba (by rw [← q]; exact List.mem_map_of_mem hp)) _).trans (n.N p hp).1, (n.N p hp).2⟩
    · obtain ⟨oL, es, ep, hL, r⟩ := n.F.ns
      exact ⟨oL, es, ep, (other c.L (Ne.symm hbL) _).trans hL, r⟩
    · rw [q, hbh] at e; cases e
  · obtain ⟨o, hmo, _, _, _⟩ := n.mem hm
    exact (other a (fun q => hba (by rw [← q]; exact List.mem_map_of_mem (f := (·.1)) (List.mem_append_left _ hmo))) _).trans he

theorem passes_all (ok : c.Ok) (hv : c.cv = none) (X : QT Addr) : Passes c X := by
  rintro z e s'
  intro hgr115_0
  refine of_gen fun _ kg => ?_
  obtain ⟨a, lo, ob, rfl, x, hX⟩ := hgr115_0
  refine kg ?_
  have he : c.env = c.fenv := ok.fn hv
  unfold notedBy
  rw [he]
  refine note_exc ok x fun h' x' => ?_
  unfold cameBackBy
  have x2 := x'
  refine of_gen fun _ kg => ?_
  obtain ⟨hm, m, os, frs, n, oe, vs, b, ot, ts, g1, g2, g3, g4, g5, g6, g7, g8, g9⟩ := x2
  refine kg ?_
  refine wpAny_bind (wpAny_field g1 g2 g3 ?_)
  rw [if_neg (by simp)]
  exact flight_exc x' fun h'' x'' => ⟨a, lo, ob, rfl, x''.exc, hX⟩
end
end Mine
end
section
namespace Mine

theorem mem_mid {α : Type} {a b d e f : List α} {x : α} (h : x ∈ a ++ ((b ++ d) ++ f)) : x ∈ a ++ (([] ++ (b ++ d)) ++ (e ++ f)) := by
  simp only [List.nil_append, List.mem_append] at h ⊢
  rcases h with h | (h | h) | h
  · exact .inl h
  · exact .inr (.inl (.inl h))
  · exact .inr (.inl (.inr h))
  · exact .inr (.inr (.inr h))

theorem leaves_all (X : QT Addr) : LeavesOK X (fun a ob => ∃ lo, X a lo ob) := by
  rintro c A env oL frs d m z lo e s ok ok' fm lr hoL habove hne
  intro hgr18_0
  refine of_gen fun _ kg => ?_
  obtain ⟨a, lo', ob, rfl, x, hX⟩ := hgr18_0
  refine kg ?_
  have key : ∀ s' : Shared, HeldX (callee c A env c.L oL frs d) (c.rest ++ z) a lo' ob .none s' → ∃ a' ob', Value.ref a = .ref a' ∧ Exc c z a' lo ob' s' ∧ ∃ lo, X a' lo ob' := by
    rintro s'
    intro hgr20_0
    refine of_gen fun _ kg => ?_
    obtain ⟨hm, m', os', frs', n, oe, vs, b, ot, ts, g1, g2, g3, g4, g5, g6, g7, g8, g9⟩ := hgr20_0
    refine kg ?_
    have hsu := n.fm.su
    cases frs' with
    | nil => exact hsu.elim
    | cons q qs =>
      refine of_gen fun _ kg => ?_
      obtain ⟨h1, ⟨sl, h2⟩, SU'⟩ := hsu
      refine kg ?_
      have h1' : q.1 = c.L := h1
      have h2' : q.2 = { oL with slots := sl } := h2
      have hq := (n.N q (List.mem_append_right _ (List.mem_append_right _ List.mem_cons_self))).1
      rw [h1', h2'] at hq
      refine of_gen fun _ kg => ?_
      obtain ⟨es, ep, hLd, hLk, hLf⟩ := hoL
      refine kg ?_
      have hap : ∀ a ∈ (os' ++ (c.rest ++ z)).map (·.1), a ≠ c.L ∧ a ∉ frs.map (·.1) := fun a ha => ⟨fun e => n.ap a ha (by rw [e]; exact .head _), fun hm => n.ap a ha (.tail _ hm)⟩
      have sub : ∀ r ∈ os' ++ ((c.rest ++ z) ++ qs), r ∈ os' ++ (([] ++ (c.rest ++ z)) ++ q :: qs) := fun r hr => mem_mid (e := [q]) hr
      refine ⟨a, ob, rfl, ⟨hm, m, os', qs, ⟨⟨⟨_, es, ep, hq, hLd, hLk, hLf⟩, n.F.keep, habove⟩, lr, n.rs, fun r hr => ⟨(n.N r (sub r hr)).1, ?_, (n.N r (sub r hr)).2.2⟩, n.nd, fm.up SU', (fun a ha hm => ?_), n.og⟩, oe, vs, g1, g2, .inr ⟨b, ot, ts, g3, g4, g5, (Array.getElem?_eq_some_iff.mp g6).1, ?_, g8, fun hb => g9 ?_⟩⟩, lo', hX⟩
      · simp only [List.mem_append] at hr
        rcases hr with h | (h | h) | h
        · exact (hap r.1 (List.mem_map_of_mem (f := fun p : Addr × Obj => p.1) (List.mem_append_left _ h))).1
        · exact (hap r.1 (List.mem_map_of_mem (f := fun p : Addr × Obj => p.1) (List.mem_append_right _ (List.mem_append_left _ h)))).1
        · exact (hap r.1 (List.mem_map_of_mem (f := fun p : Addr × Obj => p.1) (List.mem_append_right _ (List.mem_append_right _ h)))).1
        · intro e
          refine of_gen fun _ kg => ?_
          obtain ⟨q0, hq0, e0⟩ := TI.SameUp.fwd SU' r h
          refine kg ?_
          exact hne q0 hq0 (by rw [← e0]; exact e)
      · exact (hap a ha).2 (by rw [← sameUp_addrs fm.su] at hm; exact hm)
      · intro e
        refine g9 ?_
        have : q.1 ∈ (os' ++ (([] ++ (c.rest ++ z)) ++ q :: qs)).map (fun p : Addr × Obj => p.1) := List.mem_map_of_mem (f := fun p : Addr × Obj => p.1) (List.mem_append_right _ (List.mem_append_right _ (List.Mem.head _)))
        rw [e, ← h1']
        exact this
      · obtain ⟨r, hr, e⟩ := List.mem_map.mp hb
        rw [← e]
        exact List.mem_map_of_mem (f := (·.1)) (sub r hr)
  unfold leaving
  refine wpAny_bind (note_exc ok' x fun h' x' => ?_)
  exact flight_exc x' fun h'' x'' => key _ x''

noncomputable abbrev mk (c : Cx) (a : Addr) : Cx := { c with B := c.B.mark (some (.ref a)) }
theorem mk_ok {c : Cx} (ok : c.Ok) (a : Addr) : (mk c a).Ok := ⟨ok.g, ok.fr, ok.fns, ok.nd, ok.fframe, ok.fkind, ok.frame, ok.kind, ok.glob, ok.blt, ok.nd', ok.room, ok.un, ok.fn, ok.cm, ok.fv⟩
section
variable {c : Cx} {z : List (Addr × Obj)} {lo : Loc} {ob : Obs} {s : Shared} {a e : Addr} {X : QT Addr} {Q : QT AF}
theorem Now.mk (n : Now c z lo ob s) : Now (mk c a) z lo ob s := by
  obtain ⟨m, os, frs, n⟩ := n
  exact ⟨m, os, frs, n.F, n.lr, n.rs, n.N, n.nd, n.fm, n.ap, n.og⟩
theorem Now.unmk (n : Now (Mine.mk c a) z lo ob s) : Now c z lo ob s := by
  obtain ⟨m, os, frs, n⟩ := n
  exact ⟨m, os, frs, n.F, n.lr, n.rs, n.N, n.nd, n.fm, n.ap, n.og⟩
theorem HeldX.unmk {fl : Value} (n : HeldX (Mine.mk c a) z e lo ob fl s) : HeldX c z e lo ob fl s := by
  obtain ⟨hm, m, os, frs, n, t⟩ := n
  exact ⟨hm, m, os, frs, ⟨n.F, n.lr, n.rs, n.N, n.nd, n.fm, n.ap, n.og⟩, t⟩
theorem HeldX.mk {fl : Value} (n : HeldX c z e lo ob fl s) : HeldX (Mine.mk c a) z e lo ob fl s := by
  obtain ⟨hm, m, os, frs, n, t⟩ := n
  exact ⟨hm, m, os, frs, ⟨n.F, n.lr, n.rs, n.N, n.nd, n.fm, n.ap, n.og⟩, t⟩
theorem LQ.unmk {α β : Type} {rel : β → α → Prop} {Q : QT β} {v : α} (h : LQ (Mine.mk c a) z rel Q v s) : LQ c z rel Q v s := by
  obtain ⟨b, lo, ob, hr, n, hq⟩ := h
  exact ⟨b, lo, ob, hr, n.unmk, hq⟩
theorem passes_mk (ok : c.Ok) (hv : c.cv = none) {v : Value} {s : Shared} (h : LX (Mine.mk c a) z X v s) : notedBy c.g.M (c.B.mark (some (.ref a))) c.env (cameBackBy c.g.M c.B c.env (LX c z X)) v s := by
  refine of_gen fun _ kg => ?_
  obtain ⟨e, lo, ob, rfl, x, hX⟩ := h
  refine kg ?_
  have he : c.env = c.fenv := ok.fn hv
  unfold notedBy
  rw [he]
  refine note_exc (c := Mine.mk c a) (mk_ok ok a) x fun h' x' => ?_
  unfold cameBackBy
  have x2 := x'.unmk
  refine of_gen fun _ kg => ?_
  obtain ⟨hm, m, os, frs, n, oe, vs, b, ot, ts, g1, g2, g3, g4, g5, g6, g7, g8, g9⟩ := id x2
  refine kg ?_
  refine wpAny_bind (wpAny_field g1 g2 g3 ?_)
  rw [if_neg (by simp)]
  exact flight_exc x2 fun h'' x'' => ⟨e, lo, ob, rfl, x''.exc, hX⟩
theorem looks_type {o : Obj} {cls : Value} {h : Heap} {M : Model} (ho : h.get? a = some o) (hc : o.cls = cls) : Looks M h (typeOf (.ref a)) cls := by
  subst hc
  exact (Looks.ld (part := some headPart) ho).andThen .now
theorem pass_on (ok : c.Ok) (hv : c.cv = none) {what : String} {fl : Value} (x : HeldX c z a lo ob fl s) (hX : X a lo ob) {Q : Flow → Shared → Prop} : wpAny c.g.M c.B (PySem.passOn what (.ref a) c.env : Sem Flow) Q (LX c z X) s := by
  refine of_gen fun _ kg => ?_
  obtain ⟨hm, m, os, frs, n, oe, vs, b, ot, ts, g1, g2, g3, g4, g5, g6, g7, g8, g9⟩ := id x
  refine kg ?_
  unfold PySem.passOn
  refine wpAny_bind (wpAny_field g1 g2 g3 ?_)
  rw [if_neg (by simp)]
  refine wpAny_bind (flight_exc x fun h' x' => wpAny_throw ⟨a, lo, ob, rfl, x'.exc, hX⟩)

noncomputable def NameIs (c : Cx) (t : Expr) (ct : Value) : Prop := ∀ z lo ob s, Now c z lo ob s → ∀ (Q : Value → Shared → Prop) (E : Value → Shared → Prop), Q ct s → wpAny c.g.M c.B (eval t c.env) Q E s
theorem nameIs_glob {x : Str} {v : Value} {p : Pos} {ns : Nms} (ok : c.Ok) (hns : c.env.scope.names = ns) (hk : InN ns x .globalImplicit) (hx : nsIn c.g.K mainGlobals x = some (some v)) (hd : (x == ("__debug__" : Str)) = false := by decide) : NameIs c (.Name x p) v := by
  subst hns
  rintro z lo ob s
  intro hgr117_0
  refine of_gen fun _ kg => ?_
  obtain ⟨m, os, frs, n⟩ := hgr117_0
  refine kg ?_
  rintro Q E h
  refine Calls.Name_function_global ok.kind (hk.lookup ok.nd') (Calls.loadGlobal_global (mg := c.g.mg) ?_ (mg_of ok.g.X ok.g.T.g hx) h) hd
  rw [ok.glob]; exact ok.g.T.g.keeps n.F.keep
theorem nameIs_blt {x : Str} {v : Value} {p : Pos} {ns : Nms} (ok : c.Ok) (hns : c.env.scope.names = ns) (hk : InN ns x .globalImplicit) (hx : nsIn c.g.K mainGlobals x = some none) (hb : bootBuiltins x = some v) (hn : x ≠ "__name__" := by decide) (hd : (x == ("__debug__" : Str)) = false := by decide) : NameIs c (.Name x p) v := by
  subst hns
  rintro z lo ob s
  intro hgr122_0
  refine of_gen fun _ kg => ?_
  obtain ⟨m, os, frs, n⟩ := hgr122_0
  refine kg ?_
  rintro Q E h
  refine Calls.Name_function_global ok.kind (hk.lookup ok.nd') (Calls.loadGlobal_builtin (mg := c.g.mg) (mb := c.g.mb) ?_ (mg_none_of ok.g.X ok.g.T.g hx) ?_ ((ok.g.T.builtins x hn).trans hb) h) hd
  · rw [ok.glob]; exact ok.g.T.g.keeps n.F.keep
  · rw [ok.blt]; exact ok.g.T.b.keeps n.F.keep
noncomputable def Hdl (c : Cx) (t : Expr) (hb : List Stmt) (Q : QT AF) (X : QT Addr) : QT Addr := fun a lo ob =>
  ∃ cls d arg ct b, (a, Ob.exc cls d arg) ∈ ob ∧ NameIs (Mine.mk c a) t ct ∧ exmOne c.g.K cls ct = some b ∧
    if b = true then W (Mine.mk c a) FR (execs hb (Mine.mk c a).env) Q X lo ob else X a lo ob
end
end Mine
end
section
namespace Mine

section
variable {c : Cx} {lo : Loc} {ob ob' : Obs} {X : QT Addr} {Q : QT V} {QF : QT AF}
noncomputable def SetA (c : Cx) (o : V) (name : Str) (v : V) (Q : Loc → Obs → Prop) (X : QT Addr) (lo : Loc) (ob : Obs) : Prop := ∀ co cv, VR o co → VR v cv → W c UR (setAttr co name cv) (fun _ => Q) X lo ob
theorem seta_inst {x C d : Addr} {es es' : List (Str × V)} {name : Str} {v : V} {Q : Loc → Obs → Prop} (ok : c.Ok) (h1 : (x, .inst C d) ∈ ob) (u : OUpd d (.dct es) (.dct es') ob ob') (hs : findIn c.g.K (.ref C) "__setattr__" = some (some (.builtin "object.__setattr__"))) (hp : plainOver c.g.K C = true)
    (ht : takerIn c.g.K C name = some none) (hh : hasDictIn c.g.K C = true) (e : EPut es name v es') (hz : es'.length ≤ 1000) (h : Q lo ob') : SetA c (.ref x) name v Q X lo ob := by
  rintro _ cv rfl hv z s
  intro hgr14_0
  refine of_gen fun _ kg => ?_
  obtain ⟨m, os, frs, n⟩ := hgr14_0
  refine kg ?_
  refine of_gen fun _ kg => ?_
  obtain ⟨ox, hx1, _, hx2, hx3⟩ := n.mem h1
  obtain ⟨o, ⟨cs, k, rfl, hr⟩, hm, hu⟩ := n.upd u
  refine kg ?_
  cases hx3
  have hr' := hr.put e hv (s.toks + 1)
  refine of_gen fun _ kg => ?_
  obtain ⟨os', U, fin⟩ := hu _ ⟨_, putN name cs k, rfl, hr'⟩
  refine kg ?_
  have hd := (n.N _ (List.mem_append_left _ hm)).1
  refine set_dict n.F ok.g.X n.N ⟨hx2, rfl, rfl, hd⟩ rfl hs hp ht hh (getL_some hr) rfl U (by rw [hr'.length]; exact hz) fun h' F' N' => ?_
  exact ⟨(), lo, ob', trivial, ⟨m, os', frs, fin { s with heap := h', toks := s.toks + 2 } ⟨rfl, rfl⟩ F' N'⟩, h⟩
theorem S_AssignA {o e : Expr} {name : Str} {ap pos : Pos} (h : W c VR (eval e c.env) (fun v lo ob => W c VR (eval o c.env) (fun ov lo ob => SetA c ov name v (QF .next) X lo ob) X lo ob) X lo ob)
    (hs : swapsWith e (some (.Attribute o name ap)) pos.line c.env = pure false := by rfl) : W c FR (exec (.Assign [.Attribute o name ap] e pos) c.env) QF X lo ob := fun z s n =>
  plainObj_wpAny_Assign_Attribute (thenQ (h z s n) fun cv s' v lo ob hv n h => thenQ (h z s' n) fun co s' ov lo ob ho n h => thenQ (h co cv ho hv z s' n) fun _ s' _ lo ob _ n h => ⟨AF.next, lo, ob, rfl, n, h⟩) hs

theorem cal_cls {C f : Addr} {args : List V} {d : Nat} {hq : Bool} (ok : c.Ok) (hm : makesIn c.g.K C = true) (hi : findIn c.g.K (.ref C) "__init__" = some (some (.ref f))) (hfn : isFn c.g.K (.ref f) = true) (hd : d + 1 ≤ c.d) (hh : hq = true ∨ c.B.handled = none)
    (h : ∀ x dx, FnC c.g f (.ref x :: args) d hq (fun v ob => v = .none ∧ Q (.ref x) lo ob) (fun a ob => X a lo ob) ((x, .inst C dx) :: (dx, .dct []) :: ob)) : Cal c (.ref C) args Q X lo ob := by
  rintro _ cas rfl hv z s
  intro hgr34_0
  refine of_gen fun _ kg => ?_
  obtain ⟨m, os, frs, n⟩ := hgr34_0
  refine kg ?_
  refine call_cls n.F ok.g.X n.N hm hi hfn ?_
  intro x dx h' F' N' l1 l2
  have hb : c.B.depth + c.d < recursionLimit := ok.room
  have n1 : NowAt c z lo ((dx, .dct []) :: ob) { s with heap := h' } m ((dx, dictOf [] 0) :: os) frs := n.add (s' := { s with heap := h' }) F' (fun p hp => N' p (.tail _ hp)) ⟨[], 0, rfl, .nil⟩ fun p hp => Nat.ne_of_lt (l1 p hp)
  have n2 : NowAt c z lo ((x, .inst C dx) :: (dx, .dct []) :: ob) { s with heap := h' } m ((x, instObj C dx) :: (dx, dictOf [] 0) :: os) frs := n1.add F' N' rfl fun p hp => by
    rcases List.mem_cons.mp hp with rfl | hp
    · exact Nat.ne_of_lt l2
    · exact Nat.ne_of_lt (Nat.lt_trans (l1 p hp) l2)
  refine codeAny_mono (h x dx c (c.B.under (.builtin "type.__call__" ⟨.ref C :: cas, []⟩)) ok rfl (frames_call ok.fr) (by rw [depth_under_make]; lia) (by have := ok.un; rw [units_under_make]; lia) (fun q => hh.resolve_left (by rw [q]; simp)) (.ref x :: cas) (.cons rfl hv) z lo { s with heap := h' } ⟨m, _, frs, n2⟩) fun r s' hr => ?_
  match r with
  | .ok (.ret v) =>
    obtain ⟨u, ob, hu, n, rfl, hq⟩ := hr
    exact ⟨hu, .ref x, lo, ob, rfl, n, hq⟩
  | .ok .next => exact hr.elim
  | .ok .brk => exact hr.elim
  | .ok .cont => exact hr.elim
  | .error e => obtain ⟨a, ob, rfl, n, hq⟩ := hr; exact ⟨a, lo, ob, rfl, n, hq⟩

theorem W_List {es : List Expr} {p : Pos} (hs : noStar es = true) (h : Args c es (fun vs lo ob => vs.length ≤ 100000 ∧ ∀ a, Q (.ref a) lo ((a, .list vs) :: ob)) X lo ob) : W c VR (eval (.List es p) c.env) Q X lo ob := fun z s n => by
  refine List_ ?_
  rw [starEach_of hs]
  refine thenQ (spliced_of h z s n) fun cs s' vs lo ob hv n h => ?_
  refine of_gen fun _ kg => ?_
  obtain ⟨m, os, frs, n⟩ := n
  refine kg ?_
  exact wpAny_newList ⟨.ref s'.heap.objs.size, lo, _, rfl, ⟨m, _, frs, n.push (b := .list vs) ⟨cs, 0, rfl, hv⟩ rfl⟩, h.2 _⟩ (Nat.le_trans (hv.length ▸ h.1) (by rw [sizeLine_eq]; decide))
theorem W_Tuple {es : List Expr} {k : Nat} {p : Pos} (hs : noStar es = true) (h : Args c es (fun vs lo ob => vs.length ≤ 100000 ∧ ∀ a, Q (.ref a) lo ((a, .tup vs) :: ob)) X lo ob) : W c VR (eval (.Tuple es k p) c.env) Q X lo ob := fun z s n => by
  refine Tuple_ ?_
  rw [starEach_of hs]
  refine thenQ (spliced_of h z s n) fun cs s' vs lo ob hv n h => ?_
  refine of_gen fun _ kg => ?_
  obtain ⟨m, os, frs, n⟩ := n
  refine kg ?_
  exact PySem.wpAny_newTuple ⟨.ref s'.heap.objs.size, lo, _, rfl, ⟨m, _, frs, n.push (b := .tup vs) ⟨rfl, cs, 0, rfl, hv⟩ rfl⟩, h.2 _⟩ (Nat.le_trans (hv.length ▸ h.1) (by rw [sizeLine_eq]; decide))
theorem disp {P : Prop} {n : Nat} (h : n ≤ 100000) (hp : P) : n ≤ 100000 ∧ P := ⟨h, hp⟩

theorem getm_list {a : Addr} {vs : List V} {name : Str} {id : String} {Q : V → List V → Loc → Obs → Prop} (hm : (a, .list vs) ∈ ob) (slot : Slot "list" name id) (ht : typeOf (.builtin id) = pure (.type "method_descriptor")) (h : Q (.cv (.builtin id)) [.ref a] lo ob) : GetM c (.ref a) name Q X lo ob := by
  rintro _ pl rfl z s n0
  refine of_gen fun _ kg => ?_
  obtain ⟨m, os, frs, n⟩ := n0
  obtain ⟨o, _, _, ha, ks, k, rfl, hr⟩ := n.mem hm
  refine kg ?_
  exact getMethod_builtin ⟨_, ha, rfl⟩ PySem.F.plainAttrs_list slot ht (fun a e => by cases e; exact ⟨_, ha, rfl⟩) ⟨(.cv (.builtin id), [.ref a]), lo, ob, ⟨rfl, .one rfl⟩, ⟨m, os, frs, n⟩, h⟩
theorem getm_str {l : List Nat} {name : Str} {id : String} {Q : V → List V → Loc → Obs → Prop} (slot : Slot "str" name id) (ht : typeOf (.builtin id) = pure (.type "method_descriptor")) (h : Q (.cv (.builtin id)) [.str l] lo ob) : GetM c (.str l) name Q X lo ob := by
  rintro _ pl ⟨t, rfl⟩ z s n
  exact getMethod_builtin (typeIs_str s (tx l) t) PySem.F.plainAttrs_str slot ht (fun a e => by cases e) ⟨(.cv (.builtin id), [.str l]), lo, ob, ⟨rfl, .one ⟨_, rfl⟩⟩, n, h⟩
theorem append_list {a : Addr} {vs : List V} {v : V} (u : OUpd a (.list vs) (.list (vs ++ [v])) ob ob') (hz : vs.length ≤ 100000) (h : Q .none lo ob') : Cal c (.cv (.builtin "list.append")) [.ref a, v] Q X lo ob := by
  rintro _ cs rfl hv z s
  intro hgr84_0
  refine of_gen fun _ kg => ?_
  obtain ⟨m, os, frs, n⟩ := hgr84_0
  refine kg ?_
  refine of_gen fun _ kg => ?_
  obtain ⟨_, cv, rfl, rfl, hcv⟩ := VRs2 hv
  obtain ⟨o, ⟨ks, k, rfl, hr⟩, hm, hu⟩ := n.upd u
  obtain ⟨os', U, fin⟩ := hu (W.listOf (ks.toArray.push cv) (k + 1)) ⟨ks ++ [cv], k + 1, by simp, hr.append (.one hcv)⟩
  refine kg ?_
  refine append_K n.F n.N U (fun h' F' N' => LQ.none ⟨m, os', frs, fin { s with heap := h' } ⟨rfl, rfl⟩ F' N'⟩ h) ?_
  rw [List.size_toArray, ← hr.length, sizeLine_eq]; lia
end
end Mine
end
section
namespace Mine

noncomputable def cut {α : Type} (l : List α) (lo hi : Option Int) : List α := (l.drop (kms_lo lo l.length)).take (kms_hi hi l.length - kms_lo lo l.length)
theorem VRs.drop : ∀ {vs : List V} {cs : List Value} (k : Nat), VRs vs cs → VRs (vs.drop k) (cs.drop k)
  | _, _, 0, h => h
  | _, _, _ + 1, .nil => .nil
  | _, _, k + 1, .cons _ r => r.drop k
theorem VRs.take : ∀ {vs : List V} {cs : List Value} (k : Nat), VRs vs cs → VRs (vs.take k) (cs.take k)
  | _, _, 0, _ => .nil
  | _, _, _ + 1, .nil => .nil
  | _, _, k + 1, .cons a r => .cons a (r.take k)
theorem VRs.cut {vs : List V} {cs : List Value} (h : VRs vs cs) (lo hi : Option Int) : VRs (cut vs lo hi) (kms_pick cs lo hi) := by
  unfold Mine.cut kms_pick
  rw [h.length]
  exact (h.drop _).take _

noncomputable def LA (c : Cx) (ob : Obs) (a : Addr) (vs : List V) : Prop := (a, .list vs) ∈ ob ∨ ∃ cs, c.g.hb.IsList a cs.toArray ∧ VRs vs cs
section
variable {c : Cx} {lo : Loc} {ob ob' : Obs} {X : QT Addr} {Q : QT V} {QF : QT AF}
theorem LA.at {a : Addr} {vs : List V} (h : LA c ob a vs) {z : List (Addr × Obj)} {s : Shared} {m : Str → Option Value} {os frs : List (Addr × Obj)} (n : NowAt c z lo ob s m os frs) : ∃ cs, s.heap.IsList a cs.toArray ∧ VRs vs cs := by
  rcases h with h | ⟨cs, ⟨o, h1, h2, h3⟩, hr⟩
  · obtain ⟨o, _, _, ha, cs, k, rfl, hr⟩ := n.mem h
    exact ⟨cs, ⟨_, ha, rfl, _, rfl⟩, hr⟩
  · exact ⟨cs, ⟨o, n.F.keep _ _ h1, h2, h3⟩, hr⟩

theorem W_Sub {value slice : Expr} {p : Pos} (h : W c VR (eval value c.env) (fun a lo ob => W c VR (eval slice c.env) (fun b lo ob => Sub2 c value slice a b Q X lo ob) X lo ob) X lo ob) : W c VR (eval (.Subscript value slice p) c.env) Q X lo ob := fun z s n =>
  Subscript_ (thenQ (h z s n) fun ca s' a lo ob ha n h => thenQ (h z s' n) fun cb s' b lo ob hb n h => h ca cb ha hb z s' n)

noncomputable def Part (c : Cx) (e : Option Expr) (Q : QT (Option Int)) (X : QT Addr) (lo : Loc) (ob : Obs) : Prop := match e with
  | none => Q none lo ob
  | some e => W c VR (eval e c.env) (fun v lo ob => ∃ i, v = .int i ∧ Q (some i) lo ob) X lo ob
noncomputable def PR : Option Int → Value → Prop
  | none, v => v = Value.none
  | some i, v => ∃ t, v = .int i t
theorem PR.part {o : Option Int} {v : Value} (h : PR o v) : IsPart v o := by
  cases o with
  | none => cases h; exact .none
  | some i => obtain ⟨t, rfl⟩ := h; exact .int _ _
theorem part_eval {e : Option Expr} {Q : QT (Option Int)} (h : Part c e Q X lo ob) : W c PR (evalPart e c.env) Q X lo ob := by
  cases e with
  | none => exact fun z s n => wpAny_pure ⟨none, lo, ob, rfl, n, h⟩
  | some e => exact fun z s n => wpAny_mono (h z s n) (fun cv s' ⟨v, lo, ob, hv, n, i, e, h⟩ => by subst e; exact ⟨some i, lo, ob, hv, n, h⟩) fun _ _ x => x
noncomputable def Cut (c : Cx) (value slice : Expr) (v : V) (l u : Option Int) (Q : QT V) (X : QT Addr) (lo : Loc) (ob : Obs) : Prop :=
  ∀ cv cl cu, VR v cv → PR l cl → PR u cu → ∀ z s, Now c z lo ob s → wpAny c.g.M c.B (subscriptTail value slice cv (.ref s.heap.objs.size)) (LQ c z VR Q) (LX c z X) { s with heap := s.heap.push { cls := .type "slice", data := .fields #[cl, cu, .none] } }
theorem W_Slice {value : Expr} {l u : Option Expr} {sp p : Pos} (h : W c VR (eval value c.env) (fun v lo ob => Part c l (fun i lo ob => Part c u (fun j lo ob => Cut c value (.Slice l u none sp) v i j Q X lo ob) X lo ob) X lo ob) X lo ob) : W c VR (eval (.Subscript value (.Slice l u none sp) p) c.env) Q X lo ob := fun z s n =>
  Subscript_ (thenQ (h z s n) fun ca s' a lo ob ha n h => wpAny_Slice (thenQ (part_eval h z s' n) fun cl s' l lo ob hl n h => thenQ (part_eval h z s' n) fun cu s' u lo ob hu n h => wpAny_pure (h ca cl cu ha hl hu z s' n)))
theorem part_none {Q : QT (Option Int)} (h : Q none lo ob) : Part c none Q X lo ob := h
theorem part_some {e : Expr} {Q : QT (Option Int)} (h : W c VR (eval e c.env) (fun v lo ob => ∃ i, v = .int i ∧ Q (some i) lo ob) X lo ob) : Part c (some e) Q X lo ob := h
theorem int_ex {i : Int} {P : Int → Prop} (h : P i) : ∃ j, V.int i = .int j ∧ P j := ⟨i, rfl, h⟩

theorem cut_list {value slice : Expr} {a : Addr} {vs : List V} {l u : Option Int} (hl : LA c ob a vs) (hz : vs.length ≤ 100000) (h : ∀ D, Q (.ref D) lo ((D, .list (cut vs l u)) :: ob))
    (hs : ∀ k, subscripted slice false (.ref a) (.ref k) = operate [.ref k, .ref a] (getItem (.ref a) (.ref k)) := by intro _; with_unfolding_all rfl) (ht : ∀ r, letTemporaryGo value (.ref a) r = pure () := by intro _; with_unfolding_all rfl) : Cut c value slice (.ref a) l u Q X lo ob := by
  rintro _ cl cu rfl pl pu z s
  intro hgr61_0
  refine of_gen fun _ kg => ?_
  obtain ⟨m, os, frs, n⟩ := hgr61_0
  refine kg ?_
  obtain ⟨cs, hi, hr⟩ := hl.at n
  refine kms_slice_lit n.F n.N hi pl.part pu.part rfl (fun D h' F' N' l1 => ?_) (hs _) ht (by rw [List.size_toArray, ← hr.length, sizeLine_eq]; lia)
  exact ⟨.ref D, lo, _, rfl, ⟨m, _, frs, n.add (s' := { s with heap := h' }) F' N' (b := .list (cut vs l u)) ⟨_, 0, rfl, hr.cut l u⟩ fun p hp => Nat.ne_of_lt (l1 p hp)⟩, h D⟩
end
end Mine
end
section
namespace Mine

section
variable {c : Cx} {z z' : List (Addr × Obj)} {lo : Loc} {ob oth keep : Obs} {X : QT Addr} {s s' : Shared} {I : Addr} {oI oI' : Obj}
theorem Now.zperm (n : Now c z lo ob s) (p : z.Perm z') : Now c z' lo ob s := by
  obtain ⟨m, os, frs, n⟩ := n
  exact ⟨m, os, frs, n.re n.rs ((p.append_left _).append_left _)⟩
noncomputable abbrev cCx (c : Cx) (scope : Scope) (cl : List (Str × Addr)) (C : Addr) (oC : Obj) (kv : List (Str × V)) : Cx := { c with env := compEnvC scope cl C c.env, rest := c.rest ++ [(C, oC)], cv := some kv }
theorem Now.inC {scope : Scope} {cl : List (Str × Addr)} {C : Addr} {oC : Obj} {kv : List (Str × V)} (n : Now c ((C, oC) :: z) lo ob s) : Now (cCx c scope cl C oC kv) z lo ob s := by
  obtain ⟨m, os, frs, n⟩ := n
  exact ⟨m, os, frs, n.F, n.lr, n.rs, by have := n.N; simpa only [List.append_assoc, List.cons_append, List.nil_append] using this, by have := n.nd; simpa only [List.append_assoc, List.cons_append, List.nil_append] using this, n.fm, by have := n.ap; simpa only [List.append_assoc, List.cons_append, List.nil_append] using this, n.og⟩
theorem Now.outC {scope : Scope} {cl : List (Str × Addr)} {C : Addr} {oC : Obj} {kv : List (Str × V)} (n : Now (cCx c scope cl C oC kv) z lo ob s) : Now c ((C, oC) :: z) lo ob s := by
  obtain ⟨m, os, frs, n⟩ := n
  exact ⟨m, os, frs, n.F, n.lr, n.rs, by have := n.N; simpa only [List.append_assoc, List.cons_append, List.nil_append] using this, by have := n.nd; simpa only [List.append_assoc, List.cons_append, List.nil_append] using this, n.fm, by have := n.ap; simpa only [List.append_assoc, List.cons_append, List.nil_append] using this, n.og⟩
theorem cCx_ok (ok : c.Ok) {scope : Scope} {cl : List (Str × Addr)} {C : Addr} {oC : Obj} {kv : List (Str × V)} (hk : scope.kind = .function) (hnd : ((relabel scope c.env).names.map (·.1)).Nodup) {m : Str → Option Value} (hC : LCg.NsObj oC m)
    (hkv : ∀ p ∈ kv, ∃ v, m p.1 = some v ∧ VR p.2 v) (hfv : ∀ x, (relabel scope c.env).names.lookup x = some .cell → ∀ a, c.fenv.cells.lookup x = some a → cl.lookup x = some a) : (cCx c scope cl C oC kv).Ok :=
  ⟨ok.g, ok.fr, ok.fns, ok.nd, ok.fframe, ok.fkind, ok.frame, hk, ok.glob, ok.blt, hnd, ok.room, ok.un, (fun h => nomatch h), (fun kv' e => by cases e; exact ⟨oC, m, List.mem_append_right _ (.head _), hC, hkv⟩), hfv⟩

noncomputable def never : QT Addr := fun _ _ _ => False
noncomputable def Ifs (c : Cx) : List Expr → QT Bool → Loc → Obs → Prop
  | [], Q, lo, ob => Q true lo ob
  | [t], Q, lo, ob => Tst c t Q never lo ob
  | _, _, _, _ => False
noncomputable def CompE (c : Cx) (elt : Expr) (ifs : List Expr) (x : Str) (ns' : Nms) (QF : List V → Loc → Obs → Prop) : List V → List V → Loc → Obs → Prop
  | [], acc, lo, ob => QF acc lo ob
  | v :: vs, acc, lo, ob => ∀ c' : Cx, c'.Ok → c'.g = c.g → c'.ns = c.ns → c'.env.scope.names = ns' → c'.cv = some [(x, v)] → c'.d = c.d → c'.B = c.B → c'.fenv = c.fenv → c'.outer = c.outer → 
      Ifs c' ifs (fun b lo ob => Br b (W c' VR (eval elt c'.env) (fun y lo ob => CompE c elt ifs x ns' QF vs (acc ++ [y]) lo ob) never lo ob) (CompE c elt ifs x ns' QF vs acc lo ob)) lo ob
theorem ifs_of {ifs : List Expr} {Q : QT Bool} {E : Value → Shared → Prop} (h : Ifs c ifs Q lo ob) (n : Now c z lo ob s) :
    wpAny c.g.M c.B (forIn ifs true fun t r => if r = true then do let ok ← isTrue t c.env (eval t c.env); pure (ForInStep.yield ok) else pure (ForInStep.yield r)) (LQ c z BR Q) E s := by
  match ifs, h with
  | [], h => exact wpAny_tests_nil ⟨true, lo, ob, rfl, n, h⟩
  | [t], h => exact wpAny_tests_one (wpAny_mono (h z s n) (fun _ _ x => x) fun e s' ⟨_, _, _, _, _, x⟩ => x.elim)

inductive CompI (c : Cx) (z : List (Addr × Obj)) (elt : Expr) (ifs : List Expr) (x : Str) (ns' : Nms) (QF : List V → Loc → Obs → Prop) (items : List V) (St : Nat → Heap → Prop) (I C D : Addr) : Nat → Shared → Prop
  | mk {i : Nat} {lo : Loc} {ob : Obs} {oI oC : Obj} {m : Str → Option Value} {acc : List V} {cs : List Value} {s : Shared} (hi : i ≤ items.length) (st : St i s.heap) (hoC : LCg.NsObj oC m) (hacc : VRs acc cs) (hal : acc.length ≤ i)
    (n : Now c ((I, oI) :: (C, oC) :: (D, LCg.lst cs) :: z) lo ob s) (h : CompE c elt ifs x ns' QF (items.drop i) acc lo ob) : CompI c z elt ifs x ns' QF items St I C D (items.length + 1 - i) s
theorem comp_loop {elt iter : Expr} {ifs : List Expr} {x : Str} {px pos : Pos} {scope : Scope} {cl : List (Str × Addr)} {items : List V} {St : Nat → Heap → Prop} {QF : List V → Loc → Obs → Prop} {E : Value → Shared → Prop} {ns' : Nms} {Qv : Value → Shared → Prop}
    (ok : c.Ok) (K : IterOK c z items I St) (hsz : items.length ≤ 100000) (hcell : ∀ y ∈ scope.names, y.2 ≠ .cell) (hkind : scope.kind = .function) (hx : scope.names.lookup x = some .local) (hns' : (relabel scope c.env).names = ns') (hnd : (ns'.map (·.1)).Nodup)
    (hfv : ∀ x, (relabel scope c.env).names.lookup x = some .cell → ∀ a, c.fenv.cells.lookup x = some a → cl.lookup x = some a) (hst : St 0 s.heap) (n : Now c ((I, oI) :: z) lo ob s) (h : CompE c elt ifs x ns' QF items [] lo ob)
    (hQ : ∀ D acc lo ob cs s', VRs acc cs → Now c ((D, LCg.lst cs) :: z) lo ob s' → QF acc lo ob → Qv (.ref D) s') :
    wpAny c.g.M c.B (newList []) (fun acc s₃ => wpAny c.g.M c.B (newFunctionEnv scope c.env.globals cl [] c.env.qual none .none (some c.env)) (fun cenv s₄ =>
      codeAny c.g.M c.B (.compStart (.ListComp elt [⟨.Name x px, iter, ifs, 0⟩] scope pos) 0 (.ref I) acc { cenv with scope := relabel scope c.env }) (compPost c.g.M c.B E none Qv acc cenv.locals) s₄) E s₃) E s := by
  refine of_gen fun _ kg => ?_
  obtain ⟨fp, P, wk, hP, hf⟩ := K.wk
  refine kg ?_
  refine wpAny_newObj_type (wpAny_newFunctionEnv hcell (by intro y hy; simp at hy) (fun h₁ hns₁ hsb₁ => ?_) hkind)
  dsimp only at hns₁ hsb₁ ⊢
  have n1 : Now c ((s.heap.objs.size, LCg.lst []) :: (I, oI) :: z) lo ob { s with heap := s.heap.push (LCg.lst []) } := by obtain ⟨m, os, frs, n⟩ := n; exact n.pushI (o := LCg.lst [])
  have n2 : Now c (((s.heap.push (LCg.lst [])).objs.size, { cls := .type "dict", data := .dict #[] }) :: (s.heap.objs.size, LCg.lst []) :: (I, oI) :: z) lo ob { s with heap := (s.heap.push (LCg.lst [])).push { cls := .type "dict", data := .dict #[] } } := by obtain ⟨m, os, frs, n⟩ := n1; exact n.pushI (o := { cls := .type "dict", data := .dict #[] })
  refine of_gen fun _ kg => ?_
  obtain ⟨oC, hC, hoC⟩ := LCg.ns_obj hns₁
  refine kg ?_
  have n3 : Now c ((_, oC) :: _) lo ob { s with heap := h₁, toks := s.toks + 0 } := n2.swapI (fun b o hb e => hsb₁.extBut b o (by simpa using hb) e) hC
  have e0 : St 0 h₁ := by
    refine wk.frame 0 _ _ hst fun b hb o e => ?_
    have hlt := Heap.lt_size e
    refine hsb₁.extBut b o (fun q => ?_) (Heap.get?_push_of_some _ (Heap.get?_push_of_some _ e))
    have q' : b = s.heap.objs.size + 1 := by rw [q]; exact Heap.size_push _ _
    rw [q'] at hlt
    exact Nat.lt_irrefl _ (Nat.lt_of_succ_lt hlt)
  generalize hD : s.heap.objs.size = D at *
  generalize hCC : (s.heap.push (LCg.lst [])).objs.size = C at *
  have loop : ∀ s₃ : Shared, s₃ = { s with heap := h₁, toks := s.toks + ([] : List (Str × Value)).length } →
      codeAny c.g.M c.B (.compLoop (.ListComp elt [⟨.Name x px, iter, ifs, 0⟩] scope pos) 0 (.ref I) (.ref D) (compEnvC scope cl C c.env)) (compPost c.g.M c.B E none Qv (.ref D) C) s₃ := by
    rintro s₃ rfl
    refine codeAny_compLoop_tests (CompI c z elt ifs x ns' QF items St I C D) ?_ (items.length + 1)
      (.mk (i := 0) (Nat.zero_le _) e0 hoC .nil (Nat.le_refl _) (n3.zperm ((List.Perm.cons _ (List.Perm.swap _ _ _)).trans (List.Perm.swap _ _ _))) h)
    rintro k s1 @⟨i, lo1, ob1, oI1, oC1, m1, acc, cs, _, hi, st1, hoC1, hacc, hal, n1, h1⟩
    by_cases hlt : i < items.length
    · refine wk.item i s1 _ _ hlt st1 fun v h' tk hPv st2 hk => ?_
      refine of_gen fun _ kg => ?_
      obtain ⟨u, hu, hr⟩ := hP i v hlt hPv
      obtain ⟨oI2, hI2⟩ := K.has _ _ st2
      refine kg ?_
      have n2 : Now c ((I, oI2) :: (C, oC1) :: (D, LCg.lst cs) :: z) lo1 ob1 { s1 with heap := h', toks := tk } := n1.swapI hk hI2
      have e : items.drop i = u :: items.drop (i + 1) := by
        rw [List.drop_eq_getElem_cons hlt]
        congr 1
        rw [List.getElem?_eq_getElem hlt] at hu
        exact Option.some.inj hu
      rw [e] at h1
      have hCn := n2.at (p := (C, oC1)) (.tail _ (.head _))
      refine wpAny_assign_Name (wpAny_storeName_local (lookup_relabel_local hx) (hoC1.ns hCn) (fun h₃ hn₃ hs₃ => ?_) (by simp [compEnvC, relabel, hkind]))
      refine of_gen fun _ kg => ?_
      obtain ⟨oC3, hC3, hoC3⟩ := LCg.ns_obj hn₃
      refine kg ?_
      have n3 : Now c ((C, oC3) :: (I, oI2) :: (D, LCg.lst cs) :: z) lo1 ob1 { s1 with heap := h₃, toks := tk + 1 } := (n2.zperm (List.Perm.swap _ _ _)).swapI (fun b o hb e => hs₃.extBut b o (fun q => hb (List.mem_singleton.mpr q)) e) hC3
      have toI : ∀ {lo ob s oI oC cs}, Now c ((C, oC) :: (I, oI) :: (D, LCg.lst cs) :: z) lo ob s → Now c ((I, oI) :: z) lo ob s := fun n =>
        Now.less (a := [_]) (n.less (a := [_]) |>.zperm (List.Perm.swap _ _ _))
      have st3 : St (i + 1) h₃ := K.keep (toI (n2.zperm (List.Perm.swap _ _ _))) (toI n3) st2
      have nC : Now (cCx c scope cl C oC3 [(x, u)]) ((I, oI2) :: (D, LCg.lst cs) :: z) lo1 ob1 { s1 with heap := h₃, toks := tk + 1 } := n3.inC
      have okC : (cCx c scope cl C oC3 [(x, u)]).Ok := cCx_ok ok hkind (by rw [hns']; exact hnd) hoC3 (by
        intro p hp
        rw [List.mem_singleton.mp hp]
        exact ⟨v, by simp, hr⟩) hfv
      refine thenQ (ifs_of (h1 _ okC rfl rfl hns' rfl rfl rfl rfl rfl) nC) fun b s4 b' lo4 ob4 hb n4 h4 => ?_
      subst hb
      have n4' := n4.outC
      cases b with
      | false =>
        simp only [Bool.false_eq_true, if_false]
        have st4 := K.keep (toI n3) (toI n4') st3
        exact ⟨_, Nat.sub_lt_sub_left (Nat.lt_succ_of_lt hlt) (Nat.lt_succ_self i), .mk hlt st4 hoC3 hacc (Nat.le_succ_of_le hal) (n4'.zperm (List.Perm.swap _ _ _)) (h4.2 rfl)⟩
      | true =>
        simp only [if_true]
        refine wpAny_mono (h4.1 rfl _ s4 n4) (fun y s5 q => q.elim fun yv lo5 ob5 hy n5 h5 => ?_) fun e s' q => q.elim fun _ _ _ _ _ x => x.elim
        have n5' := n5.outC
        have st5 := K.keep (toI n3) (toI n5') st3
        have hDn := n5'.at (p := (D, LCg.lst cs)) (.tail _ (.tail _ (.head _)))
        refine append_at (hsz := by show cs.toArray.size ≤ sizeLine; rw [List.size_toArray, ← hacc.length]; exact Nat.le_trans hal (Nat.le_trans hi (Nat.le_trans hsz (by rw [sizeLine_eq]; decide)))) hDn fun h₅ hs₅ hD₅ => ?_
        have n6 : Now c ((D, LCg.lst (cs ++ [y])) :: (C, oC3) :: (I, oI2) :: z) lo5 ob5 { s5 with heap := h₅ } := (n5'.zperm ((List.Perm.cons _ (List.Perm.swap _ _ _)).trans (List.Perm.swap _ _ _))).swapI (fun b o hb e => hs₅.extBut b o (by simpa using hb) e) (hD₅.trans (congrArg some (LCg.lst_snoc cs y)))
        have n7 : Now c ((C, oC3) :: (I, oI2) :: (D, LCg.lst (cs ++ [y])) :: z) lo5 ob5 { s5 with heap := h₅ } := n6.zperm ((List.Perm.swap _ _ _).trans (List.Perm.cons _ (List.Perm.swap _ _ _)))
        have st7 := K.keep (toI n5') (toI n7) st5
        exact ⟨_, Nat.sub_lt_sub_left (Nat.lt_succ_of_lt hlt) (Nat.lt_succ_self i), .mk hlt st7 hoC3 (hacc.append (.one hy)) (by rw [List.length_append]; exact Nat.succ_le_succ hal) (n7.zperm (List.Perm.swap _ _ _)) h5⟩
    · have e : i = items.length := Nat.le_antisymm hi (Nat.not_lt.mp hlt)
      subst e
      rw [List.drop_length] at h1
      refine wk.done s1 _ _ st1 fun h' tk hk => ?_
      have n2 : Now c ((C, oC1) :: (D, LCg.lst cs) :: z) lo1 ob1 { s1 with heap := h', toks := tk } := n1.dropI hk
      refine ⟨m1, hoC1.ns (n2.at (p := (C, oC1)) (.head _)), fun h'' hs'' => hQ D acc lo1 ob1 cs _ hacc (n2.dropI fun b o hb e => hs''.extBut b o (by simpa using hb) e) h1⟩
  exact codeAny_compStart_list (loop _ rfl) (wk.self 0 _ _ _ e0 (loop _ rfl))
end
end Mine
end
section
namespace Mine

noncomputable def Itr (c : Cx) (v : V) (items : List V) (keep ob oth : Obs) : Prop := ∀ z s cv lo, VR v cv → Now c z lo ob s → ∃ zk, ORs c.g.w.params keep zk ∧ ∀ (Qp : Value → Shared → Prop) (E : Value → Shared → Prop),
  (∀ I oI St s', Now c ((I, oI) :: (zk ++ z)) lo oth s' → St 0 s'.heap → IterOK c (zk ++ z) items I St → Qp (.ref I) s') → wpAny c.g.M c.B (pyIter cv) Qp E s
section
variable {c : Cx} {z z' : List (Addr × Obj)} {lo : Loc} {ob oth keep : Obs} {X : QT Addr} {s s' : Shared} {a : Addr} {vs : List V}
theorem Itr_list (hh : c.B.handled = none) (p : Picks ob [(a, .list vs)] oth) : Itr c (.ref a) vs [(a, .list vs)] ob oth := by
  rintro z s _ lo rfl n
  refine of_gen fun _ kg => ?_
  obtain ⟨m, os, frs, n⟩ := n.perm (p.perm.trans List.perm_append_comm)
  obtain ⟨o1, o2, h2, rfl, n1⟩ := n.out
  refine kg ?_
  refine ⟨o2, h2, fun Qp E k => ?_⟩
  cases h2 with
  | cons h2 h3 =>
    rename_i o os'
    cases h3
    refine of_gen fun _ kg => ?_
    obtain ⟨cs, kk, rfl, hr⟩ := h2
    refine kg ?_
    have ha : s.heap.get? a = some (W.listOf cs.toArray kk) := Now.at ⟨m, o1, frs, n1⟩ (p := (a, W.listOf cs.toArray kk)) (.head _)
    have hl : s.heap.IsList a cs.toArray := ⟨_, ha, rfl, _, rfl⟩
    have hlt := Heap.lt_size ha
    refine wpAny_pyIter_list hl ?_
    have n2 := n1.pushI (o := { cls := .type "list_iterator", data := .fields #[.ref a, .int 0 0] })
    refine k _ _ (fun i h => h.IsListIter s.heap.objs.size a i ∧ h.IsList a cs.toArray) _ n2 ⟨⟨_, Heap.get?_push_size _ rfl, rfl, rfl⟩, hl.push _⟩ ⟨⟨[s.heap.objs.size, a], fun i v => cs.toArray[i]? = some v, ?_, ?_, ?_⟩, ?_⟩
    · have := Walks.list (prog := c.g.prog) (w := c.g.w) hh s.heap.objs.size a (Nat.ne_of_lt hlt) cs.toArray
      rw [show vs.length = cs.toArray.size from by simp [hr.length]]
      exact this
    · intro i v hi hv
      obtain ⟨u, hu, hr'⟩ := hr.get' i v (by simpa using hv)
      exact ⟨u, hu, hr'⟩
    · intro b hb
      rcases List.mem_cons.mp hb with e | hb
      · exact .inl e
      · rw [List.mem_singleton.mp hb]; exact .inr (.inl ⟨_, .head _⟩)
    · rintro i h ⟨⟨o, ho, _⟩, _⟩; exact ⟨o, ho⟩
theorem Itr_range {p q : Int} {n : Nat} (hh : c.B.handled = none) (hp : Picks ob [(a, .rng p q)] oth) (hsm : Builtin.Range.small p q 1 = true) (hn : Builtin.Range.rangeSize p q 1 = ((n : Nat) : Int)) : Itr c (.ref a) ((List.range n).map fun (i : Nat) => V.int (p + (i : Int))) [] ob oth := by
  rintro z s _ lo rfl n0
  refine ⟨[], .nil, fun Qp E k => ?_⟩
  refine of_gen fun _ kg => ?_
  obtain ⟨m, os, frs, n1⟩ := n0.perm hp.perm
  obtain ⟨o, _, _, ha, t1, t2, t3, rfl⟩ := n1.mem (a := a) (b := .rng p q) (.head _)
  refine kg ?_
  have nn : Now c z lo oth s := by
    obtain ⟨m, os, frs, n⟩ := Now.perm ⟨m, os, frs, n1⟩ List.perm_append_comm
    obtain ⟨o1, o2, _, rfl, n1⟩ := n.out
    exact ⟨m, o1, frs, n1.less⟩
  refine of_gen fun _ kg => ?_
  obtain ⟨m, os, frs, n2⟩ := nn
  refine kg ?_
  refine wpAny_pyIter_range ha hsm ?_
  refine k _ _ (fun i h => IsRangeIter h s.heap.objs.size (p + (i : Nat) * 1) ((n : Int) - (i : Nat)) 1) _ n2.pushI (by show IsRangeIter _ _ _ _ _; rw [hn]; simpa using Heap.get?_push_size _ rfl) ⟨⟨[s.heap.objs.size], fun i v => ∃ t, v = .int (p + (i : Int)) t, ?_, ?_, ?_⟩, ?_⟩
  · have := LCg.range_walks (prog := c.g.prog) (w := c.g.w) (A := c.B) (I := s.heap.objs.size) hh p n
    simpa using this
  · rintro i v hi ⟨t, rfl⟩
    exact ⟨.int (p + (i : Int)), by simp at hi; simp [hi], t, rfl⟩
  · intro b hb
    exact .inl (List.mem_singleton.mp hb)
  · intro i h st
    exact ⟨_, st⟩
theorem Itr_str {l : List Nat} (hh : c.B.handled = none) : Itr c (.str l) (l.map fun k => V.str [k]) [] ob ob := by
  rintro z s _ lo ⟨t, rfl⟩ n
  refine ⟨[], .nil, fun Qp E k => ?_⟩
  refine of_gen fun _ kg => ?_
  obtain ⟨m, os, frs, n2⟩ := n
  refine kg ?_
  have go : ∀ (T : String), Walks c.g.prog c.g.w c.B s.heap.objs.size [s.heap.objs.size] [s.heap.objs.size] (tx l).cps.size (SignAt (tx l)) (fun i h => h.IsStrIter s.heap.objs.size T (tx l) t i) → ∀ o : Obj, o.isFreed = false → (s.heap.push o).IsStrIter s.heap.objs.size T (tx l) t 0 →
      Qp (.ref s.heap.objs.size) { s with heap := s.heap.push o } := by
    intro T wk o hf hst
    refine k _ _ (fun i h => h.IsStrIter s.heap.objs.size T (tx l) t i) _ (n2.pushI hf) hst ⟨⟨_, _, by simpa [tx] using wk, ?_, fun b hb => .inl (List.mem_singleton.mp hb)⟩, fun i h st => by obtain ⟨o, e, _⟩ := st; exact ⟨o, e⟩⟩
    rintro i v hi
    intro hgr132_0
    refine of_gen fun _ kg => ?_
    obtain ⟨k, u, hk, rfl⟩ := hgr132_0
    refine kg ?_
    refine ⟨.str [k], ?_, u, rfl⟩
    have hk' : l[i]? = some k := by simpa [tx] using hk
    simp [hk']
  cases ha : (tx l).cps.all (· < 128)
  · exact wpAny_pyIter_wide ha (go "str_iterator" (Walks.strWide hh _ (tx l) t) _ rfl ⟨_, Heap.get?_push_size _ rfl, rfl, rfl⟩)
  · exact wpAny_pyIter_ascii ha (go "str_ascii_iterator" (Walks.strAscii hh _ (tx l) t) _ rfl ⟨_, Heap.get?_push_size _ rfl, rfl, rfl⟩)

noncomputable def CompF (c : Cx) (elt : Expr) (ifs : List Expr) (x : Str) (ns' : Nms) (Q : QT V) (v : V) (lo : Loc) (ob : Obs) : Prop :=
  ∃ items keep oth, Itr c v items keep ob oth ∧ items.length ≤ 100000 ∧ CompE c elt ifs x ns' (fun acc lo ob => ∀ D, Q (.ref D) lo ((D, .list acc) :: (ob ++ keep))) items [] lo oth
theorem compF {elt : Expr} {ifs : List Expr} {x : Str} {ns' : Nms} {Q : QT V} {v : V} {items : List V} (h : Itr c v items keep ob oth) (hz : items.length ≤ 100000) (hc : CompE c elt ifs x ns' (fun acc lo ob => ∀ D, Q (.ref D) lo ((D, .list acc) :: (ob ++ keep))) items [] lo oth) : CompF c elt ifs x ns' Q v lo ob :=
  ⟨items, keep, oth, h, hz, hc⟩
theorem W_ListComp {elt iter : Expr} {ifs : List Expr} {x : Str} {px pos : Pos} {scope : Scope} {cl : List (Str × Addr)} {ns' : Nms} {Q : QT V} (ok : c.Ok) (hns' : (relabel scope c.env).names = ns') (hclos : closureFor scope c.env = pure cl) (hfv : ∀ x, (relabel scope c.env).names.lookup x = some .cell → ∀ a, c.fenv.cells.lookup x = some a → cl.lookup x = some a) (hcell : ∀ y ∈ scope.names, y.2 ≠ .cell) (hkind : scope.kind = .function)
    (hnames : ∀ y ∈ scope.names, y.2 = .local → scope.names.lookup y.1 = some .local) (hx : scope.names.lookup x = some .local) (hnd : (ns'.map (·.1)).Nodup)
    (h : W c VR (eval iter c.env) (fun v lo ob => CompF c elt ifs x ns' Q v lo ob) X lo ob) (hs : ∀ x, foldedSetIterable iter c.env x = pure x := by intro _; rfl) : W c VR (eval (.ListComp elt [⟨.Name x px, iter, ifs, 0⟩] scope pos) c.env) Q X lo ob := by
  intro z s n
  rw [eval_ListComp]
  refine wpAny_comprehension_free (use := none) rfl hs hclos hkind hnames (thenQ (h z s n) fun xv s₁ v lo1 ob1 hv n1 hcf => ?_)
  refine of_gen fun _ kg => ?_
  obtain ⟨items, keep, oth, hi, hz, hc⟩ := hcf
  obtain ⟨zk, hk, run⟩ := hi z s₁ xv lo1 hv n1
  refine kg ?_
  refine run _ _ fun I oI St s2 n2 st K => ?_
  refine comp_loop ok K hz hcell hkind hx hns' hnd hfv st n2 hc fun D acc lo3 ob3 cs s3 hr n3 hq => ?_
  refine ⟨.ref D, lo3, _, rfl, ?_, hq D⟩
  refine of_gen fun _ kg => ?_
  obtain ⟨m, os, frs, n3⟩ := n3.zperm (z' := ([(D, LCg.lst cs)] ++ zk) ++ z) (by rfl)
  refine kg ?_
  exact Now.perm ⟨m, _, frs, n3.back (oth := (D, .list acc) :: keep) (.cons ⟨cs, cs.length, rfl, hr⟩ hk)⟩ List.perm_middle
end
end Mine
end
section
namespace Mine

theorem strs_of : ∀ {ls : List (List Nat)} {cs : List Value}, VRs (ls.map V.str) cs → ∃ l : List (Str × Tok), cs = strValues l ∧ l.map (·.1) = ls.map tx
  | [], _, .nil => ⟨[], rfl, rfl⟩
  | a :: ls, _, .cons h r => by
    obtain ⟨t, rfl⟩ := h
    obtain ⟨l, rfl, hl⟩ := strs_of r
    exact ⟨(tx a, t) :: l, rfl, by simp [hl]⟩
theorem ints_of : ∀ {ns : List Int} {cs : List Value}, VRs (ns.map V.int) cs → IntsAre cs ns
  | [], _, .nil => .nil
  | a :: ns, _, .cons h r => by obtain ⟨t, rfl⟩ := h; exact .cons _ _ (ints_of r)

section
variable {c : Cx} {lo : Loc} {ob ob' : Obs} {X : QT Addr} {Q : QT V} {QF : QT AF} {a : Addr} {vs : List V}
theorem cut_str_ss {value slice : Expr} {l : List Nat} {i j : Int} (hi : 0 ≤ i) (hj : 0 ≤ j) (hz : l.length ≤ 100000) (h : Q (.str ((l.drop i.toNat).take (j.toNat - i.toNat))) lo ob)
    (hs : ∀ t k, subscripted slice false (.str (tx l) t) (.ref k) = operate [.ref k, .str (tx l) t] (getItem (.str (tx l) t) (.ref k)) := by intro _ _; with_unfolding_all rfl) (ht : ∀ t r, letTemporaryGo value (.str (tx l) t) r = pure () := by intro _ _; with_unfolding_all rfl) : Cut c value slice (.str l) (some i) (some j) Q X lo ob := by
  rintro _ cl cu ⟨t, rfl⟩ ⟨t1, rfl⟩ ⟨t2, rfl⟩ z s
  intro hgr24_0
  refine of_gen fun _ kg => ?_
  obtain ⟨m, os, frs, n⟩ := hgr24_0
  refine kg ?_
  exact cut_ss n.F n.N hi hj (by lia) (fun h' t' k F' N' => LQ.str ⟨m, os, frs, n.go (s' := { s with heap := h', toks := k }) F' N'⟩ h) (hs _ _) (ht _)
theorem join_strs {ls : List (List Nat)} (hm : LA c ob a (ls.map V.str)) (hz : (ls.map List.length).sum ≤ 100000) (h : Q (.str ls.flatten) lo ob) : Cal c (.cv (.builtin "str.join")) [.str [], .ref a] Q X lo ob := by
  rintro _ cs rfl hv z s n0
  refine of_gen fun _ kg => ?_
  obtain ⟨_, _, rfl, ⟨t, rfl⟩, rfl⟩ := VRs2 hv
  obtain ⟨m, os, frs, n⟩ := n0
  obtain ⟨ks, hl, hr⟩ := hm.at n
  obtain ⟨l, rfl, hl2⟩ := strs_of hr
  refine kg ?_
  refine SC.join (l := l) hl hl2 ?_ ?_
  · unfold JoinOk
    rw [StrLaws.joinTotal, Bool.not_eq_true']
    have e1 : (ls.map tx).map (·.length) = ls.map List.length := by simp [List.map_map, Function.comp_def, tx_length]
    have e2 : (tx []).length = 0 := tx_length []
    rw [e1, e2, Nat.mul_zero, Nat.add_zero]
    have e : (2 : Nat) ^ 24 = 16777216 := by decide
    unfold Builtin.Str.tooLong sizeLine
    exact decide_eq_false (by lia)
  · rw [join_flat]; exact fun t k => LQ.str ⟨m, os, frs, n.toks rfl⟩ h
theorem sum_list {ns : List Int} (hh : c.B.handled = none) (hm : LA c ob a (ns.map V.int)) (h : Q (.int ns.sum) lo ob) : Cal c (.cv (.builtin "sum")) [.ref a] Q X lo ob := by
  rintro _ cs rfl hv z s n0
  refine of_gen fun _ kg => ?_
  obtain ⟨_, rfl, rfl⟩ := VRs1 hv
  obtain ⟨m, os, frs, n⟩ := n0
  obtain ⟨ks, hl, hr⟩ := hm.at n
  refine kg ?_
  exact LSm.sum_ints n.F n.N hh hl (ints_of hr) fun h' tk t' F' N' => LQ.int ⟨m, os, frs, n.go (s' := { s with heap := h', toks := tk }) F' N'⟩ h
theorem bytes_list {l : List Nat} (hh : c.B.handled = none) (hm : LA c ob a (l.map fun (k : Nat) => V.int (k : Int))) (hc : ∀ k ∈ l, k < 256) (hz : l.length ≤ 100000) (h : Q (.bytes l) lo ob) : Cal c (.cv (.type "bytes")) [.ref a] Q X lo ob := by
  rintro _ cs rfl hv z s n0
  refine of_gen fun _ kg => ?_
  obtain ⟨_, rfl, rfl⟩ := VRs1 hv
  obtain ⟨m, os, frs, n⟩ := n0
  obtain ⟨ks, hl, hr⟩ := hm.at n
  refine kg ?_
  have hr' : VRs ((l.map fun (k : Nat) => (k : Int)).map V.int) ks := by simpa [List.map_map, Function.comp_def] using hr
  have hin : KBa.In (l.map fun (c : Nat) => (c : Int)) := fun n hn => by
    refine of_gen fun _ kg => ?_
    obtain ⟨k, hk, rfl⟩ := List.mem_map.1 hn
    refine kg ?_
    have := hc k hk
    lia
  exact KBa.make_K n.F n.N hh hl (ints_of hr') hin (by simpa using (by lia : l.length ≤ 16777216)) fun h' t' k F' N' _ => LQ.bytes (bytes_of l hc) ⟨m, os, frs, n.go (s' := { s with heap := h', toks := k }) F' N'⟩ h
end
end Mine
end
section
namespace Mine

inductive App : Obs → Obs → Obs → Prop
  | nil {l} : App [] l l
  | cons {p a l r} : App a l r → App (p :: a) l (p :: r)
theorem App.eq {a l r : Obs} (h : App a l r) : a ++ l = r := by
  induction h with
  | nil => rfl
  | cons _ ih => rw [List.cons_append, ih]
noncomputable def Frg (P : Obs → Prop) (ob : Obs) : Prop := ∃ ob2 d, Picks ob ob2 d ∧ P ob2
theorem frg_intro {P : Obs → Prop} {ob ob2 d : Obs} (p : Picks ob ob2 d) (h : P ob2) : Frg P ob := ⟨ob2, d, p, h⟩
noncomputable abbrev FnE (g : G) (f : Addr) (args : List V) (d : Nat) (hq : Bool) (r : V) (ob1 ob0 : Obs) : Prop := FnC g f args d hq (fun v ob => v = r ∧ ob = ob1) (fun _ _ => False) ob0
section
variable {c : Cx} {lo : Loc} {ob ob' : Obs} {X : QT Addr} {Q : QT V} {QF : QT AF} {a : Addr} {vs : List V}
theorem FnC.forget {g : G} {f : Addr} {args : List V} {d : Nat} {hq : Bool} {Q : V → Obs → Prop} {X : Addr → Obs → Prop} (F : FnC g f args d hq (fun v ob => Frg (Q v) ob) X ob) : FnC g f args d hq Q X ob := by
  intro c A ok hg hf hd hu hh cas hv z lo s n
  refine codeAny_mono (F c A ok hg hf hd hu hh cas hv z lo s n) fun r s' hr => ?_
  match r with
  | .ok (.ret v) => obtain ⟨u, ob, hu, n, ob2, d, p, hq⟩ := hr; exact ⟨u, ob2, hu, n.forget p, hq⟩
  | .ok .next => exact hr.elim
  | .ok .brk => exact hr.elim
  | .ok .cont => exact hr.elim
  | .error e => exact hr
theorem cal_E {f : Addr} {args : List V} {d : Nat} {hq : Bool} {r : V} {small oth ob1 : Obs} (ok : c.Ok) (p : Picks ob small oth) (F : FnE c.g f args d hq r ob1 small) (q : App ob1 oth ob') (hd : d ≤ c.d) (hh : hq = true ∨ c.B.handled = none) (h : Q r lo ob') : Cal c (.ref f) args Q X lo ob :=
  cal_fn (QF := fun v ob => v = r ∧ ob = ob') (XF := fun _ _ => False) ok (FnC.frame p (F.mono (fun v ob ⟨e1, e2⟩ => ⟨e1, by rw [e2]; exact q.eq⟩) fun _ _ x => x)) hd hh (fun v ob ⟨e1, e2⟩ => by rw [e1, e2]; exact h) fun _ _ x => x.elim
theorem cal_new {C f : Addr} {args : List V} {d : Nat} {hq : Bool} {small oth : Obs} {ob1 : Addr → Addr → Obs} {ob2 : Addr → Addr → Obs} (ok : c.Ok) (hm : makesIn c.g.K C = true) (hi : findIn c.g.K (.ref C) "__init__" = some (some (.ref f))) (hfn : isFn c.g.K (.ref f) = true)
    (F : ∀ x dx, FnE c.g f (.ref x :: args) d hq .none (ob1 x dx) ((x, .inst C dx) :: (dx, .dct []) :: [])) (q : ∀ x dx, App (ob1 x dx) ob (ob2 x dx)) (hd : d + 1 ≤ c.d) (hh : hq = true ∨ c.B.handled = none)
    (h : ∀ x dx, Q (.ref x) lo (ob2 x dx)) : Cal c (.ref C) args Q X lo ob :=
  cal_cls ok hm hi hfn hd hh fun x dx => FnC.frame (small := (x, .inst C dx) :: (dx, .dct []) :: []) (oth := ob) (.cons .head (.cons .head .nil)) ((F x dx).mono (fun v o ⟨e1, e2⟩ => ⟨e1, by rw [e2, (q x dx).eq]; exact h x dx⟩) fun _ _ e => e.elim)

theorem Wkn.mono {P P' : Loc → Obs → Prop} (h : Wkn P lo ob) (hp : ∀ lo ob, P lo ob → P' lo ob) : Wkn P' lo ob := by
  obtain ⟨lo2, ob2, d, h1, h2, h3⟩ := h
  exact ⟨lo2, ob2, d, h1, h2, hp _ _ h3⟩
noncomputable def TurnQ (I : Loc → Obs → Prop) (Q : QT AF) : QT AF := fun f lo ob => match f with
  | .brk => Q .next lo ob
  | .ret v => Q (.ret v) lo ob
  | _ => Wkn I lo ob
theorem turn_next {I : Loc → Obs → Prop} {Q : QT AF} (h : Wkn I lo ob) : TurnQ I Q .next lo ob := h
theorem turn_brk {I : Loc → Obs → Prop} {Q : QT AF} (h : Q .next lo ob) : TurnQ I Q .brk lo ob := h
theorem forW_inv {tg : Expr} {body : List Stmt} {items : List V} (I : Nat → Loc → Obs → Prop) (turn : ∀ k v lo ob, items[k]? = some v → I k lo ob → Asg c tg v (fun lo ob => W c FR (execs body c.env) (TurnQ (I (k + 1)) QF) X lo ob) X lo ob)
    (hend : ∀ lo ob, I items.length lo ob → QF .next lo ob) (h : I 0 lo ob) : ForW c tg body QF X items lo ob := by
  have key : ∀ (vs : List V) (k : Nat) lo ob, items.drop k = vs → I k lo ob → k ≤ items.length → ForW c tg body QF X vs lo ob := by
    intro vs
    induction vs with
    | nil =>
      intro k lo ob e hI hk
      have : items.length - k = 0 := by rw [← List.length_drop, e]; rfl
      have : k = items.length := by lia
      subst this
      exact hend _ _ hI
    | cons v vs ih =>
      intro k lo ob e hI hk
      have hlt : k < items.length := by
        have : items.length - k = vs.length + 1 := by rw [← List.length_drop, e]; rfl
        lia
      have hv : items[k]? = some v := by
        have := congrArg List.head? e
        simpa using this
      have e2 : items.drop (k + 1) = vs := by
        have := congrArg (List.drop 1) e
        rw [List.drop_drop] at this
        simpa using this
      intro cv hr z s n
      refine thenQ (turn k v lo ob hv hI cv hr z s n) fun _ s1 _ lo1 ob1 hu n1 h1 => ⟨(), lo1, ob1, hu, n1, ?_⟩
      refine h1.mono (fun f lo2 ob2 h2 => ?_) fun _ _ _ x => x
      cases f with
      | next => exact Wkn.mono h2 fun lo ob hI => ih (k + 1) lo ob e2 hI hlt
      | cont => exact Wkn.mono h2 fun lo ob hI => ih (k + 1) lo ob e2 hI hlt
      | brk => exact h2
      | ret v => exact h2
  exact key _ 0 lo ob rfl h (Nat.zero_le _)
theorem hdl_yes {t : Expr} {hb : List Stmt} {a : Addr} {cls : Value} {d : Option Addr} {arg : Option V} {ct : Value} (ok : c.Ok) (hm : (a, Ob.exc cls d arg) ∈ ob) (hn : NameIs (Mine.mk c a) t ct) (he : exmOne c.g.K cls ct = some true)
    (h : (Mine.mk c a).Ok → W (Mine.mk c a) FR (execs hb (Mine.mk c a).env) QF X lo ob) : Hdl c t hb QF X a lo ob := ⟨cls, d, arg, ct, true, hm, hn, he, by rw [if_pos rfl]; exact h (mk_ok ok a)⟩
theorem whileq_next {I : Nat → Loc → Obs → Prop} {n : Nat} (h : Wkn (fun lo ob => ∃ k, k < n ∧ I k lo ob) lo ob) : WhileQ c I n QF .next lo ob := h
end
end Mine
namespace Mine
theorem relabel_nofree {scope : Scope} {env : Env} (h : ∀ y ∈ scope.names, y.2 ≠ .free) : (relabel scope env).names = scope.names := by
  unfold relabel
  simp only
  conv => rhs; rw [← List.map_id scope.names]
  refine List.map_congr_left fun y hy => ?_
  have := h y hy
  obtain ⟨n, k⟩ := y
  have e : (k == NameKind.free) = false := by simpa using this
  simp [e]
section
variable {c : Cx} {lo : Loc} {ob ob' : Obs} {X : QT Addr} {Q : QT V} {QF : QT AF} {a : Addr} {vs : List V}
theorem W_Comp0 {elt iter : Expr} {ifs : List Expr} {x : Str} {px pos : Pos} {scope : Scope} (ok : c.Ok) (hfree : ∀ y ∈ scope.names, y.2 ≠ .free) (hclos : closureFor scope c.env = pure []) (hcell : ∀ y ∈ scope.names, y.2 ≠ .cell) (hkind : scope.kind = .function)
    (hnames : ∀ y ∈ scope.names, y.2 = .local → scope.names.lookup y.1 = some .local) (hx : scope.names.lookup x = some .local) (hnd : (scope.names.map (·.1)).Nodup)
    (h : W c VR (eval iter c.env) (fun v lo ob => CompF c elt ifs x scope.names Q v lo ob) X lo ob) (hs : ∀ x, foldedSetIterable iter c.env x = pure x := by intro _; rfl) : W c VR (eval (.ListComp elt [⟨.Name x px, iter, ifs, 0⟩] scope pos) c.env) Q X lo ob :=
  W_ListComp ok (relabel_nofree hfree) hclos (fun x hx => by rw [relabel_nofree hfree] at hx; exact absurd rfl (hcell _ (mem_of_lookup hx))) hcell hkind hnames hx hnd h hs
theorem cal_app {f : V} {x : V} {vs : List V} (h : Cal c f (x :: vs) Q X lo ob) : Cal c f ([x] ++ vs) Q X lo ob := h
end
noncomputable def ovV (o : Option (List Nat)) : V := match o with | none => .none | some c => .str c
theorem handed_ovV (o : Option (List Nat)) : handedV (ovV o) = true := by cases o <;> rfl
noncomputable abbrev tokE (it st : V) (l : List Nat) (i : Int) (nx : V) : List (Str × V) := [(Str.ofString "istext", it), (Str.ofString "string", st), (Str.ofString "decoded_string", .str l), (Str.ofString "index", .int i), (Str.ofString "next", nx)]
theorem bs_code {c : Nat} : ([c] = [92]) ↔ (tx [c] == Str.ofString "\\") = true := by rw [bs_beq]; simp
theorem stepA_one {l : List Nat} {i j c : Nat} {o : Option (List Nat)} (hn : nxt l i = some (j, o)) (h : l[((i : Nat) : Int).toNat]? = some c) (hc : ¬ [c] = [92]) : i + 1 = j ∧ some [c] = o := step_one hn h (by rw [bs_code] at hc; simpa using hc)
theorem stepA_two {l : List Nat} {i j c d : Nat} {o : Option (List Nat)} (hn : nxt l i = some (j, o)) (h : l[((i : Nat) : Int).toNat]? = some c) (hc : [c] = [92]) (h2 : l[((i : Nat) + 1 : Int).toNat]? = some d) : i + 2 = j ∧ some ([c] ++ [d]) = o := step_two hn h (bs_code.mp hc) h2
theorem stepA_bad {l : List Nat} {i j c : Nat} {o : Option (List Nat)} (hn : nxt l i = some (j, o)) (h : l[((i : Nat) : Int).toNat]? = some c) (hc : [c] = [92]) (h2 : l[((i : Nat) + 1 : Int).toNat]? = none) : False := step_bad hn h (bs_code.mp hc) h2
end Mine
namespace Mine
section
variable {c : Cx} {lo : Loc} {ob ob' : Obs} {X : QT Addr} {Q : QT V} {QF : QT AF} {a : Addr} {vs : List V}
theorem CompE.mapk {α : Type} {elt : Expr} {x : Str} {ns' : Nms} {QF : List V → Loc → Obs → Prop} {l : List α} {g : α → V} (f : α → V)
    (hE : ∀ k ∈ l, ∀ c' : Cx, c'.Ok → c'.g = c.g → c'.env.scope.names = ns' → c'.cv = some [(x, g k)] → c'.d = c.d → c'.B = c.B → W c' VR (eval elt c'.env) (fun y lo' ob' => y = f k ∧ lo' = lo ∧ ob' = ob) never lo ob)
    (h : QF (l.map f) lo ob) : CompE c elt [] x ns' QF (l.map g) [] lo ob := by
  have key : ∀ (l : List α) (acc : List V), (∀ k ∈ l, ∀ c' : Cx, c'.Ok → c'.g = c.g → c'.env.scope.names = ns' → c'.cv = some [(x, g k)] → c'.d = c.d → c'.B = c.B → W c' VR (eval elt c'.env) (fun y lo' ob' => y = f k ∧ lo' = lo ∧ ob' = ob) never lo ob) → QF (acc ++ l.map f) lo ob → CompE c elt [] x ns' QF (l.map g) acc lo ob := by
    intro l
    induction l with
    | nil => intro acc _ h; rw [List.map_nil, List.append_nil] at h; exact h
    | cons v vs ih =>
      intro acc hE h c' h1 h2 h3 h4 h5 h6 h7 h8 h9
      refine br_t ((hE v (.head _) c' h1 h2 h4 h5 h6 h7).mono ?_ fun _ _ _ x => x)
      rintro y _ _
      intro hgr142_0
      refine of_gen fun _ kg => ?_
      obtain ⟨rfl, rfl, rfl⟩ := hgr142_0
      refine kg ?_
      exact ih _ (fun u hu => hE u (.tail _ hu)) (by simpa using h)
  exact key l [] hE h
noncomputable abbrev FnN (g : G) (f : Addr) (args : List V) (d : Nat) (hq : Bool) (ob1 : Addr → Obs) (ob0 : Obs) : Prop := FnC g f args d hq (fun v ob => ∃ D, v = .ref D ∧ ob = ob1 D) (fun _ _ => False) ob0
theorem cal_N {f : Addr} {args : List V} {d : Nat} {hq : Bool} {small oth : Obs} {ob1 ob2 : Addr → Obs} (ok : c.Ok) (p : Picks ob small oth) (F : FnN c.g f args d hq ob1 small) (q : ∀ D, App (ob1 D) oth (ob2 D)) (hd : d ≤ c.d) (hh : hq = true ∨ c.B.handled = none) (h : ∀ D, Q (.ref D) lo (ob2 D)) : Cal c (.ref f) args Q X lo ob :=
  cal_fn (QF := fun v ob => ∃ D, v = .ref D ∧ ob = ob2 D) (XF := fun _ _ => False) ok (FnC.frame p (F.mono (fun v ob ⟨D, e1, e2⟩ => ⟨D, e1, by rw [e2]; exact (q D).eq⟩) fun _ _ x => x)) hd hh (fun v ob ⟨D, e1, e2⟩ => by rw [e1, e2]; exact h D) fun _ _ x => x.elim
end
end Mine
end
section
namespace Mine

noncomputable def BaseL (c : Cx) (a : Addr) (vs : List V) : Prop := ∃ cs, c.g.hb.IsList a cs.toArray ∧ VRs vs cs
theorem LA.base {c : Cx} {ob : Obs} {a : Addr} {vs : List V} (h : BaseL c a vs) : LA c ob a vs := .inr h
theorem vrs_ints {ns : List Int} {cs : List Value} (h : IntsAre cs ns) : VRs (ns.map V.int) cs := by
  induction h with
  | nil => exact .nil
  | cons _ t _ ih => exact .cons ⟨t, rfl⟩ ih

theorem law_enterO (g : G) (env : Env) {s : Shared} {m : Str → Option Value} {lo0 : Loc} {body : List Stmt} {Qg : Flow → Shared → Prop} (X : g.K.In g.hb) (T : Top g.p g.loose g.mean g.mg g.mb g.hb)
    (hkind : env.scope.kind = .function) (hframe : env.frame = some env.locals) (hglob : env.globals = mainGlobals) (hblt : env.builtins = builtinsNs) (hnd : (env.scope.names.map (·.1)).Nodup)
    {os0 : List (Addr × Obj)} {ob0 : Obs} (N0 : News g.hb env.locals s.heap os0) (hob : ORs g.w.params ob0 os0) (hon : (os0.map (·.1)).Nodup) (F : Fr g.hb env.locals s.heap m) (hlr : LR env.scope.names lo0 m) (hos : s.os = g.os0) (hgens : s.gens = g.gens0)
    (hq : ∀ s' : Shared, (∀ b o, g.hb.get? b = some o → s'.heap.get? b = some o) → s'.os = g.os0 → s'.gens = g.gens0 → Qg (.ret (.bool true)) s')
    (h : ∀ c : Cx, c.Ok → c.g = g → c.env = env → c.ns = env.scope.names → c.cv = none → c.d = 10 → c.B.handled = none → W c FR (execs body c.env) (fun f _ _ => f = .ret (.bool true)) (fun _ _ _ => False) lo0 ob0) :
    wpAny (model g.prog g.w) (callerA.deeper env) (execs body env) Qg (fun _ _ => False) s := by
  let c : Cx := { g := g, B := callerA.deeper env, env := env, fenv := env, ns := env.scope.names, outer := [], frs0 := [], rest := [], cv := none, d := 10 }
  have ok : c.Ok := by
    refine ⟨⟨X, T⟩, rfl, rfl, hnd, hframe, hkind, rfl, hkind, hglob, hblt, hnd, ?_, ?_, fun _ => rfl, (fun _ e => nomatch e), fun _ _ _ h => h⟩
    · show callerA.depth + 1 + 10 < recursionLimit
      decide
    · show callerA.units + 3 + 4 * 10 + 100 < cLine
      decide
  refine wpAny_mono (h c ok rfl rfl rfl rfl rfl rfl [] s ⟨m, os0, [], F, hlr, hob, (by show News g.hb env.locals s.heap (os0 ++ (([] ++ []) ++ [])); simpa using N0), (by show ((os0 ++ (([] : List (Addr × Obj)) ++ [])).map (fun p : Addr × Obj => p.1)).Nodup; simpa using hon), fram0, (fun a ha hm => List.not_mem_nil (a := a) hm), hos, hgens⟩) (fun f s' q => q.elim fun gf lo ob hf n e => ?_) fun e s' q => q.elim fun _ _ _ _ _ x => x.elim
  subst e
  obtain ⟨m', os, frs, n⟩ := n
  obtain ⟨cv, rfl, e⟩ := hf
  cases e
  exact hq s' n.F.keep n.og.1 n.og.2

section
variable {c : Cx} {lo : Loc} {ob ob' : Obs} {X : QT Addr} {Q : QT V} {QF : QT AF} {a : Addr} {vs : List V}
theorem join_signs' {l : List Nat} (hm : LA c ob a (l.map fun k => V.str [k])) (hz : l.length ≤ 100000) (h : Q (.str l) lo ob) : Cal c (.cv (.builtin "str.join")) [.str [], .ref a] Q X lo ob := by
  have e : (l.map fun k => V.str [k]) = (l.map fun k => [k]).map V.str := by simp
  rw [e] at hm
  have e1 : ∀ l : List Nat, ((l.map fun c => [c]).map List.length).sum = l.length := by
    intro l; induction l with
    | nil => rfl
    | cons a l ih => simp only [List.map_cons, List.sum_cons, ih, List.length_cons, List.length_nil]; lia
  have e2 : ∀ l : List Nat, (l.map fun c => [c]).flatten = l := by
    intro l; induction l with
    | nil => rfl
    | cons a l ih => simp [ih]
  refine join_strs hm (by rw [e1]; exact hz) ?_
  rw [e2]; exact h
theorem cut_ns_map {α : Type} {l : List α} {f : α → V} {k : Nat} : cut (l.map f) none (some (k : Int)) = (l.take k).map f := by
  have e : ¬ ((k : Int) < 0) := by lia
  unfold cut kms_lo kms_hi
  simp [e]
end
end Mine
namespace Mine
section
variable {c : Cx} {lo : Loc} {ob ob' : Obs} {X : QT Addr} {Q : QT V}
end
end Mine
end
section
namespace Mine

structure TkF (g : G) (TK ini : Addr) (attrs : List Str) (meths fns : List (Str × Addr)) (blts : List (Str × Value)) : Prop where
  att : ∀ x ∈ attrs, plainGet g.K TK x = true ∧ findIn g.K (.ref TK) x = some none ∧ takerIn g.K TK x = some none
  met : ∀ p ∈ meths, plainGet g.K TK p.1 = true ∧ findIn g.K (.ref TK) p.1 = some (some (.ref p.2)) ∧ isFn g.K (.ref p.2) = true ∧ keepIn g.K (.ref p.2) = true
  fun_ : ∀ p ∈ fns, nsIn g.K mainGlobals p.1 = some (some (.ref p.2)) ∧ keepIn g.K (.ref p.2) = true ∧ (p.1 == ("__debug__" : Str)) = false
  blt : ∀ p ∈ blts, nsIn g.K mainGlobals p.1 = some none ∧ bootBuiltins p.1 = some p.2 ∧ p.1 ≠ "__name__" ∧ (p.1 == ("__debug__" : Str)) = false
  ng : noGet g.K none = true
  hd : hasDictIn g.K TK = true
  sa : findIn g.K (.ref TK) "__setattr__" = some (some (.builtin "object.__setattr__"))
  po : plainOver g.K TK = true
  mi : makesIn g.K TK = true
  ii : findIn g.K (.ref TK) "__init__" = some (some (.ref ini))
  isf : isFn g.K (.ref ini) = true

section
variable {c : Cx} {lo : Loc} {ob ob' : Obs} {X : QT Addr} {Q : QT V} {QF : QT AF} {TK ini : Addr} {attrs : List Str} {meths fns : List (Str × Addr)} {blts : List (Str × Value)}
theorem geta_tk {x d : Addr} {es : List (Str × V)} {name : Str} {v : V} (ok : c.Ok) (H : TkF c.g TK ini attrs meths fns blts) (h1 : (x, .inst TK d) ∈ ob) (h2 : (d, .dct es) ∈ ob) (hn : name ∈ attrs) (hl : Ent es name v) (hv : handedV v = true) (h : Q v lo ob) : GetA c (.ref x) name Q X lo ob :=
  geta_own ok h1 h2 (H.att _ hn).1 H.hd (H.att _ hn).2.1 H.ng hl hv h
theorem seta_tk {x d : Addr} {es es' : List (Str × V)} {name : Str} {v : V} {Q : Loc → Obs → Prop} (ok : c.Ok) (H : TkF c.g TK ini attrs meths fns blts) (h1 : (x, .inst TK d) ∈ ob) (u : OUpd d (.dct es) (.dct es') ob ob') (hn : name ∈ attrs) (e : EPut es name v es') (hz : es'.length ≤ 1000) (h : Q lo ob') : SetA c (.ref x) name v Q X lo ob :=
  seta_inst ok h1 u H.sa H.po (H.att _ hn).2.2 H.hd e hz h
theorem getm_tk {x d f : Addr} {es : List (Str × V)} {name : Str} {Q : V → List V → Loc → Obs → Prop} (ok : c.Ok) (H : TkF c.g TK ini attrs meths fns blts) (h1 : (x, .inst TK d) ∈ ob) (h2 : (d, .dct es) ∈ ob) (hm : (name, f) ∈ meths) (hl : NoEnt es name) (h : Q (.ref f) [.ref x] lo ob) : GetM c (.ref x) name Q X lo ob :=
  getm_inst ok h1 h2 (H.met _ hm).1 (H.met _ hm).2.1 (H.met _ hm).2.2.1 hl h
theorem W_globT {x : Str} {a : Addr} {p : Pos} {ns : Nms} (ok : c.Ok) (H : TkF c.g TK ini attrs meths fns blts) (hns : c.env.scope.names = ns) (hk : InN ns x .globalImplicit) (hx : (x, a) ∈ fns) (h : Q (.ref a) lo ob) : W c VR (eval (.Name x p) c.env) Q X lo ob :=
  W_glob ok hns hk (H.fun_ _ hx).1 (u := .ref a) rfl h (H.fun_ _ hx).2.2
theorem W_bltT {x : Str} {v : Value} {p : Pos} {ns : Nms} (ok : c.Ok) (H : TkF c.g TK ini attrs meths fns blts) (hns : c.env.scope.names = ns) (hk : InN ns x .globalImplicit) (hx : (x, v) ∈ blts) (h : Q (.cv v) lo ob) : W c VR (eval (.Name x p) c.env) Q X lo ob :=
  W_blt ok hns hk (H.blt _ hx).1 (H.blt _ hx).2.1 (u := .cv v) rfl h (H.blt _ hx).2.2.1 (H.blt _ hx).2.2.2
theorem kp_met {P : Prop} {n : Str} {f : Addr} (H : TkF c.g TK ini attrs meths fns blts) (hm : (n, f) ∈ meths) (hp : P) : Kp c (.ref f) ∧ P := ⟨kp_ref (H.met _ hm).2.2.2, hp⟩
theorem kp_fun {P : Prop} {n : Str} {f : Addr} (H : TkF c.g TK ini attrs meths fns blts) (hm : (n, f) ∈ fns) (hp : P) : Kp c (.ref f) ∧ P := ⟨kp_ref (H.fun_ _ hm).2.1, hp⟩
theorem hdl_bltT {x : Str} {p : Pos} {ns : Nms} {hb : List Stmt} {a : Addr} {cls : Value} {d : Option Addr} {arg : Option V} {ct : Value} (ok : c.Ok) (H : TkF c.g TK ini attrs meths fns blts) (hm : (a, Ob.exc cls d arg) ∈ ob) (hns : c.env.scope.names = ns) (hk : InN ns x .globalImplicit) (hx : (x, ct) ∈ blts) (he : exmOne c.g.K cls ct = some true)
    (h : (Mine.mk c a).Ok → W (Mine.mk c a) FR (execs hb (Mine.mk c a).env) QF X lo ob) : Hdl c (.Name x p) hb QF X a lo ob :=
  hdl_yes ok hm (nameIs_blt (c := Mine.mk c a) (mk_ok ok a) hns hk (H.blt _ hx).1 (H.blt _ hx).2.1 (H.blt _ hx).2.2.1 (H.blt _ hx).2.2.2) he h
end
end Mine
end
section
namespace Mine

section
variable {c : Cx} {lo : Loc} {ob ob' : Obs} {X : QT Addr} {Q : QT V} {QF : QT AF} {a b : Addr} {vs ws : List V}
noncomputable def plainV : V → Bool
  | .ref _ => false
  | .cv _ => false
  | _ => true
theorem plain_and {v : V} {P : Prop} (h : plainV v = true) (hp : P) : plainV v = true ∧ P := ⟨h, hp⟩
theorem S_ExprV {e : Expr} {pos : Pos} (h : W c VR (eval e c.env) (fun v lo ob => plainV v = true ∧ QF .next lo ob) X lo ob) (hi : interactive c.env = false) (hs : swapsWith e none pos.line c.env = pure false := by rfl) :
    W c FR (exec (.Expr e pos) c.env) QF X lo ob := fun z s n =>
  wpAny_Expr (thenQ (h z s n) fun ca s' a lo ob ha n h => by
    obtain ⟨hp, h⟩ := h
    have hq : LQ c z FR QF Flow.next s' := ⟨AF.next, lo, ob, rfl, n, h⟩
    cases a with
    | ref a => cases hp
    | cv v => cases hp
    | none => cases ha; exact hq
    | bool b => cases ha; exact hq
    | int i => obtain ⟨t, rfl⟩ := ha; exact hq
    | str l => obtain ⟨t, rfl⟩ := ha; exact hq
    | bytes l => obtain ⟨_, t, rfl, _⟩ := ha; exact hq) hi hs

theorem min_ints {i j : Int} (hh : c.B.handled = none) (h : Q (.int (min i j)) lo ob) : Cal c (.cv (.builtin "min")) [.int i, .int j] Q X lo ob := by
  rintro _ cs rfl hv z s n0
  refine of_gen fun _ kg => ?_
  obtain ⟨_, _, rfl, ⟨t, rfl⟩, u, rfl⟩ := VRs2 hv
  obtain ⟨m, os, frs, n⟩ := n0
  refine kg ?_
  refine min_two_N hh n.F n.N fun h' tk F' N' => ?_
  have e : (if j < i then j else i) = min i j := by lia
  rw [e]
  exact LQ.int ⟨m, os, frs, n.go (s' := { s with heap := h', toks := tk }) F' N'⟩ h

theorem mul_tx {l : List Nat} {i : Int} : Txt.mul (tx l) i = tx (List.replicate i.toNat l).flatten := by
  have key : ∀ (n : Nat) (acc : Array Nat), (List.replicate n (tx l).cps).foldl (· ++ ·) acc = acc ++ (List.replicate n l).flatten.toArray := by
    intro n
    induction n with
    | zero => intro acc; simp
    | succ n ih =>
      intro acc
      rw [List.replicate_succ, List.foldl_cons, ih, List.replicate_succ, List.flatten_cons]
      simp [tx]
  unfold Txt.mul
  by_cases h1 : i < 1
  · rw [if_pos h1, show i.toNat = 0 by lia]; rfl
  · rw [if_neg h1]
    split
    · rename_i h2
      simp only [Bool.or_eq_true, beq_iff_eq, tx_length] at h2
      rcases h2 with rfl | h2
      · simp
      · rw [List.eq_nil_of_length_eq_zero h2]
        simp
    · have := key i.toNat #[]
      rw [this]
      simp [tx]
theorem mulOk_tx {l : List Nat} {i : Int} (h0 : 0 ≤ i) (h1 : i ≤ 1000) (hz : l.length ≤ 1000) : MulOk (tx l) i :=
  mulOk_of 1000 1000 (by rw [tx_length]; exact hz) h1 (by lia) (by decide) (by decide)
theorem mul_int_str {l : List Nat} {i : Int} (h0 : 0 ≤ i) (h1 : i ≤ 1000) (hz : l.length ≤ 1000) (h : Q (.str (List.replicate i.toNat l).flatten) lo ob) : Bin c .Mult (.int i) (.str l) Q X lo ob := by
  rintro _ _ ⟨t, rfl⟩ ⟨u, rfl⟩ z s n
  have hok := mulOk_tx h0 h1 hz
  refine lm_binaryOp_repeat_right (T := "str") (U := "int") (by decide) (fun s' => typeIs_int s' i t) (typeIs_str s (tx l) u) F.fills_int_mul noFill_str_mul F.slot_int_mul lm_noRepeat_int repeat_str F.slot_int_index.lookup
    (call_gives F.slot_int_mul (typeIs_int s i t) F.entry_int_mul (F.args_int_mul_2 _ _) (AutoIntG3.int___mul___int_str_0 i t (tx l) u)
      ⟨rfl, typeIs_str s (tx l) u, call_gives F.slot_str_mul (typeIs_str s (tx l) u) F.entry_str_mul (F.args_str_mul_2 _ _) (gives_str_mul (tx l) i u t hok.1 hok.2.1 hok.2.2) ?_⟩)
  have hq : ∀ t' k, LQ c z VR Q (.str (Txt.mul (tx l) i) t') { s with toks := k } := fun t' k => by rw [mul_tx]; exact LQ.str (n.toks rfl) h
  unfold Txt.mul at hq
  by_cases h1 : i < 1
  · rw [if_pos h1]; have h' := hq s.toks (s.toks + 1); rw [if_pos h1] at h'; exact ⟨by decide, h'⟩
  · rw [if_neg h1]; refine post_val_or_made (fun hc => fits_reps (hok.2.2 h1 (by simpa using hc))) fun t' k => ?_
    have h' := hq t' k; rw [if_neg h1] at h'; exact h'

noncomputable def EqD (c : Cx) (ob : Obs) (k : Nat) (v w : V) (r : Bool) : Prop := ∀ z lo s, Now c z lo ob s → ∀ A : Around, A.units + k < cLine → ∀ cv cw, VR v cv → VR w cw → PySem.SeqAt.EqAt A s cv cw r
noncomputable def EqDs (c : Cx) (ob : Obs) (k : Nat) (vs ws : List V) (r : Bool) : Prop := (vs.length ≠ ws.length → r = false) ∧ ∃ e : Nat → Bool, (∀ (j : Nat) v w, vs[j]? = some v → ws[j]? = some w → EqD c ob k v w (e j)) ∧ (vs.length = ws.length → (List.range vs.length).all e = r)
variable {k : Nat} {v w : V} {r r' : Bool}
theorem eqds_nil : EqDs c ob k [] [] true := ⟨fun h => absurd rfl h, fun _ => true, fun j v w h => by simp at h, fun _ => rfl⟩
theorem eqds_cons (h : EqD c ob k v w r) (hr : EqDs c ob k vs ws r') : EqDs c ob k (v :: vs) (w :: ws) (r && r') := by
  refine of_gen fun _ kg => ?_
  obtain ⟨h0, e, h1, h2⟩ := hr
  refine kg ?_
  refine ⟨fun hn => ?_, fun j => match j with | 0 => r | j + 1 => e j, fun j v' w' h3 h4 => ?_, fun hl => ?_⟩
  · rw [h0 (fun e => hn (by simp [e]))]; simp
  · cases j with
    | zero => simp at h3 h4; subst h3 h4; exact h
    | succ j => exact h1 j v' w' (by simpa using h3) (by simpa using h4)
  · rw [List.length_cons, List.range_succ_eq_map, List.all_cons, List.all_map, ← h2 (by simpa using hl)]
    rfl
theorem eqds_at {cs ds : List Value} (h : EqDs c ob k vs ws r) (h1 : VRs vs cs) (h2 : VRs ws ds) {z : List (Addr × Obj)} {s : Shared} (n : Now c z lo ob s) {A : Around} (hu : A.units + k < cLine) :
    (cs.toArray.size ≠ ds.toArray.size → r = false) ∧ ∃ e : Nat → Bool, (∀ j (h1 : j < cs.toArray.size) (h2 : j < ds.toArray.size), PySem.SeqAt.EqAt A s cs.toArray[j] ds.toArray[j] (e j)) ∧ (cs.toArray.size = ds.toArray.size → (List.range cs.toArray.size).all e = r) := by
  have e1 := h1.length
  have e2 := h2.length
  refine of_gen fun _ kg => ?_
  obtain ⟨h0, e, g1, g2⟩ := h
  refine kg ?_
  refine ⟨fun hn => h0 (by simpa [e1, e2] using hn), e, fun j j1 j2 => ?_, fun hl => by rw [List.size_toArray, ← e1]; exact g2 (by simpa [e1, e2] using hl)⟩
  refine of_gen fun _ kg => ?_
  obtain ⟨v, q1, q2⟩ := h1.get' j cs[j] (List.getElem?_eq_getElem (by simpa using j1))
  obtain ⟨w, q3, q4⟩ := h2.get' j ds[j] (List.getElem?_eq_getElem (by simpa using j2))
  refine kg ?_
  simpa using g1 j v w q1 q3 z lo s n A hu _ _ q2 q4
theorem lst_at (hm : LA c ob a vs) {z : List (Addr × Obj)} {s : Shared} (n : Now c z lo ob s) : ∃ cs, s.heap.IsList a cs.toArray ∧ VRs vs cs := by
  refine of_gen fun _ kg => ?_
  obtain ⟨m, os, frs, n⟩ := n
  refine kg ?_
  exact hm.at n
theorem rc_lists (ha : LA c ob a vs) (hb : LA c ob b ws) (h : EqDs c ob k vs ws r) {z : List (Addr × Obj)} {s : Shared} (n : Now c z lo ob s) {A : Around} (hu : A.units + (k + 1) < cLine) :
    PySem.SeqAt.RcAt A s (.ref a) (.ref b) r ∧ PySem.SeqAt.RcNeAt A s (.ref a) (.ref b) (!r) := by
  refine of_gen fun _ kg => ?_
  obtain ⟨cs, h1, r1⟩ := lst_at ha n
  obtain ⟨ds, h2, r2⟩ := lst_at hb n
  refine kg ?_
  have hin : A.in1.units = A.units + 1 := rfl
  refine of_gen fun _ kg => ?_
  obtain ⟨g1, e, g3, g4⟩ := eqds_at h r1 r2 n (A := A.in1) (by rw [hin]; lia)
  refine kg ?_
  by_cases hl : cs.toArray.size = ds.toArray.size
  · rw [← g4 hl]
    exact ⟨PySem.SeqAt.RcAt.lists h1 h2 hl (by lia) g3, PySem.SeqAt.RcNeAt.lists h1 h2 hl (by lia) g3⟩
  · rw [g1 hl]
    have hb : (cs.toArray.size != ds.toArray.size) = true := by simpa using hl
    exact ⟨PySem.SeqAt.RcAt.lists_lengths h1 h2 hb (by lia), PySem.SeqAt.RcNeAt.lists_lengths h1 h2 hb (by lia)⟩
theorem ne_lists (ok : c.Ok) (ha : LA c ob a vs) (hb : LA c ob b ws) (h : EqDs c ob 50 vs ws r) (hq : Q (.bool (!r)) lo ob) : Cmp c .NotEq (.ref a) (.ref b) Q X lo ob := by
  rintro _ _ rfl rfl z s n
  exact (rc_lists ha hb h n (A := c.B) (by have := ok.un; lia)).2 _ _ _ _ (LQ.bool n hq)
theorem eqd_int {i j : Int} : EqD c ob k (.int i) (.int j) (decide (i = j)) := by
  rintro z lo s n A hu _ _ ⟨t, rfl⟩ ⟨u, rfl⟩
  have e : decide (i = j) = (i == j) := by by_cases q : i = j <;> simp [q]
  rw [e]; exact PySem.SeqAt.EqAt.int_int i t j u
theorem eqd_str {x y : List Nat} : EqD c ob k (.str x) (.str y) (decide (x = y)) := by
  rintro z lo s n A hu _ _ ⟨t, rfl⟩ ⟨u, rfl⟩
  rw [← tx_beq]; exact PySem.SeqAt.EqAt.str_str _ t _ u
theorem eqd_nn : EqD c ob k .none .none true := by rintro z lo s n A hu _ _ rfl rfl; exact PySem.SeqAt.EqAt.same _
theorem br_ne_self {α : Sort _} {x : α} {d : Decidable (x ≠ x)} {P P' : Prop} (h : P') : Br (@decide (x ≠ x) d) P P' := ⟨fun e => absurd rfl (of_decide_eq_true e), fun _ => h⟩
end
theorem Picks.drop {p : Addr × Ob} {f s o : Obs} (h : Picks f s o) : Picks (p :: f) s (p :: o) := by
  induction h with
  | nil => exact .nil
  | cons a _ ih => exact .cons (.tail a) ih
end Mine
end
section
open PySem PySem.W PySem.Calls PySem.Spec PyProof.Rows PySem.Builtin.ObjectAttr
namespace Mine

noncomputable abbrev excMro (C : Addr) : List Value := [.ref C, .type "Exception", .type "BaseException", .type "object"]
structure PeF (g : G) (PE : Addr) (names : List Str) : Prop where
  cls : ∃ cd, clsIn g.K PE = some cd ∧ cd.mro = excMro PE ∧ cd.hasDict = true
  att : ∀ x ∈ names, findIn g.K (.ref PE) x = some none
  ga : findIn g.K (.ref PE) "__getattribute__" = some (some (.builtin "BaseException.__getattribute__"))
  gh : findIn g.K (.ref PE) "__getattr__" = some none
  sa : findIn g.K (.ref PE) "__setattr__" = some (some (.builtin "object.__setattr__"))

section
variable {prog : Program} {w : World} {A : Around} {K : Frag} {C x : Addr} {s : Shared} {R : Result → Shared → Prop}
theorem xsub {M : Model} {cd : ClassData} {h : Heap} (X : K.In h) (hc : clsIn K C = some cd) (hm : cd.mro = excMro C) (b : Value) : Looks M h (isSubtype (.ref C) b) ((excMro C).contains b) :=
  looks_mroIn X (by unfold mroIn; rw [hc, Option.bind_some, hm]; rfl)
theorem xsa_open {ox : Obj} {od : Option Obj} {name : Str} {tk : Tok} {v : Value} {cd : ClassData} (X : K.In s.heap) (I : InstAt s.heap x ox C od) (hc : clsIn K C = some cd) (hm : cd.mro = excMro C) (ha : findIn K (.ref C) name = some none)
    (h : wpAny (model prog w) A.in1 (storeInOwnDict (.ref x) (.ref C) (.str name tk) name v false)
      (fun fin s' => match fin with | .done f => R (.ok f) s' | .again c' => c'.quiet = true ∧ codeAny (model prog w) A c' R s') (fun e s' => R (.error e) s') s) :
    codeAny (model prog w) A (.call (.builtin "object.__setattr__") ⟨[.ref x, .str name tk, v], []⟩) R s := by
  have SF := PySem.F.store_Exception
  have sub : Looks (model prog w) s.heap (isInstance (.ref x) (.type "object")) true := I.type.andThen (by have := xsub (M := model prog w) X hc hm (.type "object"); exact this)
  refine codeAny_call_builtin SF.slot.plain SF.entry (@check_slot (model prog w) _ _ s "object.__setattr__" "object" "__setattr__" (.ref x) [.str name tk, v] [] _ SF.kind SF.split sub (SF.args (.ref x) (.str name tk) v) ?_)
  have hmL : Looks (model prog w) s.heap (mroOf (.ref C)) cd.mro := (looks_clsIn X hc).andThen .now
  rw [osa_eq, refuse_eq]
  refine wpAny_bind (wpAny_bind (I.type.here (wpAny_bind (hmL.here ?_))))
  rw [hm, refuseLoop_ref, SF.passes]
  refine wpAny_pure (wpAny_bind (I.type.here (wpAny_bind ((looks_findIn X ha).here ?_))))
  exact wpAny_bind (wpAny_pure h)
end
section
variable {prog : Program} {w : World} {A : Around} {E : Value → Shared → Prop} {s : Shared} {h₀ : Heap} {L : Addr} {m : Str → Option Value}
theorem xstore {dx : Addr} {od od' : Obj} {name : Str} {tk : Tok} {v : Value} {pre post : List (Addr × Obj)} {es : List DictEntry} {n : Nat} {Q : Fin → Shared → Prop} (F : Fr h₀ L s.heap m) (N : News h₀ L s.heap (pre ++ (dx, od) :: post))
    (hl : (lookIn name od).isSome = true) (h1 : ∀ p ∈ pre, p.1 ≠ dx) (h2 : ∀ p ∈ post, p.1 ≠ dx)
    (e : Obj.putName name (PyData.keyHash w.params name) (.str name s.toks) v od = od') (e' : od'.data = .dict es.toArray n) (hz : es.length ≤ 1000)
    (h : ∀ h', Fr h₀ L h' m → News h₀ L h' (pre ++ (dx, od') :: post) → Q (.done (.ret .none)) { s with heap := h', toks := s.toks + 1 }) :
    wpAny (model prog w) A (storeInDict dx (.str name tk) name v) Q E s := by
  obtain ⟨U1, U2⟩ := news_upd (f := Obj.putName name (PyData.keyHash w.params name) (.str name s.toks) v) F N h1 h2 e (by obtain ⟨_, _, dd, _⟩ := od'; cases e'; rfl)
  have D := (N (dx, od) (by simp)).1
  have D' := (U2 (dx, od') (by simp)).1
  refine wpAny_bind (wpAny_pure (wpAny_bind ?_))
  unfold nsSet
  refine wpAny_bind (wpAny_bind (wpAny_askSetting (wpAny_pure (wpAny_bind (wpAny_mkText (wpAny_bind (wpAny_loadPart D ?_)))))))
  unfold lookIn at hl
  split at hl
  · rename_i es₀ n₀ q
    rw [q]
    dsimp only
    have c : (!es₀.any (·.key.isStr name) && es₀.any (·.refKey)) = false := by
      rw [← Array.any_toList, ← Array.any_toList]
      split at hl
      · rename_i en he
        rw [List.any_eq_true.mpr ⟨en, List.mem_of_find?_eq_some he, List.find?_some he⟩]; rfl
      · split at hl
        · cases hl
        · rename_i z; rw [Bool.not_eq_true] at z; rw [z, Bool.and_false]
    rw [aRefKeyMayBeTheName_at, c]
    refine wpAny_updatePart D ?_
    refine wpAny_bind (wpAny_lookBehind D' (by rw [e']; exact pastItsLine_dict (by rw [List.size_toArray, sizeLine_eq]; omega)) ?_)
    exact wpAny_pure (h _ U1 U2)
  · cases hl
end
section
variable {prog : Program} {w : World} {A : Around} {E : Value → Shared → Prop} {s : Shared} {K : Frag} {C x : Addr} {oda : Data} {osl : Array (Option Value)} {cd : ClassData} {name : Str} {tk : Tok} {v : Value} {b : Bool} {Q : Fin → Shared → Prop}
theorem xown {dd : Addr} (X : K.In s.heap) (hx : s.heap.get? x = some ⟨.ref C, some dd, oda, osl⟩) (hc : clsIn K C = some cd) (hd : cd.hasDict = true)
    (h : wpAny (model prog w) A (storeInDict dd (.str name tk) name v) Q E s) : wpAny (model prog w) A (storeInOwnDict (.ref x) (.ref C) (.str name tk) name v b) Q E s := by
  refine wpAny_bind (wpAny_pure (wpAny_bind (wpAny_bind (wpAny_loadPart hx (wpAny_bind ((looks_clsIn X hc).here ?_))))))
  rw [hd]
  exact wpAny_pure (a := some dd) h
theorem xown0 (X : K.In s.heap) (hx : s.heap.get? x = some ⟨.ref C, none, oda, osl⟩) (hn : ∀ c, oda ≠ .cls c) (hc : clsIn K C = some cd) (hd : cd.hasDict = true)
    (h : wpAny (model prog w) A (storeInDict s.heap.objs.size (.str name tk) name v) Q E { s with heap := (s.heap.push { cls := .type "dict", data := .dict #[] }).update x fun o => { o with dict := some s.heap.objs.size } }) :
    wpAny (model prog w) A (storeInOwnDict (.ref x) (.ref C) (.str name tk) name v b) Q E s := by
  refine wpAny_bind (wpAny_pure (wpAny_bind (wpAny_bind (wpAny_loadPart hx (wpAny_bind ((looks_clsIn X hc).here ?_))))))
  rw [hd]
  have go : wpAny (model prog w) A (do let d ← alloc { cls := .type "dict", data := .dict #[] }; update x (fun o => { o with dict := some d }); dictMade (.ref C) x d : Sem (Option Addr))
      (fun a s' => wpAny (model prog w) A (match a with | some d => storeInDict d (.str name tk) name v | none => noDictFor (.ref x) (.ref C) name b) Q E s') E s := by
    refine wpAny_bind (wpAny_alloc (wpAny_bind (wpAny_update (Heap.get?_push_of_some _ hx) ?_)))
    show wpAny _ _ (pure (some s.heap.objs.size)) _ _ _
    exact wpAny_pure h
  cases oda with
  | cls c => exact absurd rfl (hn c)
  | _ => exact go
end
theorem OUpd.mem {a : Addr} {b b' : Ob} {ob ob' : Obs} (u : OUpd a b b' ob ob') : (a, b) ∈ ob := by
  induction u with
  | head => exact .head _
  | tail _ ih => exact .tail _ ih
section
variable {c : Cx} {lo : Loc} {ob ob' : Obs} {X : QT Addr} {Q : QT V} {PE : Addr} {names : List Str}
theorem seta_x {x dd : Addr} {es es' : List (Str × V)} {name : Str} {v arg : V} {Q : Loc → Obs → Prop} (ok : c.Ok) (P : PeF c.g PE names) (h1 : (x, .xnew (.ref PE) (some dd) arg) ∈ ob) (u : OUpd dd (.dct es) (.dct es') ob ob') (hn : name ∈ names) (e : EPut es name v es') (hz : es'.length ≤ 1000) (h : Q lo ob') : SetA c (.ref x) name v Q X lo ob := by
  rintro _ cv rfl hv z s
  intro hgr98_0
  refine of_gen fun _ kg => ?_
  obtain ⟨m, os, frs, n⟩ := hgr98_0
  refine kg ?_
  refine of_gen fun _ kg => ?_
  obtain ⟨ox, hx1, _, hx2, hcl, hdi, a, hda, _⟩ := n.mem h1
  obtain ⟨cd, hc, hm, hdict⟩ := P.cls
  obtain ⟨o, ⟨cs, k, rfl, hr⟩, hmo, hu⟩ := n.upd u
  refine kg ?_
  have hr' := hr.put e hv (s.toks + 1)
  refine of_gen fun _ kg => ?_
  obtain ⟨os', U, fin⟩ := hu _ ⟨_, putN name cs k, rfl, hr'⟩
  refine kg ?_
  have hd := (n.N _ (List.mem_append_left _ hmo)).1
  refine of_gen fun _ kg => ?_
  obtain ⟨oc, odi, oda, osl⟩ := ox
  refine kg ?_
  dsimp only at hcl hdi hda
  subst hcl hdi hda
  have I : InstAt s.heap x _ PE (some (dictOf cs k)) := ⟨hx2, rfl, rfl, hd⟩
  have Xh := ok.g.X.keeps n.F.keep
  refine set_plain Xh I P.sa ?_
  refine xsa_open (s := { s with toks := s.toks + 1 }) Xh I hc hm (P.att _ hn) ?_
  refine of_gen fun _ kg => ?_
  obtain ⟨pre, post, e1, e2, g1, g2⟩ := U.split
  refine kg ?_
  refine xown (s := { s with toks := s.toks + 1 }) Xh hx2 hc hdict ?_
  have N' := n.N
  rw [e1] at N'
  refine xstore (s := { s with toks := s.toks + 1 }) n.F N' (getL_some hr) g1 g2 (putName_dict _ _ _ _ _ _) rfl (by rw [hr'.length]; exact hz) fun h' F' N'' => ?_
  exact ⟨(), lo, ob', trivial, ⟨m, os', frs, fin { s with heap := h', toks := s.toks + 2 } ⟨rfl, rfl⟩ F' (by rw [e2]; exact N'')⟩, h⟩
theorem seta_x0 {x : Addr} {name : Str} {v arg : V} {ob' : Addr → Obs} {Q : Loc → Obs → Prop} (ok : c.Ok) (P : PeF c.g PE names) (u : ∀ dd, OUpd x (.xnew (.ref PE) none arg) (.xnew (.ref PE) (some dd) arg) ob (ob' dd)) (hn : name ∈ names) (h : ∀ dd, Q lo ((dd, .dct [(name, v)]) :: ob' dd)) : SetA c (.ref x) name v Q X lo ob := by
  rintro _ cv rfl hv z s
  intro hgr128_0
  refine of_gen fun _ kg => ?_
  obtain ⟨m, os, frs, n⟩ := hgr128_0
  refine kg ?_
  refine of_gen fun _ kg => ?_
  obtain ⟨cd, hc, hm, hdict⟩ := P.cls
  refine kg ?_
  -- the dict's object first
  have n1 : NowAt c z lo ((s.heap.objs.size, .dct []) :: ob) { s with heap := s.heap.push { cls := .type "dict", data := .dict #[] } } m ((s.heap.objs.size, { cls := .type "dict", data := .dict #[] }) :: os) frs := n.push (b := .dct []) ⟨[], 0, rfl, .nil⟩ rfl
  refine of_gen fun _ kg => ?_
  obtain ⟨ox, ⟨hcl, hdi, a, hda, hra⟩, hmo, hu⟩ := n1.upd (.tail (u s.heap.objs.size))
  obtain ⟨oc, odi, oda, osl⟩ := ox
  refine kg ?_
  dsimp only at hcl hdi hda
  subst hcl hdi hda
  refine of_gen fun _ kg => ?_
  obtain ⟨ox', _, _, hx0, hq⟩ := n.mem (a := x) (b := .xnew (.ref PE) none arg) (u 0).mem
  refine kg ?_
  have hx1 := (n1.N _ (List.mem_append_left _ hmo)).1
  have hx2 : s.heap.get? x = some ⟨.ref PE, none, .fields #[a, .none, .none, .none, .bool false, .none], osl⟩ := by
    have := Heap.get?_push_of_some { cls := .type "dict", data := .dict #[] } hx0
    rw [hx0]
    exact congrArg some (Option.some.inj (this.symm.trans hx1))
  have I : InstAt s.heap x _ PE none := ⟨hx2, rfl, rfl, trivial⟩
  have Xh := ok.g.X.keeps n.F.keep
  refine set_plain Xh I P.sa ?_
  refine xsa_open (s := { s with toks := s.toks + 1 }) Xh I hc hm (P.att _ hn) ?_
  refine xown0 (s := { s with toks := s.toks + 1 }) Xh hx2 (fun _ h => nomatch h) hc hdict ?_
  refine of_gen fun _ kg => ?_
  obtain ⟨os', U, fin⟩ := hu ⟨.ref PE, some s.heap.objs.size, .fields #[a, .none, .none, .none, .bool false, .none], osl⟩ ⟨rfl, rfl, a, rfl, hra⟩
  obtain ⟨pre, post, e1, e2, g1, g2⟩ := U.split
  refine kg ?_
  have N1 := n1.N
  rw [e1] at N1
  obtain ⟨F2, N2⟩ := news_upd (f := fun o : Obj => { o with dict := some s.heap.objs.size }) n1.F N1 g1 g2 rfl rfl
  rw [← e2] at N2
  have n2 := fin { s with heap := (s.heap.push { cls := .type "dict", data := .dict #[] }).update x fun o => { o with dict := some s.heap.objs.size }, toks := s.toks + 1 } ⟨rfl, rfl⟩ F2 N2
  -- the entry
  refine of_gen fun _ kg => ?_
  obtain ⟨o, ⟨cs, k, rfl, hr⟩, hmo2, hu2⟩ := n2.upd (a := s.heap.objs.size) (b := .dct []) (b' := .dct [(name, v)]) .head
  refine kg ?_
  have hr' := hr.put (EPut.nil (k := name) (v := v)) hv (s.toks + 1)
  refine of_gen fun _ kg => ?_
  obtain ⟨os2, U2, fin2⟩ := hu2 _ ⟨_, putN name cs k, rfl, hr'⟩
  obtain ⟨pre2, post2, f1, f2, k1, k2⟩ := U2.split
  refine kg ?_
  have N2' := n2.N
  rw [f1] at N2'
  refine xstore (s := { s with heap := (s.heap.push { cls := .type "dict", data := .dict #[] }).update x fun o => { o with dict := some s.heap.objs.size }, toks := s.toks + 1 }) n2.F N2' (getL_some hr) k1 k2 (putName_dict _ _ _ _ _ _) rfl (by rw [hr'.length]; exact Nat.le_of_ble_eq_true rfl) fun h' F' N'' => ?_
  exact ⟨(), lo, _, trivial, ⟨m, os2, frs, fin2 { s with heap := h', toks := s.toks + 2 } ⟨rfl, rfl⟩ F' (by rw [f2]; exact N'')⟩, h _⟩
end
section
variable {prog : Program} {w : World} {A : Around} {K : Frag} {C x : Addr} {E : Value → Shared → Prop} {hh : Heap} {gg : Array GenState} {d : Drawn} {t : Nat} {os : OsState}
theorem xget_body {ox : Obj} {od : Option Obj} {name : Str} {v : Value} {tk : Tok} {Q : Fin → Shared → Prop} (X : K.In hh) (I : InstAt hh x ox C od) 
    (hf : findObj K C od name = some (.value v)) (h : Q (.done (.ret v)) ⟨hh, gg, d, t, os⟩) :
    wpAny (model prog w) A (Builtin.«object.__getattribute__» ⟨[.ref x, .str name tk], []⟩) Q E ⟨hh, gg, d, t, os⟩ := by
  have L0 := I.type (M := model prog w)
  have L1 := looks_find (M := model prog w) X I hf
  unfold Builtin.«object.__getattribute__»
  refine wpAny_bind (wpAny_pure ?_)
  refine wpAny_bind (wpAny_pure (wpAny_bind (L0.at (wpAny_bind (L1.at ?_)))))
  exact wpAny_pure h
theorem xget {ox : Obj} {od : Option Obj} {name : Str} {v : Value} {expr : Bool} {cd : ClassData} {Q : Value → Shared → Prop} (X : K.In hh) (I : InstAt hh x ox C od) (hc : clsIn K C = some cd) (hm : cd.mro = excMro C)
    (hga : findIn K (.ref C) "__getattribute__" = some (some (.builtin "BaseException.__getattribute__"))) (hgh : findIn K (.ref C) "__getattr__" = some none)
    (hf : findObj K C od name = some (.value v)) (hv : handedIn v = true) (h : Q v ⟨hh, gg, d, t + 1, os⟩) : wpAny (model prog w) A (getAttr (.ref x) name expr) Q E ⟨hh, gg, d, t, os⟩ := by
  have L0 := I.type (M := model prog w)
  have L1 := looks_findIn (M := model prog w) X hga
  have L2 := looks_findIn (M := model prog w) X hgh
  have FB := PySem.F.attr_Exception
  have sub : Looks (model prog w) hh (isInstance (.ref x) (.type "BaseException")) true := L0.andThen (by have := xsub (M := model prog w) X hc hm (.type "BaseException"); exact this)
  have hx2 : (Value.builtin "BaseException.__getattribute__" == Value.builtin "object.__getattribute__") = false := by decide +kernel
  unfold getAttr getAttrBy
  refine wpAny_bind (wpAny_mkText (wpAny_holding (wpAny_bind (L0.at (wpAny_bind (L1.at ?_))))))
  dsimp only
  rw [show (onTheHeap (Value.ref C) && Value.builtin "BaseException.__getattribute__" == Value.builtin "object.__getattribute__") = false by rw [hx2]; rfl]
  simp only [Bool.false_eq_true, if_false]
  unfold getAttrByItsOwn
  refine wpAny_bind (L2.at ?_)
  have hx0 : (expr && onTheHeap (Value.builtin "BaseException.__getattribute__")) = false := by cases expr <;> rfl
  have e : callGetattribute (.ref x) (.str name t) (.builtin "BaseException.__getattribute__") expr = boundAndCalled (.builtin "BaseException.__getattribute__") (.ref x) (.str name t) := by
    unfold callGetattribute
    rw [hx0]; rfl
  rw [e]
  have f3 := FB.ga.bind (.ref x)
  refine wpAny_bind (wpAny_attempt (wpAny_holding ?_))
  unfold boundAndCalled
  rw [f3]
  refine wpAny_bind (wpAny_pure (wpAny_call ?_))
  refine codeAny_call_builtin FB.ga.plain PySem.F.entry_bexc_ga ?_
  refine @check_slot (model prog w) _ _ ⟨hh, gg, d, t + 1, os⟩ "BaseException.__getattribute__" "BaseException" "__getattribute__" (.ref x) [.str name t] [] _ (by decide +kernel) (by decide +kernel) sub (PySem.F.args_bexc_ga (.ref x) (.str name t)) ?_
  refine xget_body X I hf ?_
  show wpAny _ _ (handedOut v) _ _ _
  rw [handedOut_of hv]
  exact wpAny_pure h
end
section
variable {c : Cx} {lo : Loc} {ob ob' : Obs} {X : QT Addr} {Q : QT V} {PE : Addr} {names : List Str}
noncomputable def XAt (ob : Obs) (x PE dd : Addr) : Prop := (∃ arg, (x, Ob.xnew (.ref PE) (some dd) arg) ∈ ob) ∨ ∃ arg, (x, Ob.exc (.ref PE) (some dd) arg) ∈ ob
theorem XAt.get {x dd : Addr} (h : XAt ob x PE dd) {z : List (Addr × Obj)} {s : Shared} {m : Str → Option Value} {os frs : List (Addr × Obj)} (n : NowAt c z lo ob s m os frs) : ∃ o vs, s.heap.get? x = some o ∧ o.cls = .ref PE ∧ o.dict = some dd ∧ o.data = .fields vs := by
  rcases h with ⟨arg, h⟩ | ⟨arg, h⟩
  · obtain ⟨o, _, _, h1, h2, h3, a, h4, _⟩ := n.mem h
    exact ⟨o, _, h1, h2, h3, h4⟩
  · obtain ⟨o, _, _, h1, h2, h3, a, vs, h4, _⟩ := n.mem h
    exact ⟨o, _, h1, h2, h3 _ rfl, h4⟩
theorem geta_x {x dd : Addr} {es : List (Str × V)} {name : Str} {v : V} (ok : c.Ok) (P : PeF c.g PE names) (h1 : XAt ob x PE dd) (h2 : (dd, .dct es) ∈ ob) (hn : name ∈ names) (hl : Ent es name v) (hv : handedV v = true) (h : Q v lo ob) : GetA c (.ref x) name Q X lo ob := by
  rintro _ rfl z s n0
  refine of_gen fun _ kg => ?_
  obtain ⟨m, os, frs, n⟩ := n0
  obtain ⟨o, vs, g1, g2, g3, g4⟩ := h1.get n
  obtain ⟨o2, _, _, g5, cs, k, rfl, hr⟩ := n.mem h2
  obtain ⟨cd, hc, hm, hdict⟩ := P.cls
  obtain ⟨cv, e, hcv⟩ := hr.get hl
  refine kg ?_
  have I : InstAt s.heap x o PE (some (dictOf cs k)) := ⟨g1, g2, by unfold notCls; rw [g4], by rw [g3]; exact g5⟩
  have hf : findObj c.g.K PE (some (dictOf cs k)) name = some (.value cv) := findObj_own (by unfold hasDictIn; rw [hc]; exact hdict) (P.att _ hn) rfl e
  have Xh := ok.g.X.keeps n.F.keep
  have n0 : Now c z lo ob s := ⟨m, os, frs, n⟩
  clear n h2 h1 g5
  refine of_gen fun _ kg => ?_
  obtain ⟨hh, gg, d, t, os⟩ := s
  refine kg ?_
  exact xget Xh I hc hm P.ga P.gh hf (handed_of hcv hv) (LQ.mk hcv (n0.toks rfl) h)
end
end Mine
end
section
open PySem PySem.W PySem.Calls PySem.Spec PyProof.Rows PySem.Builtin.ObjectAttr
namespace Mine
namespace FX
theorem slot_wd_get : Slot "wrapper_descriptor" "__get__" "wrapper_descriptor.__get__" := .of (owner := "wrapper_descriptor") (n := "__get__") (by rw [typeLookup_type, builtinLookup_eq_fast]; kernel_rfl) (by decide +kernel) (by decide +kernel) (by decide +kernel)
  (by first | exact .inl (by decide +kernel) | exact .inr (by decide +kernel)) (by rw [isSubtype_type]; kernel_rfl)
theorem entry_wd_get : entryFor table "wrapper_descriptor.__get__" = some Builtin.«wrapper_descriptor.__get__» := entryFor_of_tree (by kernel_rfl)
theorem args_wd_get (a b c : Value) : argsOk "wrapper_descriptor.__get__" ⟨[a, b, c], []⟩ := by unfold argsOk; kernel_rfl
theorem type_init : typeOf (.builtin "Exception.__init__") = pure (.type "wrapper_descriptor") := by kernel_rfl
theorem own_init : classOwn (.type "Exception") "__init__" = pure (some (.builtin "Exception.__init__")) := by kernel_rfl
end FX
section
variable {prog : Program} {w : World} {A : Around} {E : Value → Shared → Prop} {h : Heap} {g : Array GenState} {d : Drawn} {t : Nat} {os : OsState}
theorem xs_wd_get {x C : Addr} {Q : Fin → Shared → Prop} (hi : Looks (model prog w) h (isInstance (.ref x) (.type "Exception")) true)
    (hq : Q (.done (.ret (.ref h.objs.size))) ⟨h.push { cls := .type "method-wrapper", data := .fields #[.builtin "Exception.__init__", .ref x] }, g, d, t, os⟩) :
    wpAny (model prog w) A (Builtin.«wrapper_descriptor.__get__» ⟨[.builtin "Exception.__init__", .ref x, .ref C], []⟩) Q E ⟨h, g, d, t, os⟩ := by
  have e1 : (Value.ref x == Value.none) = false := rfl
  have e2 : (Value.ref C == Value.none) = false := rfl
  have e3 : (".".intercalate ("Exception.__init__".cutAt '.').dropLast) = "Exception" := by decide +kernel
  unfold Builtin.«wrapper_descriptor.__get__»
  repeat (first
    | (with_reducible refine Looks.at hi ?_)
    | (simp only [e1, e2, e3, Bool.or_false, Bool.false_eq_true, if_false])
    | wp_step
    | dsimp only)
  all_goals exact hq

theorem xs_super_ga {so D x C : Addr} {l₀ r : List Value} {tk : Tok} {Q : Fin → Shared → Prop}
    (hso : h.get? so = some { cls := .type "super", dict := none, data := .fields #[.ref D, .ref x, .ref C], slots := #[] }) (hno : Looks (model prog w) h (opaqueClassAbove (.ref C)) none)
    (hC : Looks (model prog w) h (mroOf (.ref C)) l₀) (hl : (l₀.dropWhile (· != .ref D)).drop 1 = .type "Exception" :: r) (hxC : x ≠ C) (hi : Looks (model prog w) h (isInstance (.ref x) (.type "Exception")) true)
    (hq : Q (.done (.ret (.ref h.objs.size))) ⟨h.push { cls := .type "method-wrapper", data := .fields #[.builtin "Exception.__init__", .ref x] }, g, d, t, os⟩) :
    wpAny (model prog w) A (Builtin.«super.__getattribute__» ⟨[.ref so, .str "__init__" tk], []⟩) Q E ⟨h, g, d, t, os⟩ := by
  have hlk := FX.slot_wd_get.lookup
  have hne : (Value.ref x == Value.ref C) = false := by simp [hxC]
  have ho := FX.own_init
  have ht := FX.type_init
  have hTf : (⟨h, g, d, t, os⟩ : Shared).TypeIs (.builtin "Exception.__init__") "wrapper_descriptor" := FX.type_init
  have hn : (("__init__" : Str) == ("__class__" : Str)) = false := by decide
  have hdt : ({ cls := .type "super", dict := none, data := .fields #[.ref D, .ref x, .ref C], slots := #[] } : Obj).data = .fields #[.ref D, .ref x, .ref C] := rfl
  have f0 : (#[.ref D, .ref x, .ref C] : Array Value)[0]? = some (.ref D) := rfl
  have f1 : (#[.ref D, .ref x, .ref C] : Array Value)[1]? = some (.ref x) := rfl
  have f2 : (#[.ref D, .ref x, .ref C] : Array Value)[2]? = some (.ref C) := rfl
  unfold Builtin.«super.__getattribute__»
  repeat (first
    | (with_reducible refine wpAny_field hso hdt f0 ?_) | (with_reducible refine wpAny_field hso hdt f1 ?_) | (with_reducible refine wpAny_field hso hdt f2 ?_)
    | (with_reducible refine ks_wpAny_notOpaque hno ?_)
    | (with_reducible refine Looks.at hC ?_; rw [hl])
    | (rw [List.forIn_cons])
    | (with_reducible refine wpAny_of_eq ho ?_)
    | (with_reducible refine wpAny_of_eq ht ?_)
    | (with_reducible refine wpAny_call_entry FX.slot_wd_get hTf FX.entry_wd_get ?_ (FX.args_wd_get _ _ _))
    | (with_reducible refine xs_wd_get hi ?_)
    | (with_reducible refine ⟨_, rfl, ?_⟩)
    | (simp only [hn, hne, Bool.or_false, Bool.false_eq_true, if_false])
    | wp_step
    | dsimp only)
  all_goals exact hq
theorem xs_getMethod {so D x C : Addr} {l₀ r : List Value} {pl : Sem Bool} {Q : Value × List Value → Shared → Prop}
    (hso : h.get? so = some { cls := .type "super", dict := none, data := .fields #[.ref D, .ref x, .ref C], slots := #[] }) (hno : Looks (model prog w) h (opaqueClassAbove (.ref C)) none)
    (hC : Looks (model prog w) h (mroOf (.ref C)) l₀) (hl : (l₀.dropWhile (· != .ref D)).drop 1 = .type "Exception" :: r) (hxC : x ≠ C) (hi : Looks (model prog w) h (isInstance (.ref x) (.type "Exception")) true)
    (hq : Q (.ref h.objs.size, []) ⟨h.push { cls := .type "method-wrapper", data := .fields #[.builtin "Exception.__init__", .ref x] }, g, d, t + 1, os⟩) :
    wpAny (model prog w) A (getMethod (.ref so) "__init__" pl) Q E ⟨h, g, d, t, os⟩ := by
  have hlk := PySem.F.ks_slot_super_ga.lookup
  have hcan := PySem.F.ks_canon_super_ga
  have hT : ∀ t', (⟨h, g, d, t', os⟩ : Shared).TypeIs (.ref so) "super" := fun _ => ⟨_, hso, rfl⟩
  unfold getMethod
  refine wpAny_bind (wpAny_specialOf (hT _) hlk ?_)
  show wpAny _ _ (if (Manifest.canonical "super.__getattribute__" != "object.__getattribute__") = true then _ else _) _ _ _
  rw [if_pos hcan]
  unfold getAttr getAttrBy
  refine wpAny_bind (wpAny_bind (wpAny_mkText (wpAny_holding (wpAny_bind (wpAny_typeOf (hT _) (wpAny_bind (wpAny_of_eq hlk ?_)))))))
  show wpAny _ _ (getAttrByItsOwn (.ref so) (.str "__init__" t) (.type "super") (.builtin "super.__getattribute__") true false) _ _ _
  unfold getAttrByItsOwn hookBefore callGetattribute boundAndCalled
  refine wpAny_bind (wpAny_of_eq (show (if onTheHeap (.type "super") then typeLookup (.type "super") "__getattr__" else pure none) = pure none from rfl) ?_)
  refine wpAny_bind (wpAny_attempt (wpAny_holding ?_))
  show wpAny _ _ (bindSpecial (.builtin "super.__getattribute__") (.ref so) >>= _) _ _ _
  refine wpAny_bind (wpAny_of_eq (PySem.F.ks_slot_super_ga.bind _) ?_)
  refine wpAny_mono (Q := fun v s' => v = .ref h.objs.size ∧ s' = ⟨h.push { cls := .type "method-wrapper", data := .fields #[.builtin "Exception.__init__", .ref x] }, g, d, t + 1, os⟩) (E := fun _ _ => False)
    (wpAny_call_entry PySem.F.ks_slot_super_ga (hT _) PySem.F.ks_entry_super_ga (xs_super_ga hso hno hC hl hxC hi ⟨_, rfl, rfl, rfl⟩) (PySem.F.ks_gaArgs_super _ _)) (fun v s' hv => ?_) fun _ _ z => z.elim
  obtain ⟨rfl, rfl⟩ := hv
  exact wpAny_pure (wpAny_pure hq)
theorem xs_init {x mw C T : Addr} {args : List Value} {ox : Obj} {vs : Array Value} {R : Result → Shared → Prop} (hmw : h.get? mw = some { cls := .type "method-wrapper", data := .fields #[.builtin "Exception.__init__", .ref x] })
    (hx : h.get? x = some ox) (hxc : ox.cls = .ref C) {cd : ClassData} (hcd : Looks (model prog w) h (classData C) cd) (hd : ox.data = .fields vs) (hsz : 0 < vs.size) (h0 : vs[0]? = some (.ref T)) (hrest : args.length ≤ sizeLine)
    (hq : R (.ok (.ret .none)) ⟨(h.push { cls := .type "tuple", data := .seq args.toArray }).update x (Obj.mapFields (·.setIfInBounds 0 (.ref h.objs.size))), g, d, t, os⟩) :
    codeAny (model prog w) A (.call (.ref mw) ⟨args, []⟩) R ⟨h, g, d, t, os⟩ := by
  have FB := PySem.F.excBase_Exception
  have hr := FB.initRow
  have hk := FB.initKind
  refine codeAny_of_tree ?_
  show wpAny _ A.in1 (callAny (.ref mw) ⟨args, []⟩) _ _ _
  unfold callAny
  refine wpAny_bind (wpAny_load hmw ?_)
  have f0 : (#[.builtin "Exception.__init__", .ref x] : Array Value)[0]? = some (.builtin "Exception.__init__") := rfl
  have f1 : (#[.builtin "Exception.__init__", .ref x] : Array Value)[1]? = some (.ref x) := rfl
  have e1 : (Value.type "method-wrapper" == Value.type "method" || Value.type "method-wrapper" == Value.type "builtin_function_or_method" || Value.type "method-wrapper" == Value.type "method-wrapper") = true := by decide +kernel
  have e2 : (Value.type "method-wrapper" != Value.type "method") = true := by decide +kernel
  simp only [f0, f1, e1, e2, if_true]
  have chk : ∀ (Q : Unit → Shared → Prop) (E : Value → Shared → Prop), Q () ⟨h, g, d, t, os⟩ → wpAny (model prog w) A.in1 (checkBoundCall "Exception.__init__" ⟨.ref x :: args, []⟩) Q E ⟨h, g, d, t, os⟩ := by
    intro Q E hQ
    unfold checkBoundCall
    simp only [hr, hk]
    have e3 : (Manifest.AttrKind.slot != Manifest.AttrKind.method && Manifest.AttrKind.slot != Manifest.AttrKind.classMethod) = true := by decide
    simp only [e3, if_true]
    repeat (first | (with_reducible refine Looks.at hcd ?_) | (with_reducible refine wpAny_loadPart_at hx ?_; rw [hxc]) | wp_step)
    all_goals first
      | exact hQ
      | exact wpAny_onRaise (wpAny_of_eq (check_star_args "*" "Exception" _ _ .self _) hQ)
  refine wpAny_bind (chk _ _ ?_)
  refine wpAny_pure ⟨Code.quiet_builtin _ (by decide +kernel), codeAny_builtin FB.initEntry ?_⟩
  have hnT : ∀ o, h.get? x = some o → (h.push { cls := .type "tuple", data := .seq args.toArray }).get? x = some o := fun o e => Heap.get?_push_of_some _ e
  have hx' := hnT _ hx
  unfold Builtin.«BaseException.__init__» 
  repeat (first | (with_reducible refine wpAny_field hx' hd h0 ?_) | (with_reducible refine wpAny_setField hx' hd hsz ?_) | wp_step)
  all_goals exact hq
end
end Mine
end
section
open PySem PySem.W PySem.Calls PySem.Spec PyProof.Rows PySem.Builtin.ObjectAttr
namespace Mine

noncomputable def WA {α β : Type} (c : Cx) (k : Code) (rel : β → α → Prop) (t : Sem α) (Q : QT β) (X : QT Addr) (lo : Loc) (ob : Obs) : Prop :=
  ∀ z s, Now c z lo ob s → _root_.PySem.wpAt c.g.M c.B k t (LQ c z rel Q) (LX c z X) s
noncomputable def ThenA (c : Cx) (k : Code) (r : List Stmt) (Q : QT AF) (X : QT Addr) : QT AF := fun f lo ob => match f with
  | .next => WA c k FR (execs r c.env) Q X lo ob
  | f => Q f lo ob
section
variable {c : Cx} {k : Code} {lo lo' : Loc} {ob : Obs} {X : QT Addr} {Q : QT AF} {r : List Stmt}
theorem thenA_next (h : WA c k FR (execs r c.env) Q X lo ob) : ThenA c k r Q X .next lo ob := h
theorem SA_cons {st : Stmt} (h : W c FR (exec st c.env) (ThenA c k r Q X) X lo ob) : WA c k FR (execs (st :: r) c.env) Q X lo ob := fun z s n =>
  ks_wpAt_execs_cons (wpAt_of_wpAny (thenQ (h z s n) fun f s' g lo ob hf n h => by
    cases g with
    | next => cases hf; exact h z s' n
    | brk => cases hf; exact ⟨AF.brk, lo, ob, rfl, n, h⟩
    | cont => cases hf; exact ⟨AF.cont, lo, ob, rfl, n, h⟩
    | ret v => obtain ⟨cv, rfl, hr⟩ := hf; exact ⟨AF.ret v, lo, ob, ⟨cv, rfl, hr⟩, n, h⟩))
theorem SA_last {st : Stmt} (h : WA c k FR (exec st c.env) Q X lo ob) : WA c k FR (execs [st] c.env) Q X lo ob := fun z s n =>
  ks_wpAt_execs_cons (_root_.PySem.wpAt_mono (h z s n) (fun f s' hq => by
    refine of_gen fun _ kg => ?_
    obtain ⟨g, lo, ob, hf, n, hq⟩ := hq
    refine kg ?_
    cases g with
    | next => cases hf; exact wpAt_of_wpAny (wpAny_execs_nil ⟨AF.next, lo, ob, rfl, n, hq⟩)
    | brk => cases hf; exact ⟨AF.brk, lo, ob, rfl, n, hq⟩
    | cont => cases hf; exact ⟨AF.cont, lo, ob, rfl, n, hq⟩
    | ret v => obtain ⟨cv, rfl, hr⟩ := hf; exact ⟨AF.ret v, lo, ob, ⟨cv, rfl, hr⟩, n, hq⟩) fun _ _ x => x)
end
structure SuF (g : G) (f cda cc PE : Addr) (fd : FuncData) (sf : Str) : Prop where
  fn : ∃ oc od osl, g.K.lookup f = some ⟨oc, od, .func fd, osl⟩
  par : ∃ ar : Arg, (fd.params.posonlyargs ++ fd.params.args).head? = some ar ∧ ar.arg = sf
  code : ∃ ccl cdd ccs vs file tf, g.K.lookup cda = some ⟨ccl, cdd, .fields vs, ccs⟩ ∧ vs[2]? = some (.str file tf) ∧ ((g.prog.main.file : Str) == file) = true
  cell : ∃ cl cld csl, g.K.lookup cc = some ⟨cl, cld, .cell (some (.ref PE)), csl⟩
  sup : nsIn g.K mainGlobals "super" = some none
  tp : nsIn g.K cStatics "thirdparty.any" = some none
  top : (g.prog.main.scope.names.lookup ("super" : Str)).isSome = false
theorem boot_super : bootBuiltins "super" = some (.type "super") := by first | exact PyProof.Rows.Boot.«super» | boot_fast
section
variable {c : Cx} {k : Code} {lo lo' : Loc} {ob : Obs} {X : QT Addr} {Q : QT AF} {names : List Str}
theorem S_SuperInit {f cda cc PE x dd T : Addr} {fd : FuncData} {self nm name : Str} {scope : Scope} {body : List Stmt} {es : List (Str × V)} {l : List Nat} {ob' : Addr → Obs} {p0 p1 p2 p3 p4 p5 : Pos} {ns : Nms} {pl : Sem Bool}
    (ok : c.Ok) (hv : c.cv = none) (henv : c.env = ksEnv name scope c.L f (.ref cda) cc) (P : PeF c.g PE names) (S : SuF c.g f cda cc PE fd self) (hns : c.ns = ns)
    (hs1 : scope.names.lookup ("super" : Str) = some .globalImplicit) (hs2 : scope.names.lookup ("__class__" : Str) = some .free) (hs3 : scope.names.lookup self = some .local) (hs4 : scope.kind = .function)
    (hself : Has ns lo self (.ref x)) (hx : (x, .xnew (.ref PE) (some dd) (.ref T)) ∈ ob) (hdd : (dd, .dct es) ∈ ob) (hmsg : Has ns lo nm (.str l)) (hz : l.length ≤ 100000)
    (u : ∀ T2, OUpd x (.xnew (.ref PE) (some dd) (.ref T)) (.xnew (.ref PE) (some dd) (.ref T2)) ob (ob' T2)) (hd : (nm == ("__debug__" : Str)) = false)
    (h : ∀ T2, Q .next lo ((T2, .tup [.str l]) :: ob' T2))
    (he : eval (.Call (.Attribute (.Call (.Name "super" p0) [] [] p1) "__init__" p2) [.Name nm p3] [] p4) c.env = (do
      let ov ← attributeBase (.Call (.Name "super" p0) [] [] p1) "__init__" c.env (eval (.Call (.Name "super" p0) [] [] p1) c.env)
      standAt p2.atName
      let (f, first) ← holding [ov] (getMethod ov "__init__" pl)
      callWith p4 f first (backTo p4 (starEach [.Name nm p3] c.env)) []) := by rfl)
    (hsw : swapsWith (.Call (.Attribute (.Call (.Name "super" p0) [] [] p1) "__init__" p2) [.Name nm p3] [] p4) none p5.line c.env = pure false := by rfl) : WA c (.func body c.env) FR (exec (.Expr (.Call (.Attribute (.Call (.Name "super" p0) [] [] p1) "__init__" p2) [.Name nm p3] [] p4) p5) c.env) Q X lo ob := by
  intro z s n0
  refine of_gen fun _ kg => ?_
  obtain ⟨m, os, frs, n⟩ := n0
  obtain ⟨cd, hc, hm, hdict⟩ := P.cls
  obtain ⟨oc, od, osl, hfn⟩ := S.fn
  obtain ⟨ar, har, rfl⟩ := S.par
  obtain ⟨ccl, cdd, ccs, vs, file, tf, hcode, hvs, hfile⟩ := S.code
  obtain ⟨cl, cld, csl, hcell⟩ := S.cell
  obtain ⟨cself, hms, hrs⟩ := n.lr _ _ (hns ▸ hself)
  refine kg ?_
  cases hrs
  refine of_gen fun _ kg => ?_
  obtain ⟨ox, _, _, hx2, hcl, hdi, a, hda, ha⟩ := n.mem hx
  refine kg ?_
  cases ha
  refine of_gen fun _ kg => ?_
  obtain ⟨o2, _, _, hd2, cs, kk, rfl, hr⟩ := n.mem hdd
  refine kg ?_
  have I : InstAt s.heap x ox PE (some (dictOf cs kk)) := ⟨hx2, hcl, by unfold notCls; rw [hda], by rw [hdi]; exact hd2⟩
  have Xh := ok.g.X.keeps n.F.keep
  have hsub : mroIn c.g.K PE (.ref PE) = some true := by unfold mroIn; rw [hc, Option.bind_some, hm]; simp
  have hti : interactive c.env = false := inter ok
  refine _root_.PySem.wpAt_mono (ks_wpAt_Expr_any (Q := LQ c z FR Q) (E := LX c z X) ?_ hti hsw) (fun _ _ q => q) fun _ _ q => q
  refine ks_wpAt_MethodCall (pl := pl) ?_ he
  rw [henv]
  refine ks_node (m := m) n.F ok.g.X n.N ok.g.T hfn har hms I hcode hvs hfile hcell hc hsub S.sup (by decide) hs1 hs2 hs3 hs4 S.top boot_super fun so h1 F1 N1 l1 => ?_
  -- the super object and its method
  have n1 : NowAt c z lo ((so, .raw (ks_superObj PE x PE)) :: ob) { s with heap := h1 } m ((so, ks_superObj PE x PE) :: os) frs := n.add (s' := { s with heap := h1 }) F1 N1 rfl fun p hp => Nat.ne_of_lt (l1 p hp)
  have Xh1 := ok.g.X.keeps n1.F.keep
  refine of_gen fun _ kg => ?_
  obtain ⟨ox1, _, _, hx3, hcl3, hdi3, a3, hda3, ha3⟩ := n1.mem (.tail _ hx)
  obtain ⟨o3, _, _, hd3, cs3, kk3, rfl, hr3⟩ := n1.mem (.tail _ hdd)
  refine kg ?_
  have I1 : InstAt h1 x ox1 PE (some (dictOf cs3 kk3)) := ⟨hx3, hcl3, by unfold notCls; rw [hda3], by rw [hdi3]; exact hd3⟩
  have hxC : x ≠ PE := ks_ne Xh I hc
  have hi : Looks (model c.g.prog c.g.w) h1 (isInstance (.ref x) (.type "Exception")) true := I1.type.andThen (by have := xsub (M := model c.g.prog c.g.w) Xh1 hc hm (.type "Exception"); exact this)
  have hC : Looks (model c.g.prog c.g.w) h1 (mroOf (.ref PE)) cd.mro := (looks_clsIn Xh1 hc).andThen .now
  have hl : (cd.mro.dropWhile (· != .ref PE)).drop 1 = .type "Exception" :: [.type "BaseException", .type "object"] := by rw [hm]; simp [List.dropWhile]
  refine xs_getMethod (h := h1) (g := s.gens) (d := s.drawn) (t := s.toks) (os := s.os) (n1.N _ (.head _)).1 (looks_opaque Xh1 S.tp) hC hl hxC hi ?_
  have n2 := n1.push (s' := { s with heap := h1.push { cls := .type "method-wrapper", data := .fields #[.builtin "Exception.__init__", .ref x] }, toks := s.toks + 1 }) (o := { cls := .type "method-wrapper", data := .fields #[.builtin "Exception.__init__", .ref x] }) (b := .raw { cls := .type "method-wrapper", data := .fields #[.builtin "Exception.__init__", .ref x] }) rfl rfl rfl
  generalize hmw : h1.objs.size = mw at *
  have hargs : Args c [.Name nm p3] (fun vs lo' ob' => vs = [.str l] ∧ lo' = lo ∧ ob' = (mw, Ob.raw { cls := .type "method-wrapper", data := .fields #[.builtin "Exception.__init__", .ref x] }) :: (so, .raw (ks_superObj PE x PE)) :: ob) X lo ((mw, Ob.raw { cls := .type "method-wrapper", data := .fields #[.builtin "Exception.__init__", .ref x] }) :: (so, .raw (ks_superObj PE x PE)) :: ob) :=
    W_local ok hv hns hmsg ⟨rfl, rfl, rfl⟩ hd
  rw [← henv]
  refine callWith_of (P := fun hp => hp.get? mw = some { cls := .type "method-wrapper", data := .fields #[.builtin "Exception.__init__", .ref x] }) (by rw [backTo_any (by rfl)]; rfl) (fun hp hh => ⟨.machine, .inr (.inl rfl), (Looks.ld hh).andThen .now⟩) ?_
  refine wpAny_mono (evalArgs_of (f := .ref mw) (by rfl) hargs z _ ⟨m, _, frs, n2⟩) (fun av s3 hav => ?_) fun _ _ q => q
  refine of_gen fun _ kg => ?_
  obtain ⟨vs', lo', ob3, ⟨hvs', hkw⟩, ⟨m3, os3, frs3, n3⟩, rfl, rfl, rfl⟩ := hav
  obtain ⟨_, _, _, hmw3, e⟩ := n3.mem (.head _)
  refine kg ?_
  cases e
  refine ⟨hmw3, ?_⟩
  rw [hkw]
  refine of_gen fun _ kg => ?_
  obtain ⟨cm, e, hcm⟩ := VRs1 hvs'
  refine kg ?_
  rw [e]
  have hx4 : (x, Ob.xnew (.ref PE) (some dd) (.ref T)) ∈ (mw, Ob.raw { cls := .type "method-wrapper", data := .fields #[.builtin "Exception.__init__", .ref x] }) :: (so, .raw (ks_superObj PE x PE)) :: ob := .tail _ (.tail _ hx)
  refine of_gen fun _ kg => ?_
  obtain ⟨ox4, _, _, hx5, hcl5, hdi5, a5, hda5, ha5⟩ := n3.mem hx4
  refine kg ?_
  cases ha5
  have Xh3 := ok.g.X.keeps n3.F.keep
  -- the tuple, then the exception's own cell
  have n4 := n3.push (s' := { s3 with heap := s3.heap.push { cls := .type "tuple", data := .seq #[cm] } }) (o := { cls := .type "tuple", data := .seq #[cm] }) (b := .tup [.str l]) ⟨rfl, [cm], 0, rfl, .one hcm⟩ rfl rfl
  refine of_gen fun _ kg => ?_
  obtain ⟨ox6, ⟨hcl6, hdi6, a6, hda6, ha6⟩, hmo6, hu⟩ := n4.upd (.tail (.tail (.tail (u s3.heap.objs.size))))
  refine kg ?_
  have hx6 := (n4.N _ (List.mem_append_left _ hmo6)).1
  have hx5' := Heap.get?_push_of_some { cls := .type "tuple", data := .seq #[cm] } hx5
  have eo : ox6 = ox4 := Option.some.inj (hx6.symm.trans hx5')
  subst eo
  obtain ⟨os6, U, fin⟩ := hu (ox6.mapFields (·.setIfInBounds 0 (.ref s3.heap.objs.size))) ⟨(Obj.cls_mapFields _ _).trans hcl6, by
    refine of_gen fun _ kg => ?_
    obtain ⟨c', dct, dat, sl⟩ := ox6
    refine kg ?_
    obtain rfl : dat = _ := hda6
    exact hdi6, .ref s3.heap.objs.size, by rw [Obj.data_mapFields hda6]; rfl, rfl⟩
  refine of_gen fun _ kg => ?_
  obtain ⟨pre, post, e1, e2, g1, g2⟩ := U.split
  refine kg ?_
  have N4 := n4.N
  rw [e1] at N4
  obtain ⟨F5, N5⟩ := news_upd (f := Obj.mapFields (·.setIfInBounds 0 (.ref s3.heap.objs.size))) n4.F N4 g1 g2 rfl (Obj.isFreed_of_fields (Obj.data_mapFields hda6 _))
  rw [← e2] at N5
  have n5 := fin { s3 with heap := (s3.heap.push { cls := .type "tuple", data := .seq #[cm] }).update x (Obj.mapFields (·.setIfInBounds 0 (.ref s3.heap.objs.size))) } ⟨rfl, rfl⟩ F5 N5
  have n6 := Now.forget ⟨m3, os6, frs3, n5⟩ (.cons .head (Picks.drop (Picks.drop Picks.all)))
  refine wpAny_call ?_
  have hcdL : Looks (model c.g.prog c.g.w) s3.heap (classData PE) cd := looks_clsIn Xh3 hc
  exact xs_init (h := s3.heap) (g := s3.gens) (d := s3.drawn) (t := s3.toks) (os := s3.os) (args := [cm]) hmw3 hx5 hcl5 hcdL hda5 (by simp) rfl (by simp [sizeLine]) ⟨AF.next, _, _, rfl, n6, h _⟩
end
end Mine
end
section
open PySem PySem.W PySem.Calls PySem.Spec PyProof.Rows PySem.Builtin.ObjectAttr
namespace Mine

theorem fn_introX {cc : Addr} {g : G} {f : Addr} {args : List V} {d : Nat} {H : Option Value → Prop} {Q : V → Obs → Prop} {X : QT Addr} {X' : Addr → Obs → Prop} {ob : Obs} {lo0 : Loc} {pn : List Str}
    {name qual : Str} {params : Arguments} {body : List Stmt} {scope : Scope} {dV kV doc pm cdv ct oc : Value} {an od : Option Addr} {osl : Array (Option Value)}
    (ho : g.K.lookup f = some ⟨oc, od, .func (ksFn name qual params body scope dV kV doc pm an cdv ct cc), osl⟩) (hcd : codeIn g.K cdv qual = true)
    (hbind : ∀ (s : Shared) cas, g.K.In s.heap → VRs args cas → BindsTo s (ksFn name qual params body scope dV kV doc pm an cdv ct cc) ⟨cas, []⟩ (pn.zip cas))
    (hpn : pn.Nodup) (hlo : iniL scope.names (pn.zip args) = lo0) (hloc : ∀ y ∈ pn, scope.names.lookup y = some .local) (hnd : (scope.names.map (·.1)).Nodup)
    (hcell : ∀ x ∈ scope.names, x.2 ≠ .cell) (hX : LeavesOK X X')
    (h : ∀ c : Cx, c.Ok → c.g = g → c.env = ksEnv qual scope c.L f cdv cc → c.ns = scope.names → c.env.scope.names = scope.names → c.cv = none → c.d = d → H c.B.handled → WA c (.func body c.env) FR (execs body c.env) (FnQ Q) X lo0 ob)
    (hco : scope.isCoroutine = false := by rfl) (hgen : scope.isGenerator = false := by rfl) (hk : scope.kind = .function := by rfl) : FnH g f args (d + 1) H Q X' ob := by
  intro c A ok hg hf hd hun hh cas hv z lo s n
  subst hg
  have n0 := n
  refine of_gen fun _ kg => ?_
  obtain ⟨m, os, frs, n⟩ := n
  refine kg ?_
  have F := n.F
  have X₀ := ok.g.X.keeps F.keep
  refine of_gen fun _ kg => ?_
  obtain ⟨oL, es, ep, hL, hLd, hLk, hLf⟩ := F.ns
  refine kg ?_
  have hLt := Heap.lt_size hL
  have hfst : ∀ y ∈ pn.zip cas, scope.names.lookup y.1 = some .local := fun y hy => hloc _ (List.of_mem_zip hy).1
  refine ks_codeAny_call_defAt (fd := ksFn name qual params body scope dV kV doc pm an cdv ct cc) (body := body) (binds := pn.zip cas) (by lia) (X₀ _ _ ho) rfl (ok.g.T.nolimit.keeps F.keep) (codeRec_of X₀ hcd) rfl (hbind _ _ X₀ hv) hcell hfst (fun h₁ hns hk₁ => ?_) hco hgen hk
  have up : ∀ b o, s.heap.get? b = some o → h₁.get? b = some o := fun b o e => hk₁ b o e
  have ok' : (callee c A (ksEnv qual scope s.heap.objs.size f cdv cc) c.L oL frs d).Ok := by
    refine ⟨ok.g, ?_, rfl, hnd, rfl, hk, rfl, hk, rfl, rfl, hnd, ?_, ?_, fun _ => rfl, (fun _ h => nomatch h), fun _ _ _ h => h⟩
    · show A.frames.map _ = _
      rw [hf]; rfl
    · show A.depth + 1 + d < _
      lia
    · show A.units + 3 + 4 * d + 100 < _
      lia
  have n' : NowAt (callee c A (ksEnv qual scope s.heap.objs.size f cdv cc) c.L oL frs d) (c.rest ++ z) lo0 ob { s with heap := h₁, toks := s.toks + (pn.zip cas).length } (fun y => (pn.zip cas).reverse.lookup y) os ((c.L, oL) :: frs) := by
    refine ⟨⟨hns, fun b o e => up b o (F.keep b o e), Nat.le_trans F.above (Nat.le_of_lt hLt)⟩, fun x v hx => ?_, n.rs, fun q hq => ?_, n.nd, ⟨⟨?_, ok.fframe, ⟨es, ep, hLd⟩, n.fm.fs⟩, TI.SameUp.refl _⟩, (fun a ha hm => ?_), n.og⟩
    · subst hlo
      exact lookup_zip hv hpn (iniL_has hx)
    · have hin : s.heap.get? q.1 = some q.2 ∧ c.g.hb.get? q.1 = none := by
        simp only [List.nil_append, List.mem_append, List.mem_cons] at hq
        rcases hq with h | (h | h) | rfl | h
        · exact ⟨(n.N q (by simp [h])).1, (n.N q (by simp [h])).2.2⟩
        · exact ⟨(n.N q (by simp [h])).1, (n.N q (by simp [h])).2.2⟩
        · exact ⟨(n.N q (by simp [h])).1, (n.N q (by simp [h])).2.2⟩
        · exact ⟨hL, Heap.get?_none_of_le F.above⟩
        · exact ⟨(n.N q (by simp [h])).1, (n.N q (by simp [h])).2.2⟩
      exact ⟨up _ _ hin.1, Nat.ne_of_lt (Heap.lt_size hin.1), hin.2⟩
    · rw [ok.fkind]; decide
    · rcases List.mem_cons.mp hm with e | hm
      · obtain ⟨q, hq, e'⟩ := List.mem_map.mp ha
        have hq' : q ∈ os ++ ((c.rest ++ z) ++ frs) := by
          simp only [List.nil_append, List.mem_append] at hq ⊢
          rcases hq with h | h | h
          · exact .inl h
          · exact .inr (.inl (.inl h))
          · exact .inr (.inl (.inr h))
        exact (n.N q hq').2.1 (e'.trans e)
      · exact n.ap a ha (by rw [← sameUp_addrs n.fm.su]; exact hm)
  refine _root_.PySem.wpAt_mono (h _ ok' rfl rfl rfl rfl rfl rfl hh (c.rest ++ z) _ ⟨_, os, _, n'⟩) (fun fl s' hl => ?_) fun e s' hx => ?_
  · obtain ⟨gf, lo', ob', hg', ⟨m', os', frs', nn⟩, hq'⟩ := hl
    have nn2 : Now c z lo ob' s' := by
      refine ⟨m, os', frs'.tail, ?_⟩
      have hsu := nn.fm.su
      cases frs' with
      | nil => exact hsu.elim
      | cons q qs =>
        refine of_gen fun _ kg => ?_
        obtain ⟨h1, ⟨sl, h2⟩, SU'⟩ := hsu
        refine kg ?_
        have hq := (nn.N q (List.mem_append_right _ (List.mem_append_right _ List.mem_cons_self))).1
        have h1' : q.1 = c.L := h1
        have h2' : q.2 = { oL with slots := sl } := h2
        rw [h1', h2'] at hq
        have hap : ∀ a ∈ (os' ++ (c.rest ++ z)).map (·.1), a ≠ c.L ∧ a ∉ frs.map (·.1) := fun a ha => ⟨fun e => nn.ap a ha (by rw [e]; exact .head _), fun hm => nn.ap a ha (.tail _ hm)⟩
        refine ⟨⟨⟨_, es, ep, hq, hLd, hLk, hLf⟩, nn.F.keep, F.above⟩, n.lr, nn.rs, fun r hr => ?_, nn.nd, n.fm.up SU', (fun a ha hm => ?_), nn.og⟩
        · rw [List.tail_cons] at hr
          have hr' : r ∈ os' ++ (([] ++ (c.rest ++ z)) ++ q :: qs) := by
            simp only [List.nil_append, List.mem_append, List.mem_cons] at hr ⊢
            rcases hr with h | (h | h) | h
            · exact .inl h
            · exact .inr (.inl (.inl h))
            · exact .inr (.inl (.inr h))
            · exact .inr (.inr (.inr h))
          refine ⟨(nn.N r hr').1, ?_, (nn.N r hr').2.2⟩
          simp only [List.mem_append] at hr
          rcases hr with h | (h | h) | h
          · exact (hap r.1 (List.mem_map_of_mem (by simp [h]))).1
          · exact (hap r.1 (List.mem_map_of_mem (by simp [h]))).1
          · exact (hap r.1 (List.mem_map_of_mem (by simp [h]))).1
          · obtain ⟨r₀, hr₀, e⟩ := TI.SameUp.fwd SU' r h
            rw [e]
            exact (n.N r₀ (List.mem_append_right _ (List.mem_append_right _ hr₀))).2.1
        · exact (hap a ha).2 (by rw [← sameUp_addrs n.fm.su] at hm; exact hm)
    cases gf with
    | next => cases hg'; exact ⟨V.none, ob', rfl, nn2, hq'⟩
    | brk => cases hg'; exact ⟨V.none, ob', rfl, nn2, hq'⟩
    | cont => cases hg'; exact ⟨V.none, ob', rfl, nn2, hq'⟩
    | ret v => obtain ⟨cv, rfl, hr⟩ := hg'; exact ⟨v, ob', hr, nn2, hq'⟩
  · exact hX c A (ksEnv qual scope s.heap.objs.size f cdv cc) oL frs d m z lo e s' ok ok' n.fm n.lr ⟨es, ep, hLd, hLk, hLf⟩ F.above (fun p hp => (n.N p (List.mem_append_right _ (List.mem_append_right _ hp))).2.1) hx

theorem ns_of_in {K : Frag} {h : Heap} {N : Addr} {mg : Str → Option Value} {n : Str} {v : Value} (X : K.In h) (G : h.Ns N mg) (e : nsIn K N n = some (some v)) : mg n = some v := by
  refine of_gen fun _ kg => ?_
  obtain ⟨o, es, ep, ho, hd, _, hf⟩ := G
  refine kg ?_
  unfold nsIn at e
  split at e
  · rename_i c d es' n' sl q
    have := X _ _ q
    rw [ho] at this
    cases this
    cases hd
    split at e
    · rename_i en he
      cases e
      rw [← hf]
      unfold nsFind findBy
      rw [← Array.find?_toList, he]
      rfl
    · split at e <;> cases e
  · cases e
structure ExF (g : G) (PE fI : Addr) : Prop where
  obj : ∃ nm q N bs hdct sn sub ab col dd k0 k1 k2 k3 k5, g.K.lookup PE = some (excClassObj nm q PE N bs [.type "Exception", .type "BaseException", .type "object"] hdct sn sub ab col dd k0 k1 k2 k3 k5 "Exception.__new__") ∧ nsOkIn g.K N = true ∧ nsIn g.K N "__init__" = some (some (.ref fI))
  fn : ∃ od fd osl, g.K.lookup fI = some ⟨.type "function", od, .func fd, osl⟩
section
variable {c : Cx} {lo : Loc} {ob : Obs} {X : QT Addr} {Q : QT V}
theorem cal_exc {PE fI : Addr} {args : List V} {d : Nat} {H : Option Value → Prop} (ok : c.Ok) (E : ExF c.g PE fI) (hd : d + 1 ≤ c.d) (hh : H c.B.handled) (hz : args.length ≤ 100)
    (h : ∀ x T, FnH c.g fI (.ref x :: args) d H (fun v ob => v = .none ∧ Q (.ref x) lo ob) (fun a ob => X a lo ob) ((x, .xnew (.ref PE) none (.ref T)) :: (T, .tup args) :: ob)) : Cal c (.ref PE) args Q X lo ob := by
  rintro _ cas rfl hv z s
  intro hgr133_0
  refine of_gen fun _ kg => ?_
  obtain ⟨m, os, frs, n⟩ := hgr133_0
  refine kg ?_
  refine of_gen fun _ kg => ?_
  obtain ⟨nm, q, N, bs, hdct, sn, sub, ab, col, dd, k0, k1, k2, k3, k5, hPE, hN, hi⟩ := E.obj
  obtain ⟨od, fd, osl, hf⟩ := E.fn
  refine kg ?_
  have Xh := ok.g.X.keeps n.F.keep
  have hns := Heap.Ns.of_isNs (isNs_of_in Xh hN)
  refine of_gen fun _ kg => ?_
  obtain ⟨hh0, g, dr, t, os'⟩ := s
  refine kg ?_
  refine wpAny_call_exc_init (hrest := by rw [← hv.length, sizeLine_eq]; lia) PySem.F.excBase_Exception (Xh _ _ hPE) hns (ns_of_in Xh hns hi) (Xh _ _ hf) rfl fun h' e hm => ?_
  refine of_gen fun _ kg => ?_
  obtain ⟨T, he, hTn, hT⟩ := hm.there
  refine kg ?_
  have hTe : T ≠ e := fun q => by rw [q, he] at hT; cases hT
  have hb : c.B.depth + c.d < recursionLimit := ok.room
  have keepB : ∀ a, hh0.get? a = none → c.g.hb.get? a = none ∧ a ≠ c.L ∧ ∀ p ∈ os ++ ((c.rest ++ z) ++ frs), p.1 ≠ a := by
    intro a ha
    refine ⟨?_, ?_, fun p hp q => ?_⟩
    · cases hq : c.g.hb.get? a with
      | none => rfl
      | some w => have := n.F.keep a w hq; rw [ha] at this; cases this
    · rintro rfl
      refine of_gen fun _ kg => ?_
      obtain ⟨oL, es, ep, hL, _⟩ := n.F.ns
      refine kg ?_
      rw [ha] at hL; cases hL
    · have := (n.N p hp).1
      rw [q, ha] at this; cases this
  have F' := n.F.keeps hm.keeps
  refine of_gen fun _ kg => ?_
  obtain ⟨b1, b2, b3⟩ := keepB _ hTn
  obtain ⟨d1, d2, d3⟩ := keepB _ hm.new
  refine kg ?_
  have n1 : NowAt c z lo ((T, .tup args) :: ob) ⟨h', g, dr, t, os'⟩ m ((T, { cls := .type "tuple", data := .seq cas.toArray }) :: os) frs := n.add (s' := ⟨h', g, dr, t, os'⟩) F' (fun p hp => by
    rcases List.mem_cons.mp hp with rfl | hp
    · exact ⟨hT, b2, b1⟩
    · exact ⟨hm.keeps _ _ (n.N p hp).1, (n.N p hp).2⟩) ⟨rfl, cas, 0, rfl, hv⟩ b3
  have n2 : NowAt c z lo ((e, .xnew (.ref PE) none (.ref T)) :: (T, .tup args) :: ob) ⟨h', g, dr, t, os'⟩ m ((e, { cls := .ref PE, data := .fields #[.ref T, .none, .none, .none, .bool false, .none] }) :: (T, { cls := .type "tuple", data := .seq cas.toArray }) :: os) frs := n1.add (s' := ⟨h', g, dr, t, os'⟩) F' (fun p hp => by
    rcases List.mem_cons.mp hp with rfl | hp
    · exact ⟨he, d2, d1⟩
    · exact n1.N p hp) ⟨rfl, rfl, _, rfl, rfl⟩ (fun p hp => by
    rcases List.mem_cons.mp hp with rfl | hp
    · exact hTe
    · exact d3 p hp)
  refine wpAny_call (codeAny_mono (h e T c (c.B.under (.builtin "type.__call__" ⟨.ref PE :: cas, []⟩)) ok rfl (frames_call ok.fr) (by rw [depth_under_make]; lia) (by have := ok.un; rw [units_under_make]; lia) hh (.ref e :: cas) (.cons rfl hv) z lo ⟨h', g, dr, t, os'⟩ ⟨m, _, frs, n2⟩) fun r s' hr => ?_)
  match r with
  | .ok (.ret v) =>
    obtain ⟨u, ob, hu, n, rfl, hq⟩ := hr
    exact ⟨hu, .ref e, lo, ob, rfl, n, hq⟩
  | .ok .next => exact hr.elim
  | .ok .brk => exact hr.elim
  | .ok .cont => exact hr.elim
  | .error e => obtain ⟨a, ob, rfl, n, hq⟩ := hr; exact ⟨a, lo, ob, rfl, n, hq⟩
end
end Mine
end
section
open PySem PySem.W PySem.Calls PySem.Spec PyProof.Rows PySem.Builtin.ObjectAttr
namespace Mine
theorem upd_mem2 {d : Addr} {o o' : Obj} {l l' : List (Addr × Obj)} (u : Upd d o o' l l') : ∀ p ∈ l', p = (d, o') ∨ (p ∈ l ∧ p.1 ≠ d) := by
  induction u with
  | head h =>
    intro p hp
    rcases List.mem_cons.mp hp with rfl | hp
    · exact .inl rfl
    · exact .inr ⟨.tail _ hp, h p hp⟩
  | tail hne _ ih =>
    intro p hp
    rcases List.mem_cons.mp hp with rfl | hp
    · exact .inr ⟨.head _, hne⟩
    · rcases ih p hp with h | ⟨h, h2⟩
      · exact .inl h
      · exact .inr ⟨.tail _ h, h2⟩
theorem upd_new {d : Addr} {o o' : Obj} {l l' : List (Addr × Obj)} (u : Upd d o o' l l') : (d, o') ∈ l' := by
  induction u with
  | head _ => exact .head _
  | tail _ _ ih => exact .tail _ ih
section
variable {c : Cx} {z : List (Addr × Obj)} {lo : Loc} {ob ob' : Obs} {s s' : Shared} {m : Str → Option Value} {os frs : List (Addr × Obj)} {X : QT Addr} {QF : QT AF}
theorem NowAt.same (n : NowAt c z lo ob s m os frs) {e : Addr} {b b' : Ob} (u : OUpd e b b' ob ob') {o' : Obj} (ho : obR c.g.w.params b' o') (hs : ∀ a, a ≠ e → s'.heap.get? a = s.heap.get? a) (he : s'.heap.get? e = some o') (hog : Og s s' := by exact ⟨rfl, rfl⟩) :
    ∃ os', NowAt c z lo ob' s' m os' frs ∧ (e, o') ∈ os' ++ ((c.rest ++ z) ++ frs) := by
  refine of_gen fun _ kg => ?_
  obtain ⟨o, h1, hm, hu⟩ := n.upd u
  obtain ⟨os', U, fin⟩ := hu o' ho
  refine kg ?_
  have hem := n.N _ (List.mem_append_left _ hm)
  have hL : c.L ≠ e := Ne.symm hem.2.1
  refine ⟨os', fin s' hog ⟨n.F.ns.at' fun o q => (hs _ hL).trans q, fun b o q => (hs _ fun q2 => ?_).trans (n.F.keep b o q), n.F.above⟩ (fun p hp => ?_), ?_⟩
  · rw [q2, hem.2.2] at q; cases q
  · rcases upd_mem2 U p hp with rfl | ⟨h, hne⟩
    · exact ⟨he, hem.2⟩
    · exact ⟨(hs _ hne).trans (n.N p h).1, (n.N p h).2⟩
  · exact upd_new U
theorem exc_mem {ob ob' : Obs} {e : Addr} {b b' : Ob} (u : OUpd e b b' ob ob') : (e, b') ∈ ob' := by
  induction u with
  | head => exact .head _
  | tail _ ih => exact .tail _ ih
variable {PE e dd : Addr} {arg : V} {names : List Str} {x : Expr} {pos : Pos}
theorem looks_isType_inst {M : Model} {h : Heap} {o : Obj} (ho : h.get? e = some o) {vs : Array Value} (hd : o.data = .fields vs) : Looks M h (isType (.ref e)) false := by
  refine (show Looks M h (loadHead e) o from (Looks.ld ho).andThen .now).andThen ?_
  rw [hd]
  exact .now
end
end Mine
end
section
open PySem PySem.W PySem.Calls PySem.Spec PyProof.Rows PySem.Builtin.ObjectAttr
namespace Mine
section
variable {c : Cx} {z : List (Addr × Obj)} {lo : Loc} {ob ob' : Obs} {s s' : Shared} {m : Str → Option Value} {os frs : List (Addr × Obj)} {X : QT Addr} {QF : QT AF}
variable {PE e dd : Addr} {arg : V} {names : List Str} {x : Expr} {pos : Pos}
theorem looks_isInst {M : Model} {K : Frag} {cd : ClassData} {h : Heap} {o : Obj} (Xh : K.In h) (hc : clsIn K PE = some cd) (hm : cd.mro = excMro PE) (ho : h.get? e = some o) (hcl : o.cls = .ref PE) : Looks M h (isInstance (.ref e) (.type "BaseException")) true :=
  (show Looks M h (typeOf (.ref e)) (.ref PE) from hcl ▸ (Looks.ld ho).andThen .now).andThen (by have := xsub (M := M) Xh hc hm (.type "BaseException"); exact this)
structure TyF (g : G) (PE : Addr) : Prop where
  ty : ∃ od dat osl, g.K.lookup PE = some ⟨.type "type", od, dat, osl⟩

theorem throw_new {what : Sem Flow} (ok : c.Ok) (P : PeF c.g PE names) (Y : TyF c.g PE) (u : OUpd e (.xnew (.ref PE) (some dd) arg) (.exc (.ref PE) (some dd) (some arg)) ob ob') (n : NowAt c z lo ob s m os frs) (hX : X e lo ob') :
    ∃ o a, s.heap.get? e = some o ∧ o.cls = .ref PE ∧ o.data = .fields #[a, .none, .none, .none, .bool false, .none] ∧
      ∀ (h' : Heap) (vs : Array Value), (∀ b, b ≠ e → h'.get? b = s.heap.get? b) → h'.get? e = some { o with data := .fields (#[a] ++ vs) } → vs.size = 5 → vs[0]? = some .none → LX c z X (.ref e) { s with heap := h' } := by
  refine of_gen fun _ kg => ?_
  obtain ⟨o, _, _, ho, hcl, hdi, a, hda, hra⟩ := n.mem u.mem
  refine kg ?_
  refine ⟨o, a, ho, hcl, hda, fun h' vs hs he hsz h0 => ?_⟩
  refine of_gen fun _ kg => ?_
  obtain ⟨os', n', hmem⟩ := n.same (s' := { s with heap := h' }) u (o' := { o with data := .fields (#[a] ++ vs) }) ⟨hcl, (fun d q => by cases q; exact hdi), a, vs, rfl, hsz, (fun v q => by cases q; exact hra), (fun q => by cases q)⟩ hs he
  refine kg ?_
  refine ⟨e, lo, ob', rfl, ⟨⟨_, _, _, exc_mem u⟩, m, os', frs, n', _, _, he, rfl, .inl ?_⟩, hX⟩
  rw [Array.getElem?_append_right (by simp)]
  simpa using h0
theorem setF {M : Model} {A : Around} {E : Value → Shared → Prop} {o : Obj} {vs : Array Value} {i : Nat} {v : Value} {Q : Unit → Shared → Prop} {s : Shared} (ho : s.heap.get? e = some { o with data := .fields vs }) (hi : i < vs.size)
    (h : ∀ h' : Heap, (∀ b, b ≠ e → h'.get? b = s.heap.get? b) → h'.get? e = some { o with data := .fields (vs.setIfInBounds i v) } → Q () { s with heap := h' }) : wpAny M A (setField (.ref e) i v) Q E s :=
  wpAny_setField ho rfl hi (h _ (fun b hb => Heap.get?_update_other _ _ (Ne.symm hb)) (Heap.get?_update_self _ ho (Obj.isFreed_of_fields (vs := vs.setIfInBounds i v) rfl)))
theorem mem_uniq {a : Addr} {b1 b2 : Ob} : ∀ {l : Obs}, (l.map (·.1)).Nodup → (a, b1) ∈ l → (a, b2) ∈ l → b1 = b2
  | [], _, h, _ => nomatch h
  | p :: l, hn, h1, h2 => by
    rw [List.map_cons, List.nodup_cons] at hn
    rcases List.mem_cons.mp h1 with e1 | h1
    · rcases List.mem_cons.mp h2 with e2 | h2
      · rw [← e1] at e2; cases e2; rfl
      · exact absurd (List.mem_map_of_mem (f := (·.1)) h2) (by rw [show (a, b2).1 = p.1 by rw [← e1]]; exact hn.1)
    · rcases List.mem_cons.mp h2 with e2 | h2
      · exact absurd (List.mem_map_of_mem (f := (·.1)) h1) (by rw [show (a, b1).1 = p.1 by rw [← e2]]; exact hn.1)
      · exact mem_uniq hn.2 h1 h2
theorem NowAt.obnd (n : NowAt c z lo ob s m os frs) : (ob.map (·.1)).Nodup := by
  rw [← n.rs.map]
  exact nd_left n.nd
theorem entry_unchain : entryFor table "proto.unchain" = some Builtin.«proto.unchain» := entryFor_of_tree (by kernel_rfl)
theorem unchain_plain {A : Around} {E : Value → Shared → Prop} {s : Shared} {hd : Addr} {e : Value} {oh : Obj} {vs : Array Value} {Q : Value → Shared → Prop} {w : World} {prog : Program} (ho : s.heap.get? hd = some oh) (hdat : oh.data = .fields vs) (h2 : vs[2]? = some .none) (hq : Q .none s) :
    wpAny (model prog w) A (runValue (.builtin "proto.unchain" ⟨[e, .ref hd, .ref hd, .bool false], []⟩)) Q E s := by
  refine wpAny_runValue (codeAny_builtin entry_unchain ?_)
  unfold Builtin.«proto.unchain»
  refine wpAny_bind (wpAny_field ho hdat h2 ?_)
  rw [if_pos (by simp)]
  exact wpAny_pure hq
theorem S_RaiseFrom {hd : Addr} {cls : Value} {k : Nat} {cpos : Pos} (ok : c.Ok) (P : PeF c.g PE names) (Y : TyF c.g PE) (hh : c.B.handled = some (.ref hd))
    (h : W c VR (eval x c.env) (fun v lo ob => ∃ e dd arg a1 ob', v = .ref e ∧ OUpd e (.xnew (.ref PE) (some dd) arg) (.exc (.ref PE) (some dd) (some arg)) ob ob' ∧ (hd, Ob.exc cls none a1) ∈ ob ∧ X e lo ob') X lo ob) :
    W c FR (exec (.Raise (some x) (some (.Constant .none k cpos)) pos) c.env) QF X lo ob := fun z s n0 => by
  rw [arm_exec_Raise]
  refine wpAny_bind (wpAny_standAt ?_)
  show wpAny _ _ (raiseStmt c.env (some (do let v ← eval x c.env; standAt pos; pure v)) (some (do let v ← eval (.Constant .none k cpos) c.env; standAt pos; pure v))) _ _ _
  unfold raiseStmt
  refine wpAny_bind (wpAny_bind (thenQ (h z s n0) fun v s1 u lo1 ob1 hu n1 hk => wpAny_bind (wpAny_standAt (wpAny_pure ?_))))
  refine of_gen fun _ kg => ?_
  obtain ⟨e, dd, arg, a1, ob', rfl, upd, hm1, hX⟩ := hk
  refine kg ?_
  cases hu
  refine of_gen fun _ kg => ?_
  obtain ⟨m, os, frs, n⟩ := n1
  obtain ⟨o, a, ho, hcl, hda, fin⟩ := throw_new (what := pure .next) ok P Y upd n hX
  obtain ⟨cd, hc, hm, hdict⟩ := P.cls
  obtain ⟨od, dat, osl, hPE⟩ := Y.ty
  obtain ⟨oh, _, _, hoh, hch, _, ah, vh, hdh, hsz, _, hnone⟩ := n.mem hm1
  refine kg ?_
  have hne : hd ≠ e := fun q => by
    subst q
    cases mem_uniq n.obnd hm1 upd.mem
  have Xh := ok.g.X.keeps n.F.keep
  have L1 : Looks c.g.M s1.heap (isType (.ref e)) false := looks_isType_inst ho hda
  have L2 : Looks c.g.M s1.heap (isInstance (.ref e) (.type "BaseException")) true := looks_isInst Xh hc hm ho hcl
  refine wpAny_bind (wpAny_holding (wpAny_bind (?_ : wpAny _ _ (pure Value.none) _ _ _)))
  refine wpAny_pure (wpAny_bind (wpAny_standAt (wpAny_pure (wpAny_bind (wpAny_pure ?_)))))
  refine wpAny_bind (wpAny_holding ?_)
  unfold excFromValue isExcClass
  refine wpAny_bind (wpAny_bind (L1.here (wpAny_pure ?_)))
  simp only [Bool.false_eq_true, if_false]
  refine wpAny_bind (L2.here ?_)
  simp only [if_true]
  refine wpAny_pure ?_
  rw [if_pos (by simp)]
  refine wpAny_bind (wpAny_pure ?_)
  have ho0 : s1.heap.get? e = some { o with data := .fields #[a, .none, .none, .none, .bool false, .none] } := by rw [ho]; obtain ⟨oc, odi, oda, osl⟩ := o; obtain rfl : oda = _ := hda; rfl
  refine wpAny_bind (setF ho0 (by simp) fun h1 k1 e1 => ?_)
  refine wpAny_bind (setF (s := { s1 with heap := h1 }) e1 (by simp) fun h2 k2 e2 => ?_)
  have kk : ∀ b, b ≠ e → h2.get? b = s1.heap.get? b := fun b hb => (k2 b hb).trans (k1 b hb)
  have heb : c.g.hb.get? e = none := by
    refine of_gen fun _ kg => ?_
    obtain ⟨o9, h9, _⟩ := n.rs.mem upd.mem
    refine kg ?_
    exact (n.N _ (List.mem_append_left _ h9)).2.2
  have Xh2 : c.g.K.In h2 := fun b o q => by
    have hb : b ≠ e := fun q2 => by
      have := ok.g.X _ _ q
      rw [q2, heb] at this; cases this
    exact (kk b hb).trans (Xh _ _ q)
  have L1' : Looks c.g.M h2 (isType (.ref e)) false := looks_isType_inst e2 rfl
  have L3 : Looks c.g.M h2 (typeOf (.ref e)) (.ref PE) := by
    have t : Looks c.g.M h2 (typeOf (.ref e)) o.cls := (Looks.ld e2).andThen .now
    rw [hcl] at t
    exact t
  have L4 : Looks c.g.M h2 (typeOf (.ref PE)) (.type "type") := (Looks.ld (Xh2 _ _ hPE)).andThen .now
  refine wpAny_bind (L1'.here ?_)
  simp only [Bool.false_eq_true, if_false]
  unfold raisedInstance
  refine wpAny_bind (wpAny_bind (L3.here (wpAny_bind (L4.here ?_))))
  rw [if_pos (by decide)]
  refine wpAny_pure ?_
  unfold setFlight
  have f1 : ((#[a, Value.none, Value.none, Value.none, Value.bool false, Value.none].setIfInBounds 3 Value.none).setIfInBounds 4 (Value.bool true))[1]? = some Value.none := by simp
  refine wpAny_bind (wpAny_bind (wpAny_field e2 rfl f1 ?_))
  rw [if_neg (by simp)]
  refine wpAny_pure ?_
  unfold raiseNew
  refine wpAny_bind (wpAny_handled ?_)
  rw [hh]
  dsimp only
  rw [if_pos (by simpa using hne)]
  refine wpAny_bind (wpAny_holding (unchain_plain ((kk _ hne).trans hoh) hdh ?_ ?_))
  · rw [Array.getElem?_append_right (by simp)]; simpa using hnone rfl
  refine wpAny_bind (setF (s := { s1 with heap := h2 }) e2 (by simp) fun h3 k3 e3 => ?_)
  refine wpAny_throw ?_
  exact fin h3 #[.none, .ref hd, .none, .bool true, .none] (fun b hb => (k3 b hb).trans (kk b hb)) e3 rfl rfl
end
end Mine
end
section
namespace Mine
noncomputable def Hdls (c : Cx) (Q : QT AF) (X : QT Addr) : List ExceptHandler → QT Addr
  | [], a, lo, ob => X a lo ob
  | .ExceptHandler (some t) none (b0 :: hb) _ :: r, a, lo, ob => ∃ cls d arg ct b, (a, Ob.exc cls d arg) ∈ ob ∧ NameIs (mk c a) t ct ∧ exmOne c.g.K cls ct = some b ∧
      Br b (W (mk c a) FR (execs (b0 :: hb) (mk c a).env) Q X lo ob) (Hdls c Q X r a lo ob)
  | .ExceptHandler (some t) (some x) (b0 :: hb) _ :: r, a, lo, ob => ∃ cls d arg ct b, (a, Ob.exc cls d arg) ∈ ob ∧ NameIs (mk c a) t ct ∧ exmOne c.g.K cls ct = some b ∧
      Br b (∃ lo1, Put c.ns lo x (some (.ref a)) lo1 ∧ W (mk c a) FR (execs (b0 :: hb) (mk c a).env) (fun f lo ob => ∃ lo2, Put c.ns lo x none lo2 ∧ Q f lo2 ob) (fun _ _ _ => False) lo1 ob) (Hdls c Q X r a lo ob)
  | _, _, _, _ => False
section
variable {c : Cx} {z : List (Addr × Obj)} {lo : Loc} {ob : Obs} {s : Shared} {a : Addr} {X : QT Addr} {Q : QT AF}
theorem HeldX.store {fl : Value} {x : Str} {lo' : Loc} {Q : Unit → Shared → Prop} {E : Value → Shared → Prop} (ok : c.Ok) (hv : c.cv = none) (x0 : HeldX c z a lo ob fl s) (p : Put c.ns lo x (some (.ref a)) lo')
    (h : ∀ s', Now c z lo' ob s' → Q () s') : wpAny c.g.M c.B (storeName c.env x (.ref a)) Q E s := by
  refine of_gen fun _ kg => ?_
  obtain ⟨m, os, frs, n⟩ := x0.now
  refine kg ?_
  have e := ok.fn hv
  refine wpAny_storeName_local (m := m) ?_ ?_ (fun h' hn hs => h _ (n.set ok p (fun u hu => ⟨.ref a, rfl, by cases hu; exact rfl⟩) (by rw [e] at hn; exact hn) (by rw [e] at hs; exact hs))) ?_
  · rw [e]
    show c.fenv.scope.names.lookup x = _
    rw [ok.fns]
    exact lookup_of_mem ok.nd p.mem
  · rw [e]; exact n.F.ns
  · rw [ok.kind]; rfl
theorem name_goes {x : Str} {lo' : Loc} {pos : Pos} {Q : Unit → Shared → Prop} {E : Value → Shared → Prop} (ok : c.Ok) (hv : c.cv = none) (n : Now c z lo ob s) (p : Put c.ns lo x none lo')
    (h : ∀ s', Now c z lo' ob s' → Q () s') : wpAny c.g.M c.B (do bindName c.env x .none; unbindBehindTheSuite c.env x pos) Q E s := by
  refine of_gen fun _ kg => ?_
  obtain ⟨m, os, frs, n⟩ := n
  refine kg ?_
  have e := ok.fn hv
  have hl : c.env.kindOf x = some .local := by
    rw [e]
    show c.fenv.scope.names.lookup x = _
    rw [ok.fns]
    exact lookup_of_mem ok.nd p.mem
  have hp : (c.env.scope.kind == .class || (c.env.scope.kind == .module && c.env.locals != c.env.globals)) = false := by rw [ok.kind]; rfl
  have hn : s.heap.Ns c.env.locals m := by rw [e]; exact n.F.ns
  refine wpAny_bind (wpAny_bindName (wpAny_storeName_local hl hn (fun h₁ hn₁ hs₁ => ?_) hp))
  unfold unbindBehindTheSuite
  refine wpAny_onRaise ?_
  unfold unbindName
  refine wpAny_bind (wpAny_point (wpAny_bind ?_))
  unfold deleteName
  simp only [hl, hp]
  rw [if_neg (by decide)]
  refine wpAny_bind (wpAny_nsDel_keeps hn₁ fun h₂ v hn₂ hs₂ => ?_)
  simp only [if_true, Option.isSome_some, Bool.not_true, Bool.false_eq_true, if_false]
  refine wpAny_pure (wpAny_point (h _ (n.set (cv := v) ok p (fun _ q => nomatch q) ?_ ?_)))
  · rw [e] at hn₂
    refine cast (congrArg _ (funext fun y => ?_)) hn₂
    by_cases hy : y = x <;> simp [hy]
  · rw [e] at hs₁ hs₂
    exact hs₁.trans hs₂
theorem hdl_test {t : Expr} {y : Option Str} {body : List Stmt} {hpos : Pos} {r : List ExceptHandler} {cls ct : Value} {d : Option Addr} {arg : Option V} {b : Bool} {R : Flow → Shared → Prop} {E : Value → Shared → Prop} (ok : c.Ok) (x : HeldX c z a lo ob .none s) (hm : (a, Ob.exc cls d arg) ∈ ob) (hev : NameIs (mk c a) t ct) (hb1 : exmOne c.g.K cls ct = some b)
    (hy : b = true → codeAny c.g.M (c.B.mark (some (.ref a))) (.handlers (.ref a) [.ExceptHandler none y body hpos] c.env) (fun r s₂ => match r with
          | .ok f => (match y with
            | none => R f s₂
            | some n => wpAny c.g.M c.B (do bindName c.env n .none; unbindBehindTheSuite c.env n hpos) (fun _ s₃ => R f s₃) E s₂)
          | .error x => cameBackBy c.g.M c.B c.env E x s₂) s)
    (hn : b = false → wpAny c.g.M c.B (handleBy (.ref a) c.env r) R E s) : wpAny c.g.M c.B (handleBy (.ref a) c.env (.ExceptHandler (some t) y body hpos :: r)) R E s := by
  refine wpAny_handleBy_cons (codeAny_handlers_test ?_) (by intro q; cases q)
  refine hev z lo ob _ x.now.mk _ _ ?_
  refine of_gen fun _ kg => ?_
  obtain ⟨m, os, frs, n⟩ := x.now
  obtain ⟨o, _, _, ho, hc, _⟩ := n.mem hm
  refine kg ?_
  refine (exm_one (M := c.g.M) (ok.g.X.keeps n.F.keep) (looks_type ho hc) hb1).here ?_
  cases b with
  | true => exact hy rfl
  | false => exact hn rfl
theorem hdls_go {hs : List ExceptHandler} (ok : c.Ok) (hv : c.cv = none) (x : HeldX c z a lo ob .none s) (h : Hdls c Q X hs a lo ob) : wpAny c.g.M c.B (handleBy (.ref a) c.env hs) (LQ c z FR Q) (LX c z X) s := by
  induction hs with
  | nil => exact wpAny_handleBy_nil (pass_on ok hv x h)
  | cons h0 r ih =>
    refine of_gen fun _ kg => ?_
    obtain ⟨t, y, body, hpos⟩ := h0
    refine kg ?_
    cases t with
    | none => exact h.elim
    | some t =>
      cases body with
      | nil => cases y <;> exact h.elim
      | cons b0 hb =>
        cases y with
        | none =>
          refine of_gen fun _ kg => ?_
          obtain ⟨cls, d, arg, ct, b, hm, hev, hb1, hgo⟩ := h
          refine kg ?_
          exact hdl_test ok x hm hev hb1 (fun e => codeAny_handlers_suite (flight_exc (c := Mine.mk c a) x.mk fun h3 x3 => wpAny_mono (hgo.1 e z _ x3.now) (fun f s4 hf => hf.unmk) fun v s4 hx => passes_mk ok hv hx)) fun e => ih (hgo.2 e)
        | some y =>
          refine of_gen fun _ kg => ?_
          obtain ⟨cls, d, arg, ct, b, hm, hev, hb1, hgo⟩ := h
          refine kg ?_
          refine hdl_test ok x hm hev hb1 (fun e => ?_) fun e => ih (hgo.2 e)
          refine of_gen fun _ kg => ?_
          obtain ⟨lo1, p, hw⟩ := hgo.1 e
          refine kg ?_
          refine codeAny_handlers_suite_as (flight_exc (c := Mine.mk c a) x.mk fun h3 x3 => HeldX.store (c := Mine.mk c a) (mk_ok ok a) hv x3 p fun s4 n4 => ?_)
          refine wpAny_mono (hw z _ n4) (fun f s5 q => q.elim fun g lo5 ob5 hg n5 h5 => ?_) fun v s5 q => q.elim fun _ _ _ _ _ hF => hF.elim
          refine of_gen fun _ kg => ?_
          obtain ⟨lo2, p2, h5⟩ := h5
          refine kg ?_
          exact name_goes ok hv n5.unmk p2 fun s6 n6 => ⟨g, lo2, ob5, hg, n6, h5⟩
theorem S_TryX {body : List Stmt} {h0 : ExceptHandler} {hs : List ExceptHandler} {pos : Pos} (ok : c.Ok) (hv : c.cv = none) (h : W c FR (execs body c.env) Q (Hdls c Q X (h0 :: hs)) lo ob) :
    W c FR (exec (.Try body (h0 :: hs) [] [] pos) c.env) Q X lo ob := by
  intro z s n
  have he : c.env = c.fenv := ok.fn hv
  refine wpAny_Try_except (wpAny_mono (h z s n) (fun f s1 hf => ?_) fun e s1 hx => ?_)
  · obtain ⟨g, lo1, ob1, hg, n1, h1⟩ := hf
    cases g with
    | next => cases hg; exact wpAny_execs_nil ⟨AF.next, lo1, ob1, rfl, n1, h1⟩
    | brk => cases hg; exact ⟨AF.brk, lo1, ob1, rfl, n1, h1⟩
    | cont => cases hg; exact ⟨AF.cont, lo1, ob1, rfl, n1, h1⟩
    | ret v => obtain ⟨cv, rfl, hr⟩ := hg; exact ⟨AF.ret v, lo1, ob1, ⟨cv, rfl, hr⟩, n1, h1⟩
  · obtain ⟨a, lo1, ob1, rfl, x, hgo⟩ := hx
    rw [he]
    refine note_exc ok x fun h' x' => flight_exc x' fun h'' x'' => ?_
    rw [← he]
    exact hdls_go ok hv x'' hgo
variable {t : Expr} {hb : List Stmt} {b0 : Stmt} {hpos : Pos} {r : List ExceptHandler} {cls ct : Value} {d : Option Addr} {arg : Option V}
theorem hdls_no {x : Option Str} (hm : (a, Ob.exc cls d arg) ∈ ob) (hn : NameIs (mk c a) t ct) (he : exmOne c.g.K cls ct = some false) (h : Hdls c Q X r a lo ob) : Hdls c Q X (.ExceptHandler (some t) x (b0 :: hb) hpos :: r) a lo ob := by
  cases x with
  | none => exact ⟨cls, d, arg, ct, false, hm, hn, he, (fun q => nomatch q), fun _ => h⟩
  | some x => exact ⟨cls, d, arg, ct, false, hm, hn, he, (fun q => nomatch q), fun _ => h⟩
theorem hdls_yes (hm : (a, Ob.exc cls d arg) ∈ ob) (hn : NameIs (mk c a) t ct) (he : exmOne c.g.K cls ct = some true) (h : W (mk c a) FR (execs (b0 :: hb) (mk c a).env) Q X lo ob) : Hdls c Q X (.ExceptHandler (some t) none (b0 :: hb) hpos :: r) a lo ob :=
  ⟨cls, d, arg, ct, true, hm, hn, he, (fun _ => h), fun q => nomatch q⟩
theorem hdls_as {ns : Nms} {x : Str} {lo1 : Loc} (hns : c.ns = ns) (hm : (a, Ob.exc cls d arg) ∈ ob) (hn : NameIs (mk c a) t ct) (he : exmOne c.g.K cls ct = some true) (p : Put ns lo x (some (.ref a)) lo1)
    (h : W (mk c a) FR (execs (b0 :: hb) (mk c a).env) (fun f lo ob => ∃ lo2, Put ns lo x none lo2 ∧ Q f lo2 ob) (fun _ _ _ => False) lo1 ob) : Hdls c Q X (.ExceptHandler (some t) (some x) (b0 :: hb) hpos :: r) a lo ob := by
  subst hns
  exact ⟨cls, d, arg, ct, true, hm, hn, he, (fun _ => ⟨lo1, p, h⟩), fun q => nomatch q⟩
theorem S_Try {body : List Stmt} {pos : Pos} (ok : c.Ok) (hv : c.cv = none) (h : W c FR (execs body c.env) Q (Hdl c t (b0 :: hb) Q X) lo ob) :
    W c FR (exec (.Try body [.ExceptHandler (some t) none (b0 :: hb) hpos] [] [] pos) c.env) Q X lo ob :=
  S_TryX ok hv (h.mono (fun _ _ _ q => q) fun a lo ob q => by
    obtain ⟨cls, d, arg, ct, b, h1, h2, h3, h4⟩ := q
    exact ⟨cls, d, arg, ct, b, h1, h2, h3, fun e => by rw [if_pos e] at h4; exact h4, fun e => by rw [e] at h4; exact h4⟩)
end
end Mine
end
section
open PySem PySem.W PySem.Calls PySem.Spec PyProof.Rows PySem.Builtin.ObjectAttr
open Builtin Builtin.Str Builtin.BaseException Builtin.Exceptions
namespace Mine
section
variable {prog : Program} {w : World} {A : Around} {E : Value → Shared → Prop} {s : Shared} {e t0 : Addr} {K : Frag} {C : Addr} {cd : ClassData}
noncomputable def XOne (K : Frag) (C : Addr) (h : Heap) (e t0 : Addr) (m : Str) (tk : Tok) : Prop := K.In h ∧ h.TupAt t0 [.str m tk] ∧ ∃ o vs, h.get? e = some o ∧ o.cls = .ref C ∧ o.data = .fields vs ∧ vs[0]? = some (.ref t0)
theorem xbexcArgs {M : Model} {m : Str} {tk : Tok} {Q : Value × List Value → Shared → Prop} (x : XOne K C s.heap e t0 m tk) (hq : Q (.ref t0, [.str m tk]) s) : wpAny M A (bexcArgs (.ref e)) Q E s := by
  refine of_gen fun _ kg => ?_
  obtain ⟨_, ⟨ot, k, hto, _, htd⟩, o, vs, ho, _, hd, h0⟩ := x
  refine kg ?_
  unfold bexcArgs
  refine wpAny_bind (wpAny_field ho hd h0 (wpAny_bind (wpAny_seqItems hto htd ?_)))
  exact wpAny_pure hq
theorem xbexcStr {m : Str} {tk : Tok} {Q : Fin → Shared → Prop} (x : XOne K C s.heap e t0 m tk) (hq : Q (.done (.ret (.str m tk))) s) : wpAny (model prog w) A (Builtin.«BaseException.__str__» ⟨[.ref e], []⟩) Q E s := by
  unfold Builtin.«BaseException.__str__»
  repeat (first | with_reducible refine xbexcArgs x ?_ | wp_step)
  exact hq
theorem xcallSpecial {m : Str} {tk : Tok} {Q : Option Value → Shared → Prop} (hc : clsIn K C = some cd) (hm : cd.mro = excMro C) (hs : findIn K (.ref C) "__str__" = some (some (.builtin "BaseException.__str__"))) (x : XOne K C s.heap e t0 m tk)
    (hq : Q (some (.str m tk)) s) : wpAny (model prog w) A (callSpecial? (.ref e) "__str__") Q E s := by
  have FX := PySem.F.excStr_Exception
  refine of_gen fun _ kg => ?_
  obtain ⟨Xh, ht, o, vs, ho, hcl, hd, h0⟩ := id x
  refine kg ?_
  have LT : Looks (model prog w) s.heap (typeOf (.ref e)) (.ref C) := hcl ▸ (Looks.ld ho).andThen .now
  have L : Looks (model prog w) s.heap (specialOf (.ref e) "__str__") (some (.builtin "BaseException.__str__")) := LT.andThen (looks_findIn Xh hs)
  have sub : Looks (model prog w) s.heap (isInstance (.ref e) (.type "BaseException")) true := LT.andThen (by have := xsub (M := model prog w) Xh hc hm (.type "BaseException"); exact this)
  unfold callSpecial?
  refine wpAny_bind (L.here ?_)
  simp only [FX.str.bind]
  refine wpAny_holding (wpAny_bind (wpAny_pure (wpAny_bind ?_)))
  refine wpAny_call (codeAny_call_builtin FX.str.plain PySem.F.entry_bexc_str ?_)
  refine @check_slot (model prog w) _ _ s "BaseException.__str__" "BaseException" "__str__" (.ref e) [] [] _ (by decide +kernel) (by decide +kernel) sub (PySem.F.args_bexc_str (.ref e)) ?_
  refine xbexcStr x ?_
  exact wpAny_pure hq
theorem xstrOf {m : Str} {tk : Tok} {Q : Value → Shared → Prop} (hu : A.units < cLine) (hc : clsIn K C = some cd) (hm : cd.mro = excMro C) (hs : findIn K (.ref C) "__str__" = some (some (.builtin "BaseException.__str__"))) (x : XOne K C s.heap e t0 m tk)
    (hq : Q (.str m tk) s) : wpAny (model prog w) A (PySem.Builtin.Str.strOf (.ref e)) Q E s := by
  unfold PySem.Builtin.Str.strOf
  repeat (first | with_reducible refine wpAny_cRoomFor hu ?_ | with_reducible refine xcallSpecial hc hm hs x ?_ | wp_step)
  exact hq
theorem xstr {m : Str} {tk : Tok} {Q : Value → Shared → Prop} (hu : A.units + 2 < cLine) (hc : clsIn K C = some cd) (hm : cd.mro = excMro C) (hs : findIn K (.ref C) "__str__" = some (some (.builtin "BaseException.__str__"))) (x : XOne K C s.heap e t0 m tk)
    (hq : Q (.str m tk) s) : wpAny (model prog w) A (call (.type "str") [.ref e]) Q E s :=
  callType_new F.called_str (by decide) (F.typeCall_str_1 _) (F.newCall_str_1 _) (fun obj => F.args_object_init_2 obj _) F.entry_str_new
    (meets_str_new (S := fun A' R s' => A'.units + 1 < cLine ∧ XOne K C s'.heap e t0 m tk ∧ R (.ok (.ret (.str m tk))) s')
      fun _ _ A' _ _ hq => xstrOf (A := A'.in1) hq.1 hc hm hs hq.2.1 hq.2.2)
    ⟨(show A.units + 1 + 1 < cLine from hu), x, typeIs_str _ _ _, hq⟩
end
section
variable {c : Cx} {lo : Loc} {ob : Obs} {X : QT Addr} {Q : QT V} {PE : Addr} {names : List Str}
theorem str_exc {x T : Addr} {l : List Nat} {d : Option Addr} (ok : c.Ok) (P : PeF c.g PE names) (hs : findIn c.g.K (.ref PE) "__str__" = some (some (.builtin "BaseException.__str__")))
    (h1 : (x, Ob.exc (.ref PE) d (some (.ref T))) ∈ ob) (h2 : (T, .tup [.str l]) ∈ ob) (h : Q (.str l) lo ob) : Cal c (.cv (.type "str")) [.ref x] Q X lo ob := by
  rintro _ _ rfl (_ | ⟨rfl, _ | _⟩) z s n0
  refine of_gen fun _ kg => ?_
  obtain ⟨cd, hc, hm, _⟩ := P.cls
  obtain ⟨m, os, frs, n⟩ := id n0
  obtain ⟨o, _, _, g1, g2, _, a, vs, g3, _, g4, _⟩ := n.mem h1
  obtain ⟨ot, _, _, g5, g6, cs, k, g7, hr⟩ := n.mem h2
  refine kg ?_
  rcases hr with _ | ⟨⟨tk, rfl⟩, _ | _⟩
  obtain rfl : a = .ref T := g4 _ rfl
  refine xstr (by have := ok.un; lia) hc hm hs ⟨ok.g.X.keeps n.F.keep, ⟨ot, k, g5, g6, g7⟩, o, _, g1, g2, g3, by rw [Array.getElem?_append_left (Nat.zero_lt_one)]; rfl⟩ (LQ.mk (rel := VR) (b := V.str l) ⟨tk, rfl⟩ n0 h)
end
end Mine
end
section
open Builtin Builtin.Str
set_option exponentiation.threshold 3000
namespace Mine
noncomputable def decs (n : Int) : List Nat := (PySem.Str.ofString (toString n)).cps.toList
theorem decs_tx (n : Int) : PySem.Str.ofString (toString n) = tx (decs n) := rfl
theorem decs_list (n : Int) : decs n = (toString n).toList.map Char.toNat := by
  unfold decs
  rw [PySem.Str.ofString_eq_toList]
theorem decs_neg (n : Nat) : decs (Int.negSucc n) = 45 :: decs ((n : Int) + 1) := by
  rw [decs_list, decs_list]
  show (("-" ++ toString (n + 1) : String).toList.map Char.toNat) = 45 :: ((toString (n + 1) : String).toList.map Char.toNat)
  rw [String.toList_append, List.map_append]
  rfl
theorem int_textG (c : Percent) (h1 : c.alt = false) (h2 : c.type = 100 ∨ c.type = 105 ∨ c.type = 117) (h3 : c.prec = none) {n : Int} {d : List Nat} (hd : d = (PySem.Str.ofString (toString ((n.natAbs : Nat) : Int))).cps.toList) : percentInt c (decide (n < 0)) d = decs n := by
  cases n with
  | ofNat k => exact (KPc.int_text c h1 h2 h3 (Int.natCast_nonneg k) d).trans hd
  | negSucc k =>
    have hd' : d = decs ((k : Int) + 1) := hd
    rw [hd', decs_neg, decide_eq_true (Int.negSucc_lt_zero k)]
    unfold percentInt
    rcases h2 with h2 | h2 | h2 <;> simp [h1, h2, h3]
theorem decs_size (n : Int) : (decs n).length = (PySem.Str.ofString (toString n)).length := by
  show (PySem.Str.ofString (toString n)).cps.toList.length = (PySem.Str.ofString (toString n)).cps.size
  rw [Array.length_toList]
theorem decs_length {n : Int} (h : n.natAbs < 10 ^ 10) : (decs n).length ≤ 11 := by
  cases n with
  | ofNat k => rw [decs_size]; exact Nat.le_succ_of_le (toString_length_le (Int.natCast_nonneg k) (by decide) (Int.ofNat_lt.mpr h))
  | negSucc k =>
    rw [decs_neg, List.length_cons, decs_size]
    exact Nat.succ_le_succ (toString_length_le (Int.natCast_nonneg (k + 1)) (by decide) (Int.ofNat_lt.mpr h))
theorem decs_log {n : Int} (h : n.natAbs < 10 ^ 10) : n.natAbs.log2 < 1920 := by
  by_cases h0 : n.natAbs = 0
  · rw [h0]; decide
  · refine (Nat.log2_lt h0).mpr (Nat.lt_trans h (by decide))
theorem good_str {w : Writer} {T y : PySem.Str} {N K : Nat} {o : Option Value} (g : KPc.Good w T N) (hy : y.length ≤ K) (ho : KPc.Obj o y) : KPc.Good (w.add ⟨y.cps.toList.toArray⟩ o) (T ++ y) (N + K) :=
  KPc.good_mono (KPc.good_add g ho) (Nat.add_le_add_left hy _)
theorem good_int {w : Writer} {T : PySem.Str} {N : Nat} {o : Option Value} {c : Percent} {n : Int} {d : List Nat} (g : KPc.Good w T N) (hm : n.natAbs < 10 ^ 10) (h1 : c.alt = false) (h2 : c.type = 100 ∨ c.type = 105 ∨ c.type = 117) (h3 : c.prec = none)
    (hd : d = (PySem.Str.ofString (toString ((n.natAbs : Nat) : Int))).cps.toList) (ho : o = none) : KPc.Good (w.add ⟨(percentInt c (decide (n < 0)) d).toArray⟩ o) (T ++ PySem.Str.ofString (toString n)) (N + 11) := by
  rw [int_textG c h1 h2 h3 hd]
  exact good_str (y := PySem.Str.ofString (toString n)) g (decs_size n ▸ decs_length hm) (KPc.obj_none ho)
theorem obj_ite {b : Bool} {x : PySem.Str} {t : Tok} : KPc.Obj (if b = true then some (.str x t) else none) x := by
  cases b
  · exact KPc.obj_none rfl
  · exact KPc.obj_some rfl
noncomputable abbrev PSt := List Value × Writer × List Nat
noncomputable abbrev PFl := Value → PySem.Str → Value → Bool → Option PySem.Str → Bool → Nat → PSt → Sem (ForInStep PSt)
structure PctM (J : Value → PySem.Str → Value → Bool → Option PySem.Str → Bool → Sem Fin) (F : PFl) (G : Value → PySem.Str → Value → Bool → Option PySem.Str → Bool → PSt → Sem Fin) : Prop where
  c1 : ∀ fo fmt args, percentFormat fo fmt args = isInstance args (.type "tuple") >>= fun i => asStr? args >>= fun q => fillsMappingSlot args >>= fun sub => J fo fmt args i q sub
  c2 : ∀ fo fmt args i q sub, i = false → J fo fmt args i q sub = forIn [:fmt.length] ([args], ({} : Writer), fmt.cps.toList) (F fo fmt args i q sub) >>= G fo fmt args i q sub
  c3 : ∀ fo fmt args i q sub, i = true → ∃ H, J fo fmt args i q sub = seqItems? args >>= H ∧ ∀ xs : Array Value, H (some xs) = forIn [:fmt.length] (xs.toList, ({} : Writer), fmt.cps.toList) (F fo fmt args i q sub) >>= G fo fmt args i q sub
  cl : ∀ {prog : Program} {w : World} {A : Around} {E : Value → Shared → Prop} {s : Shared} {R : ForInStep PSt → Shared → Prop} {x : Nat} {p : List Value} {wr : Writer} {r lit rest : List Nat} {T : PySem.Str} {N : Nat} {fo fmt args i q sub}, KPc.Good wr T N → N ≤ 16777216 → r.isEmpty = false → List.span (fun x => x != 37) r = (lit, rest) → lit.isEmpty = false → (lit.length == fmt.length) = false → (∀ wr', KPc.Good wr' (T ++ ⟨lit.toArray⟩) (N + lit.length) → R (.yield (p, wr', rest)) s) → wpAny (model prog w) A (F fo fmt args i q sub x (p, wr, r)) R E s
  cs : ∀ {prog : Program} {w : World} {A : Around} {E : Value → Shared → Prop} {s : Shared} {R : ForInStep PSt → Shared → Prop} {x : Nat} {p : List Value} {wr : Writer} {rest : List Nat} {y : PySem.Str} {u : Tok} {K : Nat} {T : PySem.Str} {N : Nat} {fo fmt args i q sub}, KPc.Good wr T N → N ≤ 16777216 → y.length ≤ K → (∀ wr', KPc.Good wr' (T ++ y) (N + K) → R (.yield (p, wr', rest)) s) → wpAny (model prog w) A (F fo fmt args i q sub x (.str y u :: p, wr, 37 :: 115 :: rest)) R E s
  cd : ∀ {prog : Program} {w : World} {A : Around} {E : Value → Shared → Prop} {s : Shared} {R : ForInStep PSt → Shared → Prop} {x : Nat} {p : List Value} {wr : Writer} {rest : List Nat} {n : Int} {u : Tok} {T : PySem.Str} {N : Nat} {fo fmt args i q sub}, KPc.Good wr T N → N ≤ 16777216 → n.natAbs < 10 ^ 10 → (∀ wr' k, KPc.Good wr' (T ++ PySem.Str.ofString (toString n)) (N + 11) → R (.yield (p, wr', rest)) { s with toks := k }) → wpAny (model prog w) A (F fo fmt args i q sub x (.int n u :: p, wr, 37 :: 100 :: rest)) R E s
  cr : ∀ {prog : Program} {w : World} {A : Around} {E : Value → Shared → Prop} {s : Shared} {R : ForInStep PSt → Shared → Prop} {x : Nat} {p : List Value} {wr : Writer} {rest : List Nat} {y : PySem.Str} {v : Value} {K : Nat} {T : PySem.Str} {N : Nat} {fo fmt args i q sub}, KPc.Good wr T N → N ≤ 16777216 → y.length ≤ K → (∀ {b : Nat} {R : Value → Shared → Prop}, (∀ t k, R (.str y t) { s with toks := k }) → wpAny (model prog w) A (pyReprObjUnder b v) R E s) → (∀ wr' k, KPc.Good wr' (T ++ y) (N + K) → R (.yield (p, wr', rest)) { s with toks := k }) → wpAny (model prog w) A (F fo fmt args i q sub x (v :: p, wr, 37 :: 114 :: rest)) R E s
  ca : ∀ {prog : Program} {w : World} {A : Around} {E : Value → Shared → Prop} {s : Shared} {R : ForInStep PSt → Shared → Prop} {x : Nat} {p : List Value} {wr : Writer} {rest : List Nat} {y : PySem.Str} {v : Value} {K : Nat} {T : PySem.Str} {N : Nat} {fo fmt args i q sub}, KPc.Good wr T N → N ≤ 16777216 → y.length ≤ K → (∀ {R : Value → Shared → Prop}, (∀ t k, R (.str y t) { s with toks := k }) → wpAny (model prog w) A (call (.builtin "ascii") [v]) R E s) → (∀ wr' k, KPc.Good wr' (T ++ y) (N + K) → R (.yield (p, wr', rest)) { s with toks := k }) → wpAny (model prog w) A (F fo fmt args i q sub x (v :: p, wr, 37 :: 97 :: rest)) R E s
  ce : ∀ {prog : Program} {w : World} {A : Around} {E : Value → Shared → Prop} {s : Shared} {R : ForInStep PSt → Shared → Prop} {x : Nat} {p : List Value} {wr : Writer} {T : PySem.Str} {N : Nat} {fo fmt args i q sub}, KPc.Good wr T N → N ≤ 16777216 → R (.done (p, wr, [])) s → wpAny (model prog w) A (F fo fmt args i q sub x (p, wr, [])) R E s
  cg : ∀ {prog : Program} {w : World} {A : Around} {E : Value → Shared → Prop} {s : Shared} {Q : Fin → Shared → Prop} {wr : Writer} {T : PySem.Str} {N : Nat} {fo fmt args i q sub}, KPc.Good wr T N → N ≤ 16777216 → (∀ t k, Q (.done (.ret (.str T t))) { s with toks := k }) → wpAny (model prog w) A (G fo fmt args i q sub ([], wr, [])) Q E s
theorem pct_mach : ∃ J F G, PctM J F G := by
  refine Exists.intro ?pI (Exists.intro ?pF (Exists.intro ?pG (PctM.mk (fun fo fmt args => ?c1) (fun fo fmt args i q sub hi => ?c2) (fun fo fmt args i q sub hi => ?c3) ?c4 ?c5 ?c6 ?c7 ?c8 ?c9 ?c10)))
  case c1 =>
    unfold percentFormat
    exact rfl
  case c2 =>
    refine Eq.trans (if_neg (by rw [hi]; exact nofun)) ?_
    refine Eq.trans (pure_bind _ _) ?_
    exact rfl
  case c3 =>
    refine ⟨_, if_pos hi, fun xs => ?_⟩
    refine Eq.trans (pure_bind _ _) ?_
    exact rfl
  case c4 =>
    intro prog w A E s R x p wr r lit rest T N fo fmt args i q sub g hN hr hs hl hf h
    refine wpAny_ite (KPc.ite_no (KPc.short_good g hN) ?_)
    refine wpAny_ite (KPc.ite_no (by rw [hr]; exact nofun) ?_)
    rw [hs]
    refine wpAny_ite (KPc.ite_yes (by rw [hl]; rfl) ?_)
    exact wpAny_pure (h _ (KPc.good_add g (KPc.obj_none (if_neg (by rw [hf]; exact nofun)))))
  case c5 =>
    intro prog w A E s R x p wr rest y u K T N fo fmt args i q sub g hN hy h
    refine wpAny_ite (KPc.ite_no (KPc.short_good g hN) ?_)
    refine wpAny_bind ?_
    refine wpAny_holding ?_
    refine wpAny_bind (wpAny_of_eq (KPc.strOf_str _ _) ?_)
    refine wpAny_bind (wpAny_of_eq (a := some _) rfl ?_)
    refine wpAny_pure ?_
    refine wpAny_pure ?_
    exact h _ (good_str g hy obj_ite)
  case c6 =>
    intro prog w A E s R x p wr rest n u T N fo fmt args i q sub g hN hn h
    refine wpAny_ite (KPc.ite_no (KPc.short_good g hN) ?_)
    refine wpAny_bind ?_
    refine wpAny_holding ?_
    refine wpAny_bind (wpAny_of_eq (a := _) rfl ?_)
    refine wpAny_bind (wpAny_mkInt ?_)
    refine wpAny_bind (call_gives F.slot_int_repr (typeIs_int _ _ _) F.entry_int_repr (F.args_int_repr_1 _) (gives_int_repr _ _ (KPt.hd2 (decs_log hn))) ⟨int_text_fits (KPt.hd2 (decs_log hn)), ?_⟩)
    refine wpAny_bind (wpAny_of_eq (a := some _) rfl ?_)
    refine wpAny_pure ?_
    refine wpAny_pure ?_
    exact h _ _ (good_int g hn rfl (by kpc_kind) rfl rfl (by kpc_none))
  case c7 =>
    intro prog w A E s R x p wr rest y v K T N fo fmt args i q sub g hN hy hv h
    refine wpAny_ite (KPc.ite_no (KPc.short_good g hN) ?_)
    refine wpAny_bind ?_
    refine wpAny_holding ?_
    refine wpAny_bind ?_
    refine hv fun t k => ?_
    refine wpAny_bind (wpAny_of_eq (a := some _) rfl ?_)
    refine wpAny_pure ?_
    refine wpAny_pure ?_
    exact h _ _ (good_str g hy obj_ite)
  case c8 =>
    intro prog w A E s R x p wr rest y v K T N fo fmt args i q sub g hN hy hv h
    refine wpAny_ite (KPc.ite_no (KPc.short_good g hN) ?_)
    refine wpAny_bind ?_
    refine wpAny_holding ?_
    refine wpAny_bind ?_
    refine hv fun t k => ?_
    refine wpAny_bind (wpAny_of_eq (a := some _) rfl ?_)
    refine wpAny_pure ?_
    refine wpAny_pure ?_
    exact h _ _ (good_str g hy obj_ite)
  case c9 =>
    intro prog w A E s R x p wr T N fo fmt args i q sub g hN h
    refine wpAny_ite (KPc.ite_no (KPc.short_good g hN) ?_)
    repeat kpc_if
    exact wpAny_pure h
  case c10 =>
    intro prog w A E s Q wr T N fo fmt args i q sub g hN h
    repeat kpc_if
    exact KPc.finish_ok g hN rfl h
noncomputable abbrev fmtPos : PySem.Str := ⟨#[37, 115, 32, 97, 116, 32, 112, 111, 115, 105, 116, 105, 111, 110, 32, 37, 100]⟩
noncomputable abbrev fmtLine : PySem.Str := ⟨#[37, 115, 32, 40, 108, 105, 110, 101, 32, 37, 100, 44, 32, 99, 111, 108, 117, 109, 110, 32, 37, 100, 41]⟩
theorem pct_tup {J : Value → PySem.Str → Value → Bool → Option PySem.Str → Bool → Sem Fin} {Fp : PFl} {G : Value → PySem.Str → Value → Bool → Option PySem.Str → Bool → PSt → Sem Fin} {fmt T : PySem.Str} {b : Addr} {its : Array Value} {t : Tok} (m : PctM J Fp G)
    (h : ∀ (prog : Program) (w : World) (A : Around) (s : Shared) (Q : Fin → Shared → Prop) (E : Value → Shared → Prop) sub wr, KPc.Good wr PySem.Str.empty 0 → (∀ t' k, Q (.done (.ret (.str T t'))) { s with toks := k }) →
      wpAny (model prog w) A (forIn (List.range' 0 fmt.length 1) (its.toList, wr, fmt.cps.toList) (Fp (.str fmt t) fmt (.ref b) true none sub)) (fun r s' => wpAny (model prog w) A (G (.str fmt t) fmt (.ref b) true none sub r) Q E s') E s) :
    Meets («str.__mod__» ⟨[.str fmt t, .ref b], []⟩) (fun _ R s => IsTup s.heap b its ∧ ∀ t' k, R (.ok (.ret (.str T t'))) { s with toks := k }) := by
  apply KPt.meets_tup
  intro prog w A s Q E kptH hQ
  refine of_gen fun _ kg => ?_
  obtain ⟨kptO, kptG, kptC, kptN, kptD⟩ := kptH
  refine kg ?_
  rw [KPt.entry_is_r, m.c1]
  refine wpAny_bind (wpAny_isInstance (T := "tuple") ⟨kptO, kptG, kptC⟩ KPt.sub_tt ?_)
  refine wpAny_bind (KPt.asStr_ref kptG kptD ?_)
  refine wpAny_bind (KPt.fills_ref ⟨kptO, kptG, kptC⟩ fun sub => ?_)
  refine of_gen fun _ kg => ?_
  obtain ⟨H, e1, e2⟩ := m.c3 (.str fmt t) fmt (.ref b) true none sub rfl
  refine kg ?_
  rw [e1]
  refine wpAny_bind (wpAny_seqItems kptG kptD ?_)
  rw [e2, KPc.range_list]
  exact wpAny_bind (h prog w A s Q E sub {} KPc.good0 hQ)
theorem pct_pos {m : PySem.Str} {p : Int} {b : Addr} {t u v : Tok} (hm : m.length ≤ 1000000) (h1 : p.natAbs < 10 ^ 10) :
    Meets («str.__mod__» ⟨[.str fmtPos t, .ref b], []⟩) (fun _ R s => IsTup s.heap b #[.str m u, .int p v] ∧ ∀ t' k, R (.ok (.ret (.str (PySem.Str.empty ++ m ++ ⟨#[32, 97, 116, 32, 112, 111, 115, 105, 116, 105, 111, 110, 32]⟩ ++ PySem.Str.ofString (toString p)) t'))) { s with toks := k }) := by
  refine of_gen fun _ kg => ?_
  obtain ⟨J, Fp, G, pm⟩ := pct_mach
  refine kg ?_
  exact pct_tup pm fun prog w A s Q E sub wr g hQ =>
    KPc.turn (pm.cs g (by decide) hm fun _ g => KPc.turn (pm.cl g (by decide) rfl rfl rfl rfl fun _ g => KPc.turn (pm.cd g (by decide) h1 fun _ _ g => KPc.turn (pm.ce g (by decide) (pm.cg g (by decide) hQ)))))
theorem pct_line {m : PySem.Str} {p q : Int} {b : Addr} {t u v v2 : Tok} (hm : m.length ≤ 1000000) (h1 : p.natAbs < 10 ^ 10) (h2 : q.natAbs < 10 ^ 10) :
    Meets («str.__mod__» ⟨[.str fmtLine t, .ref b], []⟩) (fun _ R s => IsTup s.heap b #[.str m u, .int p v, .int q v2] ∧ ∀ t' k, R (.ok (.ret (.str (PySem.Str.empty ++ m ++ ⟨#[32, 40, 108, 105, 110, 101, 32]⟩ ++ PySem.Str.ofString (toString p) ++ ⟨#[44, 32, 99, 111, 108, 117, 109, 110, 32]⟩ ++ PySem.Str.ofString (toString q) ++ ⟨#[41]⟩) t'))) { s with toks := k }) := by
  refine of_gen fun _ kg => ?_
  obtain ⟨J, Fp, G, pm⟩ := pct_mach
  refine kg ?_
  exact pct_tup pm fun prog w A s Q E sub wr g hQ =>
    KPc.turn (pm.cs g (by decide) hm fun _ g => KPc.turn (pm.cl g (by decide) rfl rfl rfl rfl fun _ g => KPc.turn (pm.cd g (by decide) h1 fun _ _ g => KPc.turn (pm.cl g (by decide) rfl rfl rfl rfl fun _ g => KPc.turn (pm.cd g (by decide) h2 fun _ _ g => KPc.turn (pm.cl g (by decide) rfl rfl rfl rfl fun _ g => KPc.turn (pm.ce g (by decide) (pm.cg g (by decide) hQ))))))))
theorem mt_tx (m : List Nat) : PySem.Str.empty ++ tx m = tx m := tx_append [] m
section
variable {c : Cx} {lo : Loc} {ob : Obs} {X : QT Addr} {Q : QT V}
theorem mod_tup {X0 T : PySem.Str} {b : Addr} {its : List Value} {t : Tok} {k : Nat} {prog : Program} {w : World} {A : Around} {E : Value → Shared → Prop} {s : Shared} {Q : Value → Shared → Prop} {o : Obj} (ho : s.heap.get? b = some o) (hc : o.cls = .type "tuple") (hd : o.data = .seq its.toArray k)
    (hm : Meets («str.__mod__» ⟨[.str X0 t, .ref b], []⟩) (fun _ R s => IsTup s.heap b its.toArray ∧ ∀ t' k, R (.ok (.ret (.str T t'))) { s with toks := k }))
    (h : ∀ t' k, Q (.str T t') { s with toks := k }) : wpAny (model prog w) A (binaryOp .Mod (.str X0 t) (.ref b)) Q E s := by
  have ht : IsTup s.heap b its.toArray := ⟨o, ho, hc, k, hd⟩
  exact KPt.bin_left (T := "str") (U := "tuple") (op := .Mod) (by decide) (typeIs_str s X0 t) ⟨o, ho, hc⟩ F.fills_str_mod KPt.fills_tuple F.slot_str_mod
    (call_meets F.slot_str_mod (typeIs_str s X0 t) F.entry_str_mod (F.args_str_mod_2 _ _) hm ⟨ht, fun t' k => ⟨(fun e => nomatch e), h t' k⟩⟩)
noncomputable abbrev fmtPosL : List Nat := [37, 115, 32, 97, 116, 32, 112, 111, 115, 105, 116, 105, 111, 110, 32, 37, 100]
noncomputable abbrev fmtLineL : List Nat := [37, 115, 32, 40, 108, 105, 110, 101, 32, 37, 100, 44, 32, 99, 111, 108, 117, 109, 110, 32, 37, 100, 41]
theorem VRs_head {v : V} {vs : List V} {cs : List Value} (h : VRs (v :: vs) cs) : ∃ c cs', cs = c :: cs' ∧ VR v c ∧ VRs vs cs' := by
  cases h with
  | cons a r => exact ⟨_, _, rfl, a, r⟩
theorem mod_pos {m : List Nat} {p : Int} {a : Addr} (hm : (a, .tup [.str m, .int p]) ∈ ob) (hz : m.length ≤ 1000000) (hp : p.natAbs < 10 ^ 10) (h : Q (.str (m ++ [32, 97, 116, 32, 112, 111, 115, 105, 116, 105, 111, 110, 32] ++ decs p)) lo ob) : Bin c .Mod (.str fmtPosL) (.ref a) Q X lo ob := by
  rintro _ _ ⟨t, rfl⟩ rfl z s n0
  refine of_gen fun _ kg => ?_
  obtain ⟨mm, os, frs, n⟩ := id n0
  obtain ⟨o, _, _, g1, g2, cs, k, g3, hr⟩ := n.mem hm
  obtain ⟨_, _, rfl, ⟨u, rfl⟩, h1⟩ := VRs_head hr
  obtain ⟨_, _, rfl, ⟨v, rfl⟩, h2⟩ := VRs_head h1
  refine kg ?_
  cases h2
  refine mod_tup g1 g2 g3 (pct_pos (m := tx m) ((tx_length m).symm ▸ hz) hp) fun t' k => ?_
  rw [decs_tx, mt_tx]
  exact LQ.mk (rel := VR) (b := V.str _) ⟨t', congrArg (Value.str · t') ((congrArg (· ++ tx (decs p)) (tx_append m _)).trans (tx_append _ _))⟩ (n0.toks rfl) h
theorem mod_line {m : List Nat} {p q : Int} {a : Addr} (hm : (a, .tup [.str m, .int p, .int q]) ∈ ob) (hz : m.length ≤ 1000000) (hp : p.natAbs < 10 ^ 10) (hq : q.natAbs < 10 ^ 10)
    (h : Q (.str (m ++ [32, 40, 108, 105, 110, 101, 32] ++ decs p ++ [44, 32, 99, 111, 108, 117, 109, 110, 32] ++ decs q ++ [41])) lo ob) : Bin c .Mod (.str fmtLineL) (.ref a) Q X lo ob := by
  rintro _ _ ⟨t, rfl⟩ rfl z s n0
  refine of_gen fun _ kg => ?_
  obtain ⟨mm, os, frs, n⟩ := id n0
  obtain ⟨o, _, _, g1, g2, cs, k, g3, hr⟩ := n.mem hm
  obtain ⟨_, _, rfl, ⟨u, rfl⟩, h1⟩ := VRs_head hr
  obtain ⟨_, _, rfl, ⟨v, rfl⟩, h2⟩ := VRs_head h1
  obtain ⟨_, _, rfl, ⟨v2, rfl⟩, h3⟩ := VRs_head h2
  refine kg ?_
  cases h3
  refine mod_tup g1 g2 g3 (pct_line (m := tx m) ((tx_length m).symm ▸ hz) hp hq) fun t' k => ?_
  have e : PySem.Str.empty ++ tx m ++ tx [32, 40, 108, 105, 110, 101, 32] ++ tx (decs p) ++ tx [44, 32, 99, 111, 108, 117, 109, 110, 32] ++ tx (decs q) ++ tx [41] = tx (m ++ [32, 40, 108, 105, 110, 101, 32] ++ decs p ++ [44, 32, 99, 111, 108, 117, 109, 110, 32] ++ decs q ++ [41]) := by
    rw [mt_tx, tx_append, tx_append, tx_append, tx_append, tx_append]
  exact LQ.mk (rel := VR) (b := V.str _) ⟨t', congrArg (Value.str · t') e⟩ (n0.toks rfl) h
end
end Mine
end
section
open Builtin Builtin.Str PySem.StrLaws
namespace Mine
noncomputable def hiN (n : Nat) (p : Int) : Nat := min (max 0 (if p < 0 then p + n else p)).toNat n
theorem hiN_le (n : Nat) (p : Int) : hiN n p ≤ n := Nat.min_le_right _ _
noncomputable def nls (h : List Nat) : Nat := h.count 10
noncomputable def tl (h : List Nat) : Nat := (h.reverse.takeWhile (· != 10)).length
theorem tl_snoc (h : List Nat) (x : Nat) : tl (h ++ [x]) = if x = 10 then 0 else tl h + 1 := by
  unfold tl
  rw [List.reverse_append]
  by_cases e : x = 10
  · subst e; simp
  · have : (x != 10) = true := by simpa using e
    simp [this, e]
theorem tl_le (h : List Nat) : tl h ≤ h.length := by
  unfold tl
  exact Nat.le_trans (List.Sublist.length_le (List.takeWhile_sublist _)) (by simp)
theorem take_snoc {l : List Nat} {i : Nat} {x : Nat} (h : l[i]? = some x) : l.take (i + 1) = l.take i ++ [x] := by
  rw [List.take_add_one, h]; rfl
theorem sub_one (l : List Nat) (c i : Nat) : subAt (tx l) ⟨#[c]⟩ i = decide (l[i]? = some c) := by
  unfold subAt
  show ((tx l).cps.extract i (i + 1) == #[c]) = _
  have e : (tx l).cps.extract i (i + 1) = ((l.drop i).take 1).toArray := by
    apply Array.ext'
    simp only [tx, Array.toList_extract, List.extract_eq_take_drop]
    congr 1
    lia
  rw [e]
  have : (l.drop i).head? = l[i]? := by rw [List.head?_drop]
  cases hd : l.drop i with
  | nil => rw [hd] at this; rw [← this]; rfl
  | cons y r =>
    rw [hd] at this
    rw [← this]
    simp only [List.take_succ_cons, List.take_zero, List.head?_cons, Option.some.injEq]
    rw [Bool.eq_iff_iff]
    simp
theorem occ_list (l : List Nat) (hi lim : Nat) (hle : hi ≤ l.length) (hlim : hi < lim) : ∀ (n lo : Nat) (F : Array Nat) (free : Nat), lo + n = hi + 1 → free ≤ lo → F.size ≤ lo →
    (forIn (List.range' lo n) (F, free) (occBody (tx l) ⟨#[10]⟩ hi lim)).run.fst.toList = F.toList ++ (List.range' lo n).filter (fun i => decide (l[i]? = some 10) && decide (i < hi))
  | 0, lo, F, free, h1, h2, h3 => by simp
  | n + 1, lo, F, free, h1, h2, h3 => by
    rw [List.range'_succ, List.forIn_cons]
    unfold occBody
    have hone : (⟨#[10]⟩ : PySem.Str).length = 1 := rfl
    by_cases hlo : lo < hi ∧ l[lo]? = some 10
    · have hp : ((((F, free) : Array Nat × Nat).fst.size < lim ∧ ((F, free) : Array Nat × Nat).snd ≤ lo) ∧ lo + (⟨#[10]⟩ : PySem.Str).length ≤ hi) ∧ subAt (tx l) ⟨#[10]⟩ lo = true := ⟨⟨⟨Nat.lt_of_le_of_lt h3 (Nat.lt_trans hlo.1 hlim), h2⟩, hlo.1⟩, by rw [sub_one]; simp [hlo.2]⟩
      rw [if_pos hp]
      have ih := occ_list l hi lim hle hlim n (lo + 1) (F.push lo) (lo + 1) (by lia) (Nat.le_refl _) (by rw [Array.size_push]; exact Nat.succ_le_succ h3)
      refine Eq.trans ih ?_
      rw [List.filter_cons, if_pos (by simp [hlo])]
      simp
    · have hp : ¬ (((((F, free) : Array Nat × Nat).fst.size < lim ∧ ((F, free) : Array Nat × Nat).snd ≤ lo) ∧ lo + (⟨#[10]⟩ : PySem.Str).length ≤ hi) ∧ subAt (tx l) ⟨#[10]⟩ lo = true) := fun h => by
        have h2 := h.2
        have h3 : lo + 1 ≤ hi := h.1.2
        rw [sub_one] at h2
        exact hlo ⟨h3, by simpa using h2⟩
      rw [if_neg hp]
      have ih := occ_list l hi lim hle hlim n (lo + 1) F free (by lia) (Nat.le_succ_of_le h2) (Nat.le_succ_of_le h3)
      refine Eq.trans ih ?_
      rw [List.filter_cons, if_neg (by simp; intro a; exact Nat.not_lt.mp fun b => hlo ⟨b, a⟩)]
theorem filt_count (l : List Nat) : ∀ k, k ≤ l.length → ((List.range k).filter (fun i => decide (l[i]? = some 10))).length = nls (l.take k)
  | 0, _ => rfl
  | k + 1, h => by
    have ih := filt_count l k (Nat.le_of_succ_le h)
    have hx : l[k]? = some l[k] := List.getElem?_eq_getElem h
    unfold nls at ih ⊢
    rw [List.range_succ, List.filter_append, take_snoc hx, List.length_append, List.count_append, ih, List.filter_cons, List.filter_nil, List.count_cons, List.count_nil, hx]
    by_cases e : l[k] = 10
    · rw [e]; rfl
    · rw [decide_eq_false (fun q => e (Option.some.inj q)), if_neg nofun, if_neg (by rw [beq_iff_eq]; exact e)]
      rfl
theorem occ_count (l : List Nat) (hi : Nat) (hle : hi ≤ l.length) : (occurrences (tx l) ⟨#[10]⟩ 0 hi (l.length + 1)).length = nls (l.take hi) := by
  rw [occ_eq]
  refine (congrArg List.length (occ_list l hi (l.length + 1) hle (Nat.lt_succ_of_le hle) (hi + 1) 0 #[] 0 (Nat.zero_add _) (Nat.le_refl _) (Nat.le_refl _))).trans ?_
  rw [← List.range_eq_range', List.range_succ, List.filter_append]
  show ([] ++ _ : List Nat).length = _
  rw [List.nil_append, List.filter_cons, decide_eq_false (Nat.lt_irrefl hi), Bool.and_false, if_neg nofun, List.filter_nil, List.append_nil, ← filt_count l hi hle]
  exact congrArg List.length (List.filter_congr fun i hi => by rw [decide_eq_true (List.mem_range.mp hi), Bool.and_true])
noncomputable def lastOf (h : List Nat) : Option Nat := if tl h = h.length then none else some (h.length - 1 - tl h)
theorem lastOf_snoc (h : List Nat) (x : Nat) : lastOf (h ++ [x]) = if x = 10 then some h.length else lastOf h := by
  unfold lastOf
  rw [tl_snoc]
  have := tl_le h
  by_cases e : x = 10
  · rw [if_pos e, if_pos e, if_neg (by simp)]
    simp
  · rw [if_neg e, if_neg e, List.length_append, show [x].length = 1 from rfl]
    by_cases f : tl h = h.length
    · rw [if_pos f, if_pos (congrArg Nat.succ f)]
    · rw [if_neg f, if_neg (fun q : tl h + 1 = h.length + 1 => f (Nat.succ.inj q))]
      exact congrArg some (by lia)
theorem last_run1 (l : List Nat) (hi : Nat) (hle : hi ≤ l.length) : ∀ (n lo : Nat), lo + n = hi + 1 → (forIn (List.range' lo n) (lastOf (l.take (min lo hi))) (lastBody (tx l) ⟨#[10]⟩ hi)).run = lastOf (l.take hi)
  | 0, lo, h => by
    have : min lo hi = hi := Nat.min_eq_right (by lia)
    rw [this]; rfl
  | n + 1, lo, h => by
    rw [List.range'_succ, List.forIn_cons]
    unfold lastBody
    have hone : (⟨#[10]⟩ : PySem.Str).length = 1 := rfl
    by_cases hlo : lo < hi
    · obtain ⟨x, hx⟩ : ∃ x, l[lo]? = some x := ⟨_, List.getElem?_eq_getElem (Nat.lt_of_lt_of_le hlo hle)⟩
      have e1 : min lo hi = lo := Nat.min_eq_left (Nat.le_of_lt hlo)
      have e2 : min (lo + 1) hi = lo + 1 := Nat.min_eq_left hlo
      have ih := last_run1 l hi hle n (lo + 1) (by lia)
      rw [e2, take_snoc hx, lastOf_snoc] at ih
      rw [e1]
      by_cases hc : x = 10
      · have hp : lo + (⟨#[10]⟩ : PySem.Str).length ≤ hi ∧ subAt (tx l) ⟨#[10]⟩ lo = true := ⟨hlo, by rw [sub_one]; simp [hx, hc]⟩
        rw [if_pos hp]
        rw [if_pos hc] at ih
        refine Eq.trans ?_ ih
        have : (l.take lo).length = lo := List.length_take_of_le (Nat.le_of_lt (Nat.lt_of_lt_of_le hlo hle))
        rw [this]
        rfl
      · have hp : ¬ (lo + (⟨#[10]⟩ : PySem.Str).length ≤ hi ∧ subAt (tx l) ⟨#[10]⟩ lo = true) := fun h => by
          have := h.2
          rw [sub_one, hx] at this
          exact hc (by simpa using this)
        rw [if_neg hp]
        rw [if_neg hc] at ih
        exact ih
    · have hp : ¬ (lo + (⟨#[10]⟩ : PySem.Str).length ≤ hi ∧ subAt (tx l) ⟨#[10]⟩ lo = true) := fun h => by
        exact hlo h.1
      rw [if_neg hp]
      have e1 : min lo hi = hi := Nat.min_eq_right (Nat.not_lt.mp hlo)
      have e2 : min (lo + 1) hi = hi := Nat.min_eq_right (Nat.le_succ_of_le (Nat.not_lt.mp hlo))
      have ih := last_run1 l hi hle n (lo + 1) (by lia)
      rw [e2] at ih
      rw [e1]
      exact ih
theorem last_of (l : List Nat) (hi : Nat) (hle : hi ≤ l.length) : lastOccurrence (tx l) ⟨#[10]⟩ 0 hi = lastOf (l.take hi) := by
  rw [last_eq]
  have := last_run1 l hi hle (hi + 1) 0 (by lia)
  rw [Nat.zero_min] at this
  exact this
theorem sub_cast {a b : Nat} (h : b < a) : ((a - 1 - b : Nat) : Int) = (a : Int) - 1 - (b : Int) := by
  rw [Int.ofNat_sub (Nat.le_sub_one_of_lt h), Int.ofNat_sub (Nat.lt_of_le_of_lt (Nat.zero_le b) h)]
  rfl
theorem neg_one (a : Nat) : (-1 : Int) = (a : Int) - 1 - (a : Int) := by lia
theorem lastOf_int (h : List Nat) : (match lastOf h with | some i => (i : Int) | none => -1) = (h.length : Int) - 1 - tl h := by
  unfold lastOf
  have := tl_le h
  by_cases e : tl h = h.length
  · rw [if_pos e, e]; exact neg_one _
  · rw [if_neg e]; exact sub_cast (Nat.lt_of_le_of_ne this e)
theorem ext_one (b : Array UInt8) (i : Nat) : (b.extract i (i + 1) == #[10]) = decide ((b.toList.map (·.toNat))[i]? = some 10) := by
  have e : b.extract i (i + 1) = ((b.toList.drop i).take 1).toArray := by
    apply Array.ext'
    simp only [Array.toList_extract, List.extract_eq_take_drop]
    congr 1
    lia
  rw [e, List.getElem?_map]
  have : (b.toList.drop i).head? = b.toList[i]? := by rw [List.head?_drop]
  rw [← this]
  cases hd : b.toList.drop i with
  | nil => rfl
  | cons y r =>
    simp only [List.take_succ_cons, List.take_zero, List.head?_cons, Option.map_some, Option.some.injEq]
    rw [Bool.eq_iff_iff]
    have : y = 10 ↔ y.toNat = 10 := ⟨fun e => by rw [e]; rfl, fun e => UInt8.toNat_inj.mp e⟩
    simp [this]
theorem bocc_run (b : Array UInt8) (hi : Nat) (hle : hi ≤ b.size) : ∀ n, n ≤ hi → ∃ F f, (((List.range n).map (· + 0)).foldl (fun (acc : List Nat × Nat) (i : Nat) => if (decide (i ≥ acc.2) && b.extract i (i + 1) == #[10]) = true then (i :: acc.1, i + 1) else acc) (([] : List Nat), 0)) = (F, f) ∧ f ≤ n ∧ F.length = nls ((b.toList.map (·.toNat)).take n)
  | 0, _ => ⟨[], 0, rfl, Nat.le_refl _, rfl⟩
  | n + 1, h => by
    refine of_gen fun _ kg => ?_
    obtain ⟨F, f, e, hf, hl⟩ := bocc_run b hi hle n (Nat.le_of_succ_le h)
    refine kg ?_
    rw [List.range_succ, List.map_append, List.foldl_append, e]
    refine of_gen fun _ kg => ?_
    obtain ⟨x, hx⟩ : ∃ x, (b.toList.map (·.toNat))[n]? = some x := ⟨_, List.getElem?_eq_getElem (by rw [List.length_map, Array.length_toList]; exact Nat.lt_of_lt_of_le h hle)⟩
    refine kg ?_
    have hx2 := take_snoc hx
    by_cases hc : x = 10
    · refine ⟨n :: F, n + 1, ?_, Nat.le_refl _, ?_⟩
      · simp only [List.map_cons, List.map_nil, List.foldl_cons, List.foldl_nil, Nat.add_zero]
        rw [if_pos]
        rw [ext_one, hx]
        simp [hc, hf]
      · rw [hx2]
        unfold nls at hl ⊢
        rw [List.count_append, ← hl, hc]
        simp
    · refine ⟨F, f, ?_, by lia, ?_⟩
      · simp only [List.map_cons, List.map_nil, List.foldl_cons, List.foldl_nil, Nat.add_zero]
        rw [if_neg]
        rw [ext_one, hx]
        simp [hc]
      · rw [hx2]
        unfold nls at hl ⊢
        rw [List.count_append, ← hl]
        simp [hc]
theorem bocc_count (b : Array UInt8) (hi : Nat) (hle : hi ≤ b.size) : (Bytes.occurrences b #[10] 0 hi).length = nls ((b.toList.map (·.toNat)).take hi) := by
  refine of_gen fun _ kg => ?_
  obtain ⟨F, f, e, _, hl⟩ := bocc_run b hi hle hi (Nat.le_refl _)
  refine kg ?_
  unfold Bytes.occurrences
  have : hi + 1 - (0 + (#[10] : Array UInt8).size) = hi := rfl
  rw [this]
  dsimp only
  rw [List.length_reverse, ← hl]
  exact congrArg (fun q => (Prod.fst q).length) e
theorem brfind (b : Array UInt8) : ∀ hi, hi ≤ b.size → Bytes.rfind? b #[10] 0 hi = lastOf ((b.toList.map (·.toNat)).take hi)
  | 0, _ => rfl
  | n + 1, h => by
    have ih := brfind b n (Nat.le_of_succ_le h)
    unfold Bytes.rfind? at ih ⊢
    have e1 : n + 1 + 1 - (0 + (#[10] : Array UInt8).size) = n + 1 := rfl
    have e2 : n + 1 - (0 + (#[10] : Array UInt8).size) = n := rfl
    rw [e2] at ih
    rw [e1, List.range_succ, List.map_append, List.reverse_append]
    refine of_gen fun _ kg => ?_
    obtain ⟨x, hx⟩ : ∃ x, (b.toList.map (·.toNat))[n]? = some x := ⟨_, List.getElem?_eq_getElem (by rw [List.length_map, Array.length_toList]; exact h)⟩
    refine kg ?_
    rw [take_snoc hx, lastOf_snoc]
    have e3 : ∀ i, (b.extract i (i + (#[10] : Array UInt8).size) == #[10]) = decide ((b.toList.map (·.toNat))[i]? = some 10) := fun i => ext_one b i
    show List.find? _ (n :: (List.map (· + 0) (List.range n)).reverse) = _
    rw [List.find?_cons, e3, hx]
    by_cases hc : x = 10
    · subst hc
      have : (List.take n (b.toList.map (·.toNat))).length = n := List.length_take_of_le (by rw [List.length_map, Array.length_toList]; exact Nat.le_of_succ_le h)
      simp [this]
    · rw [if_neg hc, ← ih]
      simp [hc]

theorem hiN_eq (n : Nat) (p : Int) : min (fromIndex n p) n = hiN n p := rfl
theorem gives_count4 (l : List Nat) (p : Int) (t u v v2 : Tok) : Gives («str.count» ⟨[.str (tx l) t, .str ⟨#[10]⟩ u, .int 0 v, .int p v2], []⟩) (.int (nls (l.take (hiN l.length p)))) := by
  have e : (tx l).length = l.length := tx_length l
  show Gives (retInt (occurrences (tx l) ⟨#[10]⟩ (fromIndex (tx l).length 0) (min (fromIndex (tx l).length p) (tx l).length) ((tx l).length + 1)).length) _
  rw [e, hiN_eq, show fromIndex l.length 0 = 0 from rfl, occ_count l _ (hiN_le _ _)]
  exact .of_eq rfl
theorem gives_rfind4 (l : List Nat) (p : Int) (t u v v2 : Tok) : Gives («str.rfind» ⟨[.str (tx l) t, .str ⟨#[10]⟩ u, .int 0 v, .int p v2], []⟩) (.int (((l.take (hiN l.length p)).length : Int) - 1 - tl (l.take (hiN l.length p)))) := by
  have e : (tx l).length = l.length := tx_length l
  show Gives (match lastOccurrence (tx l) ⟨#[10]⟩ (fromIndex (tx l).length 0) (min (fromIndex (tx l).length p) (tx l).length) with | some i => retInt i | none => (do rule "str.rfind.not-found"; retInt (-1))) _
  rw [e, hiN_eq, show fromIndex l.length 0 = 0 from rfl, last_of l _ (hiN_le _ _), ← lastOf_int]
  cases lastOf (l.take (hiN l.length p)) with
  | none => exact .rule (.of_eq rfl)
  | some k => exact .of_eq rfl
namespace FX
theorem slot_bytes_count : Slot "bytes" "count" "bytes.count" := .of (owner := "bytes") (n := "count") (by rw [typeLookup_type, builtinLookup_eq_fast]; kernel_rfl) (by decide +kernel) (by decide +kernel) (by decide +kernel)
  (by first | exact .inl (by decide +kernel) | exact .inr (by decide +kernel)) (by rw [isSubtype_type]; kernel_rfl)
theorem slot_bytes_rfind : Slot "bytes" "rfind" "bytes.rfind" := .of (owner := "bytes") (n := "rfind") (by rw [typeLookup_type, builtinLookup_eq_fast]; kernel_rfl) (by decide +kernel) (by decide +kernel) (by decide +kernel)
  (by first | exact .inl (by decide +kernel) | exact .inr (by decide +kernel)) (by rw [isSubtype_type]; kernel_rfl)
theorem type_bytes_count : typeOf (.builtin "bytes.count") = pure (.type "method_descriptor") := by show builtinType _ = _; rw [builtinType_eq_fast]; kernel_rfl
theorem type_bytes_rfind : typeOf (.builtin "bytes.rfind") = pure (.type "method_descriptor") := by show builtinType _ = _; rw [builtinType_eq_fast]; kernel_rfl
theorem entry_bytes_count : entryFor table "bytes.count" = some Builtin.«bytes.count» := entryFor_of_tree (by kernel_rfl)
theorem entry_bytes_rfind : entryFor table "bytes.rfind" = some Builtin.«bytes.rfind» := entryFor_of_tree (by kernel_rfl)
theorem args_bytes_count (a b c d : Value) : argsOk "bytes.count" ⟨[a, b, c, d], []⟩ := by unfold argsOk; kernel_rfl
theorem args_bytes_rfind (a b c d : Value) : argsOk "bytes.rfind" ⟨[a, b, c, d], []⟩ := by unfold argsOk; kernel_rfl
end FX
theorem bound_int (p : Int) (t : Tok) : Bytes.bound? (some (.int p t)) = pure (some p) := rfl
theorem min_toNat (n : Nat) (q : Int) : (Min.min (n : Int) q).toNat = min q.toNat n := by
  rcases Int.le_total (n : Int) q with h | h
  · rw [Int.min_eq_left h, Nat.min_eq_right (by lia)]; rfl
  · rw [Int.min_eq_right h, Nat.min_eq_left (by lia)]
theorem hi_min (n : Nat) (p : Int) : (Min.min (n : Int) (if p < 0 then Max.max 0 (p + (n : Int)) else p)).toNat = hiN n p := by
  unfold hiN
  rw [min_toNat]
  by_cases h : p < 0
  · rw [if_pos h, if_pos h]
  · rw [if_neg h, if_neg h, Int.max_eq_right (Int.not_lt.mp h)]
theorem lt_one (q : Int) : (q - 0 < ((1 : Nat) : Int)) = (q.toNat < 1) := propext (by lia)
theorem bsearch {M : Model} {A : Around} {E : Value → Shared → Prop} {s : Shared} {name : String} {b : Array UInt8} {p : Int} {t u v v2 : Tok} {Q : Array UInt8 × Array UInt8 × Option (Nat × Nat) → Shared → Prop}
    (h : Q (b, #[10], if hiN b.size p < 1 then none else some (0, hiN b.size p)) s) : wpAny M A (Bytes.searchArgs .bytes name ⟨[.bytes b t, .bytes #[10] u, .int 0 v, .int p v2], []⟩) Q E s := by
  unfold Bytes.searchArgs
  refine wpAny_bind (wpAny_of_eq (a := (Value.bytes b t, [Value.bytes #[10] u, .int 0 v, .int p v2])) rfl ?_)
  refine wpAny_bind (wpAny_of_eq (bound_int 0 v) ?_)
  refine wpAny_bind (wpAny_of_eq (bound_int p v2) ?_)
  refine wpAny_bind (wpAny_of_eq KBy.buffer_eq (wpAny_pure ?_))
  refine cast (congrArg (fun q => Q q s) ?_) h
  have e1 : (#[10] : Array UInt8).size = 1 := rfl
  rw [e1]
  dsimp only [Option.getD_some]
  have e2 := hi_min b.size p
  have e3 : (if (0:Int) < 0 then Max.max 0 ((0:Int) + (b.size : Int)) else 0) = 0 := rfl
  have e4 : (Min.min (b.size : Int) (if p < 0 then Max.max 0 (p + (b.size : Int)) else p) - 0 < ((1:Nat) : Int)) = (hiN b.size p < 1) := by
    rw [← e2]
    exact lt_one _
  simp only [e3, e2, e4]
  rfl
theorem gives_bcount {b : Array UInt8} (p : Int) (t u v v2 : Tok) : Gives («bytes.count» ⟨[.bytes b t, .bytes #[10] u, .int 0 v, .int p v2], []⟩) (.int (nls ((b.toList.map (·.toNat)).take (hiN b.size p)))) := by
  refine .of_wp fun M A E s Q hq => ?_
  show wpAny M A (Bytes.countM .bytes _) _ E s
  unfold Bytes.countM
  refine wpAny_bind (bsearch ?_)
  by_cases h : hiN b.size p < 1
  · rw [if_pos h]
    have : hiN b.size p = 0 := by lia
    rw [this] at hq
    exact wpAny_bind (wpAny_mkInt (wpAny_pure ⟨_, rfl, hq⟩))
  · rw [if_neg h]
    dsimp only
    rw [if_neg (by simp), bocc_count b _ (hiN_le _ _)]
    exact wpAny_bind (wpAny_mkInt (wpAny_pure ⟨_, rfl, hq⟩))
theorem gives_brfind {b : Array UInt8} (p : Int) (t u v v2 : Tok) : Gives («bytes.rfind» ⟨[.bytes b t, .bytes #[10] u, .int 0 v, .int p v2], []⟩) (.int ((((b.toList.map (·.toNat)).take (hiN b.size p)).length : Int) - 1 - tl ((b.toList.map (·.toNat)).take (hiN b.size p)))) := by
  refine .of_wp fun M A E s Q hq => ?_
  show wpAny M A (Bytes.searchM .bytes "rfind" true false _) _ E s
  rw [← lastOf_int] at hq
  unfold Bytes.searchM
  refine wpAny_bind (bsearch ?_)
  have e : (if hiN b.size p < 1 then none else some (0, hiN b.size p)).bind (fun (x : Nat × Nat) => if true = true then Bytes.rfind? b #[10] x.1 x.2 else Bytes.find? b #[10] x.1 x.2) = lastOf ((b.toList.map (·.toNat)).take (hiN b.size p)) := by
    by_cases h : hiN b.size p < 1
    · have : hiN b.size p = 0 := by lia
      rw [if_pos h, this]; rfl
    · rw [if_neg h]
      exact brfind b _ (hiN_le _ _)
  dsimp only
  erw [e]
  cases hl : lastOf ((b.toList.map (·.toNat)).take (hiN b.size p)) with
  | none =>
    rw [hl] at hq
    exact wpAny_bind (wpAny_rule (wpAny_bind (wpAny_mkInt (wpAny_pure ⟨_, rfl, hq⟩))))
  | some k =>
    rw [hl] at hq
    exact wpAny_bind (wpAny_mkInt (wpAny_pure ⟨_, rfl, hq⟩))
end Mine
end
section
open Builtin
namespace Mine
noncomputable def HdOk (A : Around) (h : Heap) : Prop := A.handled = none ∨ ∃ hd oh vs, A.handled = some (.ref hd) ∧ h.get? hd = some oh ∧ oh.data = .fields vs ∧ vs[2]? = some .none
section
variable {α : Type} {A : Around} {E : Value → Shared → Prop} {s : Shared} {w : World} {prog : Program}
theorem raiseNew_h {Q : α → Shared → Prop} {e : Addr} {oe : Obj} {ve : Array Value} (hh : HdOk A s.heap) (hne : A.handled ≠ some (.ref e)) (he : s.heap.get? e = some oe) (hd : oe.data = .fields ve) (hs : 2 < ve.size)
    (h : ∀ h', (∀ b, b ≠ e → h'.get? b = s.heap.get? b) → E (.ref e) { s with heap := h' }) : wpAny (model prog w) A (raiseNew (.ref e) : Sem α) Q E s := by
  unfold raiseNew
  refine wpAny_bind (wpAny_handled ?_)
  rcases hh with hh | ⟨hd', oh, vs, hh, ho, hdat, h2⟩
  · rw [hh]
    refine wpAny_bind (wpAny_pure (wpAny_throw ?_))
    exact h s.heap fun _ _ => rfl
  · rw [hh]
    have hne' : hd' ≠ e := fun q => hne (by rw [hh, q])
    dsimp only
    rw [if_pos (by simpa using hne')]
    refine wpAny_bind (wpAny_holding (unchain_plain ho hdat h2 ?_))
    refine wpAny_bind (?_ : wpAny _ _ (updateField e 2 (.ref hd')) _ _ _)
    refine wpAny_setField he hd hs ?_
    refine wpAny_throw ?_
    exact h _ fun b hb => Heap.get?_update_other _ _ (Ne.symm hb)
theorem raiseMade_h {Q : α → Shared → Prop} {cls msg : String} (hp : PlainExc cls) (hh : HdOk A s.heap) (hm : (msg : PySem.Str).length ≤ sizeLine)
    (h : ∀ e h' tk, (∀ b o, s.heap.get? b = some o → h'.get? b = some o) → E e { s with heap := h', toks := tk }) : wpAny (model prog w) A (raiseErrorMade cls msg : Sem α) Q E s := by
  unfold raiseErrorMade
  refine wpAny_bind (wpAny_mkStr (wpAny_bind ?_) hm)
  unfold newExc newTuple
  refine wpAny_bind (wpAny_newObj_type ?_)
  refine wpAny_bind (m := firstArgMember _ _) (wpAny_of_eq (a := Value.none) (by simp only [firstArgMember, hp.first]; rfl) ?_)
  rw [hp.own]
  refine wpAny_newObj_type ?_
  refine raiseNew_h ?_ ?_ (Heap.get?_push_size _ rfl) rfl (by simp) ?_
  · rcases hh with hh | ⟨hd', oh, vs, hh, ho, hdat, h2⟩
    · exact .inl hh
    · exact .inr ⟨hd', oh, vs, hh, Heap.get?_push_of_some _ (Heap.get?_push_of_some _ ho), hdat, h2⟩
  · intro q
    rcases hh with hh | ⟨hd', oh, vs, hh, ho, hdat, h2⟩
    · rw [hh] at q; cases q
    · rw [hh] at q
      injection q with q
      injection q with q
      have := Heap.lt_size ho
      rw [q, Heap.size_push] at this
      exact absurd (show s.heap.objs.size + 1 < s.heap.objs.size from this) (by lia)
  · intro h' k
    refine h _ h' _ fun b o hb => ?_
    rw [k b fun q => ?_]
    · exact Heap.get?_push_of_some _ (Heap.get?_push_of_some _ hb)
    · have := Heap.lt_size hb
      rw [q, Heap.size_push] at this
      exact absurd (show s.heap.objs.size + 1 < s.heap.objs.size from this) (by lia)
end
theorem look_bindex : typeLookup (.type "bytes") "__index__" = pure none := by rw [typeLookup_type, builtinLookup_eq_fast]; kernel_rfl
theorem bytes_name (b : Array UInt8) (t : Tok) : typeNameOfCut 200 (.bytes b t) = pure "bytes" := by kernel_rfl
theorem asIndex_bytes {w : World} {prog : Program} {A : Around} {E : Value → Shared → Prop} {s : Shared} {Q : Int → Shared → Prop} (b : Array UInt8) (t : Tok) (hh : HdOk A s.heap)
    (h : ∀ e h' tk, (∀ b o, s.heap.get? b = some o → h'.get? b = some o) → E e { s with heap := h', toks := tk }) : wpAny (model prog w) A (asIndex (.bytes b t)) Q E s := by
  unfold asIndex
  refine wpAny_bind (wpAny_of_eq (a := none) (by rfl) ?_)
  refine wpAny_bind ?_
  refine wpAny_callSpecial?_none (typeIs_bytes s b t) look_bindex ?_
  dsimp only
  refine wpAny_bind (wpAny_of_eq (bytes_name b t) ?_)
  exact raiseMade_h plainExc_TypeError hh (by size_fits) h
theorem bfind (b : Array UInt8) : (Bytes.find? b #[10] 0 b.size).isSome = decide (10 ∈ b.toList.map (·.toNat)) := by
  unfold Bytes.find?
  have e1 : b.size + 1 - (0 + (#[10] : Array UInt8).size) = b.size := by show b.size + 1 - (0 + 1) = b.size; lia
  rw [e1, Bool.eq_iff_iff, List.find?_isSome]
  have e3 : ∀ i, (b.extract i (i + (#[10] : Array UInt8).size) == #[10]) = decide ((b.toList.map (·.toNat))[i]? = some 10) := fun i => ext_one b i
  constructor
  · rintro h
    simp only [e3, decide_eq_true_eq] at h ⊢
    obtain ⟨i, _, h⟩ := h
    exact List.mem_of_getElem? h
  · intro h
    rw [decide_eq_true_eq] at h
    obtain ⟨i, hi⟩ := List.mem_iff_getElem?.mp h
    refine ⟨i, ?_, by rw [e3, hi]; rfl⟩
    have := (List.getElem?_eq_some_iff.mp hi).1
    simp at this ⊢
    exact this
theorem containsIn_nl {w : World} {prog : Program} {A : Around} {E : Value → Shared → Prop} {s : Shared} {Q : Bool → Shared → Prop} {id : String} (b : Array UInt8) (t u : Tok) (hh : HdOk A s.heap)
    (h : ∀ h' tk, (∀ b o, s.heap.get? b = some o → h'.get? b = some o) → Q (decide (10 ∈ b.toList.map (·.toNat))) { s with heap := h', toks := tk }) : wpAny (model prog w) A (Bytes.containsIn id (.bytes b t) (.bytes #[10] u)) Q E s := by
  unfold Bytes.containsIn
  refine wpAny_bind (wpAny_attempt (asIndex_bytes _ _ hh fun e h' tk k => ?_))
  refine wpAny_bind (wpAny_of_eq KBy.buffer_eq ?_)
  dsimp only
  refine wpAny_bind (wpAny_of_eq KBy.buffer_eq ?_)
  dsimp only
  refine wpAny_bind (wpAny_rule (wpAny_pure ?_))
  rw [bfind]
  exact h h' tk k
end Mine
end
section
open Builtin
namespace Mine
noncomputable def HdV (ob : Obs) (o : Option Value) : Prop := o = none ∨ ∃ hd cls a1, o = some (.ref hd) ∧ (hd, Ob.exc cls none a1) ∈ ob
theorem HdV.cons {ob : Obs} {o : Option Value} {p : Addr × Ob} (h : HdV ob o) : HdV (p :: ob) o := by
  rcases h with h | ⟨hd, cls, a1, h, hm⟩
  · exact .inl h
  · exact .inr ⟨hd, cls, a1, h, .tail _ hm⟩
section
variable {c : Cx} {lo : Loc} {ob : Obs} {X : QT Addr} {Q : QT V}
theorem HdV.ok {z : List (Addr × Obj)} {s : Shared} (h : HdV ob c.B.handled) (n0 : Now c z lo ob s) {A : Around} (e : A.handled = c.B.handled) : HdOk A s.heap := by
  rcases h with h | ⟨hd, cls, a1, h, hm⟩
  · exact .inl (e.trans h)
  · obtain ⟨m, os, frs, n⟩ := n0
    refine of_gen fun _ kg => ?_
    obtain ⟨oh, _, _, hoh, hch, _, ah, vh, hdh, hsz, _, hnone⟩ := n.mem hm
    refine kg ?_
    refine .inr ⟨hd, oh, _, e.trans h, hoh, hdh, ?_⟩
    rw [Array.getElem?_append_right (by simp)]; simpa using hnone rfl
theorem getm_bytes {l : List Nat} {name : Str} {id : String} {Q : V → List V → Loc → Obs → Prop} (slot : Slot "bytes" name id) (ht : typeOf (.builtin id) = pure (.type "method_descriptor")) (h : Q (.cv (.builtin id)) [.bytes l] lo ob) : GetM c (.bytes l) name Q X lo ob := by
  rintro _ pl
  intro hgr40_0
  refine of_gen fun _ kg => ?_
  obtain ⟨b, t, rfl, hb⟩ := hgr40_0
  refine kg ?_
  rintro z s n
  exact getMethod_builtin (typeIs_bytes s b t) PySem.W.FB.plainAttrs_bytes slot ht (fun a e => by cases e) ⟨(.cv (.builtin id), [.bytes l]), lo, ob, ⟨rfl, .one ⟨_, _, rfl, hb⟩⟩, n, h⟩
theorem VRs4 {v w x y : V} {cs : List Value} (h : VRs [v, w, x, y] cs) : ∃ c d e f, cs = [c, d, e, f] ∧ VR v c ∧ VR w d ∧ VR x e ∧ VR y f := by
  cases h with
  | cons a r => cases r with
    | cons b r => cases r with
      | cons d r => cases r with
        | cons f r => cases r; exact ⟨_, _, _, _, rfl, a, b, d, f⟩
theorem count4_str {l : List Nat} {p : Int} (h : Q (.int (nls (l.take (hiN l.length p)))) lo ob) : Cal c (.cv (.builtin "str.count")) [.str l, .str [10], .int 0, .int p] Q X lo ob := by
  rintro _ cs rfl hv z s n
  refine of_gen fun _ kg => ?_
  obtain ⟨_, _, _, _, rfl, ⟨t, rfl⟩, ⟨u, rfl⟩, ⟨v, rfl⟩, ⟨v2, rfl⟩⟩ := VRs4 hv
  refine kg ?_
  exact call_gives F.slot_str_count (typeIs_str _ _ _) F.entry_str_count (F.args_str_count_4 _ _ _ _) (gives_count4 l p t u v v2) (LQ.int (n.toks rfl) h)
theorem rfind4_str {l : List Nat} {p : Int} (h : Q (.int (((l.take (hiN l.length p)).length : Int) - 1 - tl (l.take (hiN l.length p)))) lo ob) : Cal c (.cv (.builtin "str.rfind")) [.str l, .str [10], .int 0, .int p] Q X lo ob := by
  rintro _ cs rfl hv z s n
  refine of_gen fun _ kg => ?_
  obtain ⟨_, _, _, _, rfl, ⟨t, rfl⟩, ⟨u, rfl⟩, ⟨v, rfl⟩, ⟨v2, rfl⟩⟩ := VRs4 hv
  refine kg ?_
  exact call_gives F.slot_str_rfind (typeIs_str _ _ _) F.entry_str_rfind (F.args_str_rfind_4 _ _ _ _) (gives_rfind4 l p t u v v2) (LQ.int (n.toks rfl) h)
theorem b10 {b : Array UInt8} (h : b.toList.map (·.toNat) = [10]) : b = #[10] := by
  apply Array.ext'
  have h2 : b.toList = [10] := by
    generalize b.toList = x at h
    cases x with
    | nil => simp at h
    | cons y r =>
      cases r with
      | nil =>
        simp at h
        have : y = 10 := UInt8.toNat_inj.mp h
        rw [this]
      | cons z r => simp at h
  rw [h2]
theorem count4_bytes {l : List Nat} {p : Int} (h : Q (.int (nls (l.take (hiN l.length p)))) lo ob) : Cal c (.cv (.builtin "bytes.count")) [.bytes l, .bytes [10], .int 0, .int p] Q X lo ob := by
  rintro _ cs rfl hv z s n
  refine of_gen fun _ kg => ?_
  obtain ⟨_, _, _, _, rfl, ⟨b, t, rfl, rfl⟩, ⟨b2, u, rfl, hb2⟩, ⟨v, rfl⟩, ⟨v2, rfl⟩⟩ := VRs4 hv
  refine kg ?_
  cases b10 hb2
  refine call_gives FX.slot_bytes_count (typeIs_bytes _ _ _) FX.entry_bytes_count (FX.args_bytes_count _ _ _ _) (gives_bcount p t u v v2) (LQ.int (n.toks rfl) ?_)
  rw [List.length_map] at h; exact h
theorem rfind4_bytes {l : List Nat} {p : Int} (h : Q (.int (((l.take (hiN l.length p)).length : Int) - 1 - tl (l.take (hiN l.length p)))) lo ob) : Cal c (.cv (.builtin "bytes.rfind")) [.bytes l, .bytes [10], .int 0, .int p] Q X lo ob := by
  rintro _ cs rfl hv z s n
  refine of_gen fun _ kg => ?_
  obtain ⟨_, _, _, _, rfl, ⟨b, t, rfl, rfl⟩, ⟨b2, u, rfl, hb2⟩, ⟨v, rfl⟩, ⟨v2, rfl⟩⟩ := VRs4 hv
  refine kg ?_
  cases b10 hb2
  refine call_gives FX.slot_bytes_rfind (typeIs_bytes _ _ _) FX.entry_bytes_rfind (FX.args_bytes_rfind _ _ _ _) (gives_brfind p t u v v2) (LQ.int (n.toks rfl) ?_)
  have e : (b.toList.map (·.toNat)).length = b.size := by simp
  rw [e] at h; exact h
theorem in_one {l : List Nat} {k : Nat} (h : Q (.bool (decide (k ∈ l))) lo ob) : Cmp c .In (.str [k]) (.str l) Q X lo ob := by
  rintro _ _ ⟨t, rfl⟩ ⟨u, rfl⟩ z s n
  refine P.in_str (LQ.bool' ?_ n h)
  exact StrLaws.found_one (tx l) k
theorem Now.more {z : List (Addr × Obj)} {s : Shared} (n0 : Now c z lo ob s) {h' : Heap} {tk : Nat} (k : ∀ b o, s.heap.get? b = some o → h'.get? b = some o) : Now c z lo ob { s with heap := h', toks := tk } := by
  obtain ⟨m, os, frs, n⟩ := n0
  exact ⟨m, os, frs, n.go (n.F.keeps k) fun p hp => ⟨k _ _ (n.N p hp).1, (n.N p hp).2⟩⟩
theorem in_nlb {l : List Nat} (hd : HdV ob c.B.handled) (h : Q (.bool (decide (10 ∈ l))) lo ob) : Cmp c .In (.bytes [10]) (.bytes l) Q X lo ob := by
  rintro _ _ ⟨b2, u, rfl, hb2⟩ ⟨b, t, rfl, rfl⟩ z s n
  cases b10 hb2
  show wpAny _ _ (do return Value.bool (← contains (.bytes b t) (.bytes #[10] u))) _ _ s
  refine wpAny_bind (wpAny_contains_slot (typeIs_bytes s b t) FB.slot_bytes_contains ?_)
  refine wpAny_call (codeAny_call_builtin FB.slot_bytes_contains.plain FB.entry_bytes_contains (FB.slot_bytes_contains.check _ _ _ _ _ _ _ _ (typeIs_bytes s b t) (FB.args_bytes_contains_2 _ _) ?_))
  show wpAny _ _ (Bytes.containsIn "bytes.__contains__" (.bytes b t) (.bytes #[10] u) >>= fun r => ret (.bool r)) _ _ s
  refine wpAny_bind (containsIn_nl b t u (hd.ok n rfl) fun h' tk k => ?_)
  refine wpAny_pure ?_
  show wpAny _ _ (truthy (.bool _)) _ _ _
  exact wpAny_truthy_bool (wpAny_pure (LQ.bool (n.more k) h))
theorem str_int {p : Int} (hp : p.natAbs < 10 ^ 10) (h : Q (.str (decs p)) lo ob) : Cal c (.cv (.type "str")) [.int p] Q X lo ob := by
  rintro _ cs rfl hv z s n
  refine of_gen fun _ kg => ?_
  obtain ⟨_, rfl, t, rfl⟩ := VRs1 hv
  refine kg ?_
  refine P.str_of_int (decs_log hp) ?_
  have := LQ.str (Q := Q) (t := s.toks) (n.toks (s' := { s with toks := s.toks + 1 }) rfl) h
  exact this
end
end Mine
end
section
namespace Mine
theorem nsOk_of {K : Frag} {N : Addr} {oc : Value} {od : Option Addr} {es : Array DictEntry} {n : Nat} {osl : Array (Option Value)} (h : K.lookup N = some ⟨oc, od, .dict es n, osl⟩) (e : (es.toList.all fun e => match e.key with | .str _ _ => true | _ => false) = true) : nsOkIn K N = true := by
  unfold nsOkIn
  rw [h]
  rw [Array.all_toList] at e
  exact e
noncomputable def FrgX (P : Addr → Obs → Prop) (a : Addr) (ob : Obs) : Prop := ∃ ob2 d, Picks ob ob2 d ∧ (∃ cls dd arg, (a, Ob.exc cls dd arg) ∈ ob2) ∧ P a ob2
theorem Exc.forget {c : Cx} {z : List (Addr × Obj)} {a : Addr} {lo : Loc} {ob ob2 d : Obs} {s : Shared} (x : Exc c z a lo ob s) (p : Picks ob ob2 d) (hm : ∃ cls dd arg, (a, Ob.exc cls dd arg) ∈ ob2) : Exc c z a lo ob2 s := by
  obtain ⟨_, m, os, frs, n, t⟩ := x
  obtain ⟨os1, n1, hp⟩ := n.perm p.perm
  obtain ⟨o1, o2, ho, rfl, n2⟩ := n1.out
  exact ⟨hm, m, o1, frs, n2.less, t.sub fun x hx => by
    simp only [List.map_append, List.mem_append] at hx ⊢
    have := (hp.map (·.1)).mem_iff (a := x)
    simp only [List.map_append, List.mem_append] at this
    rcases hx with h | h
    · exact .inl (this.mpr (.inl h))
    · exact .inr h⟩
section
variable {c : Cx} {lo : Loc} {ob ob' : Obs} {X : QT Addr} {Q : QT V}
theorem FnH.forget {g : G} {f : Addr} {args : List V} {d : Nat} {H : Option Value → Prop} {Q : V → Obs → Prop} {X : Addr → Obs → Prop} (F : FnH g f args d H (fun v ob => Frg (Q v) ob) (FrgX X) ob) : FnH g f args d H Q X ob := by
  intro c A ok hg hf hd hu hh cas hv z lo s n
  refine codeAny_mono (F c A ok hg hf hd hu hh cas hv z lo s n) fun r s' hr => ?_
  match r with
  | .ok (.ret v) => obtain ⟨u, ob, hu, n, ob2, d, p, hq⟩ := hr; exact ⟨u, ob2, hu, n.forget p, hq⟩
  | .ok .next => exact hr.elim
  | .ok .brk => exact hr.elim
  | .ok .cont => exact hr.elim
  | .error e => obtain ⟨a, ob, rfl, x, ob2, d, p, hm, hq⟩ := hr; exact ⟨a, ob2, rfl, x.forget p hm, hq⟩
theorem isnot_int_none' {i : Int} (h : Q (.bool true) lo ob) : Cmp c .IsNot (.int i) .none Q X lo ob := by rintro _ _ ⟨t, rfl⟩ rfl z s n; exact isnot_int_none (LQ.bool n h)
theorem isnot_bytes_none' {l : List Nat} (h : Q (.bool true) lo ob) : Cmp c .IsNot (.bytes l) .none Q X lo ob := by rintro _ _ ⟨b, t, rfl, _⟩ rfl z s n; exact isnot_bytes_none (LQ.bool n h)
theorem W_b10 {k : Nat} {p : Pos} (h : Q (.bytes [10]) lo ob) : W c VR (eval (.Constant (.bytes [10]) k p) c.env) Q X lo ob := W_bytes (x := [10]) h
end
noncomputable def lnN (l : List Nat) (p : Int) : Int := (nls (l.take (hiN l.length p)) : Int) + 1
noncomputable def coN (l : List Nat) (p : Int) : Int := p - (((l.take (hiN l.length p)).length : Int) - 1 - tl (l.take (hiN l.length p)))
noncomputable def posW (m : List Nat) (p : Int) : List Nat := m ++ [32, 97, 116, 32, 112, 111, 115, 105, 116, 105, 111, 110, 32] ++ decs p
noncomputable def lineW (m : List Nat) (p q : Int) : List Nat := m ++ [32, 40, 108, 105, 110, 101, 32] ++ decs p ++ [44, 32, 99, 111, 108, 117, 109, 110, 32] ++ decs q ++ [41]
noncomputable def wordsN (m l : List Nat) (p : Int) : List Nat := if 10 ∈ l then lineW (posW m p) (lnN l p) (coN l p) else posW m p
theorem words_yes {m l : List Nat} {p : Int} (h : 10 ∈ l) : wordsN m l p = lineW (posW m p) (lnN l p) (coN l p) := if_pos h
theorem words_no {m l : List Nat} {p : Int} (h : ¬ 10 ∈ l) : wordsN m l p = posW m p := if_neg h
noncomputable abbrev peD (m l : List Nat) (p : Int) (st : V) : List (Str × V) := [(Str.ofString "msg", .str m), (Str.ofString "pattern", st), (Str.ofString "pos", .int p), (Str.ofString "lineno", .int (lnN l p)), (Str.ofString "colno", .int (coN l p))]
theorem nls_le (h : List Nat) : nls h ≤ h.length := List.count_le_length
theorem lnN_abs {l : List Nat} {p : Int} (hl : l.length ≤ 100000) : (lnN l p).natAbs < 10 ^ 10 := by
  have h1 := nls_le (l.take (hiN l.length p))
  have h2 : (l.take (hiN l.length p)).length ≤ l.length := by rw [List.length_take]; exact Nat.min_le_right _ _
  unfold lnN
  lia
theorem co_small {p : Int} {a b : Nat} (h1 : a ≤ 100000) (h2 : b ≤ 100000) (hp : p.natAbs < 10 ^ 9) : (p - ((a : Int) - 1 - (b : Int))).natAbs < 10 ^ 10 :=
  Nat.lt_of_le_of_lt (Nat.le_trans (Int.natAbs_sub_le _ _) (Nat.add_le_add (Nat.le_of_lt hp) (Nat.le_trans (Int.natAbs_sub_le _ _) (Nat.add_le_add (Nat.le_trans (Int.natAbs_sub_le _ _) (Nat.add_le_add (show (a : Int).natAbs ≤ 100000 from h1) (Nat.le_refl 1))) (show (b : Int).natAbs ≤ 100000 from h2))))) (by decide)
theorem coN_abs {l : List Nat} {p : Int} (hl : l.length ≤ 100000) (hp : p.natAbs < 10 ^ 9) : (coN l p).natAbs < 10 ^ 10 := by
  have h1 := tl_le (l.take (hiN l.length p))
  have h2 : (l.take (hiN l.length p)).length ≤ l.length := by rw [List.length_take]; exact Nat.min_le_right _ _
  exact co_small (Nat.le_trans h2 hl) (Nat.le_trans h1 (Nat.le_trans h2 hl)) hp
theorem posW_len {m : List Nat} {p : Int} (hp : p.natAbs < 10 ^ 10) : (posW m p).length ≤ m.length + 30 := by
  have := decs_length hp
  unfold posW
  simp only [List.length_append, List.length_cons, List.length_nil]
  lia
theorem lineW_len {m : List Nat} {p q : Int} (hp : p.natAbs < 10 ^ 10) (hq : q.natAbs < 10 ^ 10) : (lineW m p q).length ≤ m.length + 40 := by
  have := decs_length hp
  have := decs_length hq
  unfold lineW
  simp only [List.length_append, List.length_cons, List.length_nil]
  lia
noncomputable abbrev peNames : List Str := [Str.ofString "msg", Str.ofString "pattern", Str.ofString "pos", Str.ofString "lineno", Str.ofString "colno"]
structure PxF (g : G) (PE fI : Addr) : Prop where
  P : PeF g PE peNames
  Y : TyF g PE
  E : ExF g PE fI
  st : findIn g.K (.ref PE) "__str__" = some (some (.builtin "BaseException.__str__"))
noncomputable def PeI (g : G) (fI PE : Addr) (m l : List Nat) (st : V) (p : Int) : Prop := ∀ (x T : Addr) (ob : Obs), FnH g fI [.ref x, .str m, st, .int p] 1 (HdV ob)
  (fun v ob' => v = .none ∧ ∃ dd T2, ob' = (x, .xnew (.ref PE) (some dd) (.ref T2)) :: (dd, .dct (peD m l p st)) :: (T2, .tup [.str (wordsN m l p)]) :: ob) (fun _ _ => False) ((x, .xnew (.ref PE) none (.ref T)) :: (T, .tup [.str m, st, .int p]) :: ob)
section
variable {c : Cx} {lo : Loc} {ob ob' : Obs} {X : QT Addr} {Q : QT V}
theorem cal_pe {PE fI : Addr} {m l : List Nat} {st : V} {p : Int} (ok : c.Ok) (P : PxF c.g PE fI) (I : PeI c.g fI PE m l st p) (hd : 2 ≤ c.d) (hh : HdV ob c.B.handled)
    (h : ∀ x dd T, Q (.ref x) lo ((x, .xnew (.ref PE) (some dd) (.ref T)) :: (dd, .dct (peD m l p st)) :: (T, .tup [.str (wordsN m l p)]) :: ob)) : Cal c (.ref PE) [.str m, st, .int p] Q X lo ob :=
  cal_exc ok P.E hd hh (by simp) fun x T => (I x T ob).mono (fun v ob2 ⟨e, dd, T2, e2⟩ => ⟨e, e2 ▸ h x dd T2⟩) fun _ _ x => x.elim
end
end Mine
end
section
open PySem PySem.W PyProof.Rows PySem.Spec PySem.Calls
namespace Mine
section
open PySem.Builtin PySem.Builtin._codecs
section
variable {b : Array UInt8} {t : Tok}
end
section
variable {c : Cx} {lo : Loc} {ob ob' : Obs} {X : QT Addr} {Q : QT V}
end
end
end Mine
end
section
namespace Mine
theorem LeavesOK.mono {X : QT Addr} {X' X2 : Addr → Obs → Prop} (h : LeavesOK X X') (hx : ∀ a ob, X' a ob → X2 a ob) : LeavesOK X X2 := fun c A env oL frs d m z lo e s h1 h2 h3 h4 h5 h6 h7 h8 =>
  wpAny_mono (h c A env oL frs d m z lo e s h1 h2 h3 h4 h5 h6 h7 h8) (fun _ _ ⟨a, ob, e, x, q⟩ => ⟨a, ob, e, x, hx _ _ q⟩) fun _ _ ⟨a, ob, e, x, q⟩ => ⟨a, ob, e, x, hx _ _ q⟩
theorem leaves_any {P : Addr → Obs → Prop} : LeavesOK (fun a _ ob => P a ob) P := (leaves_all _).mono fun a ob ⟨_, h⟩ => h
noncomputable def ZX (PE : Addr) (m l : List Nat) (st : V) (p : Int) (ob1 : Obs) : Addr → Obs → Prop := fun a ob => ∃ dd T, ob = (a, .exc (.ref PE) (some dd) (some (.ref T))) :: (dd, .dct (peD m l p st)) :: (T, .tup [.str (wordsN m l p)]) :: ob1
noncomputable abbrev FnZ (g : G) (f : Addr) (args : List V) (d : Nat) (hq : Bool) (PE : Addr) (m l : List Nat) (st : V) (p : Int) (ob1 ob0 : Obs) : Prop := FnC g f args d hq (fun _ _ => False) (ZX PE m l st p ob1) ob0
section
variable {c : Cx} {lo : Loc} {ob ob' : Obs} {X : QT Addr} {Q : QT V} {PE : Addr} {m l : List Nat} {st : V} {p : Int}
theorem FnC.forgetX {g : G} {f : Addr} {args : List V} {d : Nat} {hq : Bool} {Q : V → Obs → Prop} {X : Addr → Obs → Prop} {ob : Obs} (F : FnC g f args d hq (fun v ob => Frg (Q v) ob) (FrgX X) ob) : FnC g f args d hq Q X ob := FnH.forget F
theorem cal_Z {f : Addr} {args : List V} {d : Nat} {hq : Bool} {small oth ob1 : Obs} (ok : c.Ok) (pk : Picks ob small oth) (F : FnZ c.g f args d hq PE m l st p ob1 small) (q : App ob1 oth ob') (hd : d ≤ c.d) (hh : hq = true ∨ c.B.handled = none)
    (h : ∀ a dd T, X a lo ((a, .exc (.ref PE) (some dd) (some (.ref T))) :: (dd, .dct (peD m l p st)) :: (T, .tup [.str (wordsN m l p)]) :: ob')) : Cal c (.ref f) args Q X lo ob :=
  cal_fn (QF := fun _ _ => False) (XF := ZX PE m l st p ob') ok (FnC.frame pk (F.mono (fun _ _ x => x.elim) fun a ob ⟨dd, T, e⟩ => ⟨dd, T, by rw [e, ← q.eq]; rfl⟩)) hd hh (fun _ _ x => x.elim) fun a ob ⟨dd, T, e⟩ => by rw [e]; exact h a dd T
theorem raise_go {Y : Addr → Obs → Prop} {e dd hd : Addr} {arg : V} {cls : Value} {a1 : Option V} (hu : OUpd e (.xnew (.ref PE) (some dd) arg) (.exc (.ref PE) (some dd) (some arg)) ob ob') (hm : (hd, Ob.exc cls none a1) ∈ ob) (h : Y e ob') :
    ∃ e' dd arg a1 ob', V.ref e = .ref e' ∧ OUpd e' (.xnew (.ref PE) (some dd) arg) (.exc (.ref PE) (some dd) (some arg)) ob ob' ∧ (hd, Ob.exc cls none a1) ∈ ob ∧ Y e' ob' := ⟨e, dd, arg, a1, ob', rfl, hu, hm, h⟩
theorem zx_intro {a dd T : Addr} {ob1 d : Obs} (pk : Picks ob ((a, .exc (.ref PE) (some dd) (some (.ref T))) :: (dd, .dct (peD m l p st)) :: (T, .tup [.str (wordsN m l p)]) :: ob1) d) : FrgX (ZX PE m l st p ob1) a ob :=
  ⟨_, _, pk, ⟨_, _, _, .head _⟩, dd, T, rfl⟩
theorem hdv_mk {hd : Addr} {cls : Value} {a1 : Option V} {o : Option Value} (he : o = some (.ref hd)) (hm : (hd, Ob.exc cls none a1) ∈ ob) : HdV ob o := .inr ⟨hd, cls, a1, he, hm⟩
end
end Mine
end
section
namespace Mine
noncomputable def relab (ns names : Nms) : Nms := names.map fun p => if (p.2 == NameKind.free && ns.lookup p.1 == some .cell) = true then (p.1, .cell) else (p.1, p.2)
noncomputable def cellsOk (cells : List (Str × Addr)) (ns names : Nms) : Bool := names.all fun p => p.2 != .free || (ns.lookup p.1 == some .cell && (cells.lookup p.1).isSome)
theorem relab_eq {c : Cx} (ok : c.Ok) (scope : Scope) : (relabel scope c.env).names = relab c.env.scope.names scope.names := by
  unfold relabel relab
  simp only
  refine List.map_congr_left fun p hp => ?_
  have e : (c.env.scope.kind == ScopeKind.function) = true := by rw [ok.kind]; rfl
  simp only [e, Bool.and_true]
  rfl
theorem clos_go {env : Env} : ∀ (names : Nms) (acc : List (Str × Addr)), (∀ p ∈ names, p.2 = .free → ∃ a, env.cells.lookup p.1 = some a) → (∀ x b, acc.lookup x = some b → env.cells.lookup x = some b) →
    ∃ cl, (forIn names acc (fun (p : Str × NameKind) cs => if (p.2 == NameKind.free) = true then do let a ← cellOf env p.1; pure (ForInStep.yield ((p.1, a) :: cs)) else pure (ForInStep.yield cs)) : Sem (List (Str × Addr))) = pure cl ∧
      (∀ x b, cl.lookup x = some b → env.cells.lookup x = some b) ∧ (∀ x, (acc.lookup x).isSome = true → (cl.lookup x).isSome = true) ∧ ∀ x, (x, NameKind.free) ∈ names → (cl.lookup x).isSome = true
  | [], acc, h, ha => ⟨acc, rfl, ha, fun x h => h, fun x h => nomatch h⟩
  | (n, k) :: r, acc, h, ha => by
    rw [List.forIn_cons]
    by_cases hk : k = .free
    · subst hk
      obtain ⟨a, e⟩ := h (n, .free) (.head _) rfl
      have ec : cellOf env n = pure a := by unfold cellOf; rw [e]
      obtain ⟨cl, e1, e2, e3, e4⟩ := clos_go r ((n, a) :: acc) (fun p hp => h p (.tail _ hp)) (fun x b hx => by
        rw [List.lookup_cons] at hx
        by_cases q : x = n
        · subst q; simp at hx; subst hx; exact e
        · have e : (x == n) = false := by simpa using q
          rw [e] at hx; exact ha x b hx)
      refine ⟨cl, ?_, e2, fun x hx => e3 x ?_, fun x hx => ?_⟩
      · have eb : ((n, NameKind.free).snd == NameKind.free) = true := rfl
        rw [if_pos eb]
        show ((cellOf env n >>= fun a => pure (ForInStep.yield ((n, a) :: acc))) >>= _) = _
        rw [ec, pure_bind, pure_bind]; exact e1
      · rw [List.lookup_cons]; split <;> simp_all
      · rcases List.mem_cons.mp hx with q | hx
        · cases q; exact e3 n (by simp)
        · exact e4 x hx
    · obtain ⟨cl, e1, e2, e3, e4⟩ := clos_go r acc (fun p hp => h p (.tail _ hp)) ha
      have ek : (k == NameKind.free) = false := by simpa using hk
      refine ⟨cl, ?_, e2, e3, fun x hx => ?_⟩
      · rw [if_neg (by rw [ek]; decide), pure_bind]; exact e1
      · rcases List.mem_cons.mp hx with q | hx
        · cases q; exact absurd rfl hk
        · exact e4 x hx
theorem clos_of {env : Env} {scope : Scope} (h : ∀ p ∈ scope.names, p.2 = .free → ∃ a, env.cells.lookup p.1 = some a) :
    ∃ cl, closureFor scope env = pure cl ∧ ∀ x, (x, NameKind.free) ∈ scope.names → cl.lookup x = env.cells.lookup x := by
  refine of_gen fun _ kg => ?_
  obtain ⟨cl, e1, e2, _, e4⟩ := clos_go (env := env) scope.names [] h (fun x b hx => by cases hx)
  refine kg ?_
  refine ⟨cl, ?_, fun x hx => ?_⟩
  · unfold closureFor
    exact (congrArg (· >>= fun cs => pure cs) e1).trans (pure_bind _ _)
  · have := e4 x hx
    cases hl : cl.lookup x with
    | none => rw [hl] at this; cases this
    | some b => exact (e2 x b hl).symm
section
variable {c : Cx} {lo lo' : Loc} {ob ob' : Obs} {X : QT Addr} {Q : QT V} {a : Addr} {v : V} {ns ns' : Nms} {cells : List (Str × Addr)}
theorem W_CompC {elt iter : Expr} {ifs : List Expr} {x : Str} {px pos : Pos} {scope : Scope} (ok : c.Ok) (hns : c.env.scope.names = ns) (hfc : c.fenv.cells = cells) (hci : cellsOk cells ns scope.names = true) (hrl : relab ns scope.names = ns') (hcell : ∀ y ∈ scope.names, y.2 ≠ .cell) (hkind : scope.kind = .function)
    (hnames : ∀ y ∈ scope.names, y.2 = .local → scope.names.lookup y.1 = some .local) (hx : scope.names.lookup x = some .local) (hnd : (ns'.map (·.1)).Nodup)
    (h : W c VR (eval iter c.env) (fun v lo ob => CompF c elt ifs x ns' Q v lo ob) X lo ob) (hs : ∀ x, foldedSetIterable iter c.env x = pure x := by intro _; rfl) : W c VR (eval (.ListComp elt [⟨.Name x px, iter, ifs, 0⟩] scope pos) c.env) Q X lo ob := by
  subst hns hfc
  unfold cellsOk at hci
  rw [List.all_eq_true] at hci
  have hf : ∀ p ∈ scope.names, p.2 = .free → c.env.scope.names.lookup p.1 = some .cell ∧ ∃ a, c.env.cells.lookup p.1 = some a := fun p hp e => by
    have := hci p hp
    rw [e] at this
    simp only [bne_self_eq_false, Bool.false_or, Bool.and_eq_true, beq_iff_eq] at this
    obtain ⟨a, ha⟩ := Option.isSome_iff_exists.mp this.2
    exact ⟨this.1, a, ok.fv _ this.1 a ha⟩
  refine of_gen fun _ kg => ?_
  obtain ⟨cl, e1, e2⟩ := clos_of (env := c.env) (scope := scope) fun p hp e => (hf p hp e).2
  refine kg ?_
  refine W_ListComp ok ((relab_eq ok scope).trans hrl) e1 (fun y hy a ha => ?_) hcell hkind hnames hx hnd h hs
  rw [relab_eq ok] at hy
  have hm := mem_of_lookup hy
  unfold relab at hm
  refine of_gen fun _ kg => ?_
  obtain ⟨p, hp, e⟩ := List.mem_map.mp hm
  refine kg ?_
  have hfree : p.2 = .free ∧ p.1 = y := by
    by_cases q : (p.2 == NameKind.free && c.env.scope.names.lookup p.1 == some .cell) = true
    · rw [if_pos q] at e
      simp only [Bool.and_eq_true, beq_iff_eq] at q
      exact ⟨q.1, congrArg Prod.fst e⟩
    · rw [if_neg q] at e
      exact absurd (congrArg Prod.snd e) (hcell p hp)
  obtain ⟨h1, rfl⟩ := hfree
  rw [e2 p.1 (by rw [← h1]; exact hp)]
  exact ok.fv _ (hf p hp h1).1 a ha
theorem W_cellv {x : Str} {p : Pos} (ok : c.Ok) (hns : c.env.scope.names = ns) (hk : InN ns x .cell) (hfc : c.fenv.cells = cells) (hx : cells.lookup x = some a) (hm : (a, .cell v) ∈ ob) (h : Q v lo ob) (hd : (x == ("__debug__" : Str)) = false := by decide) :
    W c VR (eval (.Name x p) c.env) Q X lo ob := fun z s n => by
  subst hns hfc
  refine of_gen fun _ kg => ?_
  obtain ⟨m, os, frs, n'⟩ := id n
  obtain ⟨o, _, _, ho, cv, hda, hr⟩ := n'.mem hm
  refine kg ?_
  have hl := hk.lookup ok.nd'
  exact wpAny_Name (wpAny_loadName_cell ok.kind hl (ok.fv _ hl _ hx) ⟨o, ho, hda⟩ (LQ.mk hr n h)) hd
noncomputable def CellOb (b : Ob) : Prop := (∃ v, b = .cell v) ∨ ∃ w v0, b = .raw w ∧ w.data = .cell v0
theorem cellOb_raw {w : Obj} {v0 : Option Value} (h : w.data = .cell v0) : CellOb (.raw w) := .inr ⟨w, v0, rfl, h⟩
theorem Sto_cell {x : Str} {b : Ob} {Q : Loc → Obs → Prop} (ok : c.Ok) (hv : c.cv = none) (hns : c.ns = ns) (hk : InN ns x .cell) (hfc : c.fenv.cells = cells) (hx : cells.lookup x = some a) (u : OUpd a b (.cell v) ob ob') (hb : CellOb b) (h : Q lo ob') : Sto c x v Q X lo ob := by
  subst hns hfc
  rintro cv hr z s
  intro hgr111_0
  refine of_gen fun _ kg => ?_
  obtain ⟨m, os, frs, n⟩ := hgr111_0
  refine kg ?_
  have e := ok.fn hv
  refine of_gen fun _ kg => ?_
  obtain ⟨o, _, _, ho, hbo⟩ := n.mem u.mem
  refine kg ?_
  obtain ⟨v0, hda⟩ : ∃ v0, o.data = .cell v0 := by
    rcases hb with ⟨v', rfl⟩ | ⟨w, v0, rfl, hw⟩
    · obtain ⟨c0, h0, _⟩ := hbo; exact ⟨_, h0⟩
    · cases hbo; exact ⟨v0, hw⟩
  have hl : c.env.scope.names.lookup x = some .cell := by rw [e, ok.fns]; exact hk.lookup ok.nd
  refine wpAny_storeName_cell ok.kind hl (by rw [e]; exact hx) ⟨o, ho, hda⟩ fun h' ⟨o', ho', hda'⟩ hs => ?_
  obtain ⟨os', n', _⟩ := n.same (s' := { s with heap := h' }) u (o' := o') ⟨cv, hda', hr⟩ (fun b hb => hs.2 b hb) ho'
  exact ⟨(), lo, ob', trivial, ⟨m, os', frs, n'⟩, h⟩
theorem CompE.mapkF {α : Type} {elt : Expr} {x : Str} {ns' : Nms} {QF : List V → Loc → Obs → Prop} {l : List α} {g : α → V} (f : α → V)
    (hE : ∀ k ∈ l, ∀ c' : Cx, c'.Ok → c'.g = c.g → c'.env.scope.names = ns' → c'.cv = some [(x, g k)] → c'.d = c.d → c'.B = c.B → c'.fenv = c.fenv → W c' VR (eval elt c'.env) (fun y lo' ob' => y = f k ∧ lo' = lo ∧ ob' = ob) never lo ob)
    (h : QF (l.map f) lo ob) : CompE c elt [] x ns' QF (l.map g) [] lo ob := by
  have key : ∀ (l : List α) (acc : List V), (∀ k ∈ l, ∀ c' : Cx, c'.Ok → c'.g = c.g → c'.env.scope.names = ns' → c'.cv = some [(x, g k)] → c'.d = c.d → c'.B = c.B → c'.fenv = c.fenv → W c' VR (eval elt c'.env) (fun y lo' ob' => y = f k ∧ lo' = lo ∧ ob' = ob) never lo ob) → QF (acc ++ l.map f) lo ob → CompE c elt [] x ns' QF (l.map g) acc lo ob := by
    intro l
    induction l with
    | nil => intro acc _ h; rw [List.map_nil, List.append_nil] at h; exact h
    | cons v vs ih =>
      intro acc hE h c' h1 h2 h3 h4 h5 h6 h7 h8 h9
      refine br_t ((hE v (.head _) c' h1 h2 h4 h5 h6 h7 h8).mono ?_ fun _ _ _ x => x)
      rintro y _ _
      intro hgr134_0
      refine of_gen fun _ kg => ?_
      obtain ⟨rfl, rfl, rfl⟩ := hgr134_0
      refine kg ?_
      exact ih _ (fun u hu => hE u (.tail _ hu)) (by simpa using h)
  exact key l [] hE h
end
end Mine
end
section
open Builtin Builtin.Str
namespace Mine
section
variable {c : Cx} {lo : Loc} {ob : Obs} {X : QT Addr} {Q : QT V}
end
end Mine
end
section
open Builtin Builtin.Str PySem.StrLaws
namespace Mine
theorem filt_last (l : List Nat) : ∀ k, k ≤ l.length → ((List.range k).filter (fun i => decide (l[i]? = some 10))).getLast? = lastOf (l.take k)
  | 0, _ => rfl
  | k + 1, h => by
    have ih := filt_last l k (by lia)
    obtain ⟨x, hx⟩ : ∃ x, l[k]? = some x := ⟨_, List.getElem?_eq_getElem (by lia)⟩
    rw [List.range_succ, List.filter_append, take_snoc hx, lastOf_snoc]
    have hl : (l.take k).length = k := by simp; lia
    by_cases e : x = 10
    · rw [if_pos e, hl]
      have : [k].filter (fun i => decide (l[i]? = some 10)) = [k] := by simp [hx, e]
      rw [this, List.getLast?_append]
      rfl
    · rw [if_neg e]
      have : [k].filter (fun i => decide (l[i]? = some 10)) = [] := by simp [hx, e]
      rw [this, List.append_nil]
      exact ih
theorem occs_eq (l : List Nat) : occurrences (tx l) ⟨#[10]⟩ 0 (tx l).length ((tx l).length + 1) = (List.range l.length).filter (fun i => decide (l[i]? = some 10)) := by
  have e : (tx l).length = l.length := tx_length l
  rw [e, occ_eq]
  have := occ_list l l.length (l.length + 1) (Nat.le_refl _) (by lia) (l.length + 1) 0 #[] 0 (by lia) (Nat.le_refl _) (Nat.le_refl _)
  refine Eq.trans this ?_
  have e2 : List.range' 0 (l.length + 1) = List.range l.length ++ [l.length] := by rw [← List.range_eq_range', List.range_succ]
  rw [e2, List.filter_append]
  have e3 : [l.length].filter (fun i => decide (l[i]? = some 10) && decide (i < l.length)) = [] := by simp
  rw [e3, List.append_nil]
  show [] ++ _ = _
  rw [List.nil_append]
  refine List.filter_congr fun i hi => ?_
  have : i < l.length := List.mem_range.mp hi
  simp [this]
theorem occs_len (l : List Nat) : ((List.range l.length).filter (fun i => decide (l[i]? = some 10))).length = nls l := by
  have h := occ_count l l.length (Nat.le_refl _)
  have e : (tx l).length = l.length := tx_length l
  have := occs_eq l
  rw [e] at this
  rw [this, List.take_length] at h
  exact h
theorem sub_len (x : PySem.Str) (i j : Nat) : (strSub x i j).length = min j x.length - i := by
  show (x.cps.extract i j).size = min j x.cps.size - i
  rw [Array.size_extract]
theorem parts_last (l : List Nat) (c0 : List Nat) (m : Nat) : ∃ r0, partsBetween (tx l) (c0 ++ [m]) 1 = r0 ++ [strSub (tx l) (m + 1) (tx l).length] ∧ r0.length = c0.length + 1 := by
  unfold partsBetween
  dsimp only
  have e : (0 :: (c0 ++ [m]).map (· + 1)) = (0 :: c0.map (· + 1)) ++ [m + 1] := by simp
  rw [e, List.zip_append (by simp), List.map_append]
  exact ⟨_, rfl, by simp⟩
theorem vrs_strs : ∀ (ps : List PySem.Str) (tk : Nat), VRs (ps.map fun p => V.str p.cps.toList) (strsFrom tk ps)
  | [], _ => .nil
  | p :: r, tk => .cons ⟨tk, by simp [tx]⟩ (vrs_strs r (tk + 1))
theorem kind_nl (x : PySem.Str) : decide (PySem.Builtin.Str.strKind x < PySem.Builtin.Str.strKind ⟨#[10]⟩) = false := by
  have : PySem.Builtin.Str.strKind (⟨#[10]⟩ : PySem.Str) = 1 := by decide +kernel
  rw [this]
  unfold PySem.Builtin.Str.strKind
  split
  · rfl
  · split <;> rfl
section
variable {c : Cx} {lo : Loc} {ob : Obs} {X : QT Addr} {Q : QT V}
theorem split_nl {l : List Nat} (hz : l.length ≤ 100000) (h : ∀ D rs, rs.length = nls l + 1 → (∃ r0 x, rs = r0 ++ [x] ∧ x.length = tl l) → Q (.ref D) lo ((D, .list (rs.map V.str)) :: ob)) : Cal c (.cv (.builtin "str.split")) [.str l, .str [10]] Q X lo ob := by
  rintro _ cs rfl hv z s
  intro hgr70_0
  refine of_gen fun _ kg => ?_
  obtain ⟨m, os, frs, n⟩ := hgr70_0
  refine kg ?_
  obtain ⟨_, _, rfl, ⟨t, rfl⟩, ⟨u, rfl⟩⟩ := VRs2 hv
  have hlen : (tx l).length = l.length := tx_length l
  have it : ∀ rs : List (List Nat), rs = [l] → nls l = 0 → tl l = l.length → listOfItself (tx l) t c.B (wants (LQ c z VR Q) (LX c z X)) s := by
    rintro rs rfl h1 h2
    exact ⟨.ref s.heap.objs.size, lo, _, rfl, ⟨m, _, frs, n.push (s' := { s with heap := s.heap.push { cls := .type "list", data := .seq [Value.str (tx l) t].toArray } }) (b := .list [V.str l]) ⟨[Value.str (tx l) t], 0, rfl, .one ⟨t, rfl⟩⟩ rfl⟩, h _ [l] (by rw [h1]; rfl) ⟨[], l, rfl, h2.symm⟩⟩
  by_cases h0 : l = []
  · subst h0
    exact call_meets F.slot_str_split (typeIs_str _ _ _) F.entry_str_split (F.args_str_split_2 _ _) (meets_str_split_cannot_occur (tx []) (tx [10]) t u (by decide +kernel)) (it _ rfl rfl rfl)
  have hpos : 0 < l.length := List.length_pos_iff.mpr h0
  have h1 : (decide ((tx l).length < (tx [10]).length) || decide (PySem.Builtin.Str.strKind (tx l) < PySem.Builtin.Str.strKind (tx [10]))) = false := by
    rw [hlen, show (tx [10]).length = 1 from rfl, show tx [10] = ⟨#[10]⟩ from rfl, kind_nl]
    simp; lia
  have ho := occs_eq l
  have hc := occs_len l
  have hlast := filt_last l l.length (Nat.le_refl _)
  rw [List.take_length] at hlast
  generalize hoc : (List.range l.length).filter (fun i => decide (l[i]? = some 10)) = oc at *
  cases hoe : oc with
  | nil =>
    rw [hoe] at hc hlast ho
    refine call_meets F.slot_str_split (typeIs_str _ _ _) F.entry_str_split (F.args_str_split_2 _ _) (meets_str_split_not_found (tx l) (tx [10]) t u h1 rfl ?_) (it _ rfl hc.symm ?_)
    · rw [show tx [10] = ⟨#[10]⟩ from rfl, ho]; rfl
    · have e : lastOf l = none := hlast.symm
      unfold lastOf at e
      split at e
      · assumption
      · cases e
  | cons y ys =>
    obtain ⟨c0, q, e⟩ : ∃ c0 q, oc = c0 ++ [q] := ⟨oc.dropLast, oc.getLast (by rw [hoe]; simp), (List.dropLast_concat_getLast _).symm⟩
    have hq : lastOf l = some q := by rw [← hlast, e]; simp
    have hq2 : q + 1 + tl l = l.length := by
      unfold lastOf at hq
      have := tl_le l
      split at hq
      · cases hq
      · cases hq; lia
    obtain ⟨r0, hr, hrl⟩ := parts_last l c0 q
    have hparts : partsBetween (tx l) (occurrences (tx l) (tx [10]) 0 (tx l).length ((tx l).length + 1)) (tx [10]).length = r0 ++ [strSub (tx l) (q + 1) (tx l).length] := by
      rw [show tx [10] = ⟨#[10]⟩ from rfl, ho, e]; exact hr
    have hpl : (partsBetween (tx l) (occurrences (tx l) (tx [10]) 0 (tx l).length ((tx l).length + 1)) (tx [10]).length).length = nls l + 1 := by
      rw [hparts, List.length_append, hrl, ← hc, e]; simp
    have hnl : nls l ≤ l.length := nls_le l
    refine call_meets F.slot_str_split (typeIs_str _ _ _) F.entry_str_split (F.args_str_split_2 _ _) (meets_str_split_sep (tx l) (tx [10]) t u h1 rfl ?_ (by rw [hlen, sizeLine_eq]; lia) ?_) ?_
    · rw [show tx [10] = ⟨#[10]⟩ from rfl, ho, hoe]; rfl
    · rw [hpl, sizeLine_eq]; lia
    · refine ⟨.ref s.heap.objs.size, lo, _, rfl, ⟨m, _, frs, n.push (b := .list ((partsBetween (tx l) (occurrences (tx l) (tx [10]) 0 (tx l).length ((tx l).length + 1)) (tx [10]).length).map fun p => V.str p.cps.toList)) ⟨_, 0, rfl, vrs_strs _ _⟩ rfl⟩, ?_⟩
      have := h s.heap.objs.size ((partsBetween (tx l) (occurrences (tx l) (tx [10]) 0 (tx l).length ((tx l).length + 1)) (tx [10]).length).map fun p => p.cps.toList) (by rw [List.length_map]; exact hpl) ?_
      · rw [List.map_map] at this; exact this
      · rw [hparts, List.map_append]
        refine ⟨_, _, rfl, ?_⟩
        have := sub_len (tx l) (q + 1) (tx l).length
        rw [Nat.min_self, hlen] at this
        rw [hlen]
        show (strSub (tx l) (q + 1) l.length).cps.toList.length = tl l
        rw [Array.length_toList]
        refine Eq.trans this ?_
        lia
theorem fdiv_ints {i j : Int} (hj : j ≠ 0) (hs : j.natAbs < 1073741824) (h : Q (.int (i.fdiv j)) lo ob) : Bin c .FloorDiv (.int i) (.int j) Q X lo ob := by
  rintro _ _ ⟨t, rfl⟩ ⟨u, rfl⟩ z s n
  exact PyProof.Rows.floordiv_int hj (LQ.int (n.toks rfl) h) (hp := .inl (PyProof.noPylong_small hs))
theorem bools_are : ∀ (bs : List Bool) (cs : List Value), VRs (bs.map V.bool) cs → PyProof.Rows.LSm.BoolsAre cs bs := by
  intro bs
  induction bs with
  | nil => intro cs h; cases h; exact .nil
  | cons b r ih =>
    intro cs h
    cases h with
    | cons a t => cases a; exact .cons b (ih _ t)
theorem hiN_clip (n : Nat) (j : Int) : hiN n j = clipAt n j := by
  unfold hiN clipAt
  rcases Int.le_total (if j < 0 then j + (n : Int) else j) n with h | h
  · rw [Int.min_eq_left h, Nat.min_eq_left (Int.toNat_le.mpr (Int.max_le.mpr ⟨Int.natCast_nonneg _, h⟩))]
  · rw [Int.min_eq_right h, Int.max_eq_right (Int.natCast_nonneg _), Int.max_eq_right (Int.le_trans (Int.natCast_nonneg _) h), Nat.min_eq_right (Int.le_toNat (Int.le_trans (Int.natCast_nonneg _) h) |>.mpr h)]
    rfl
theorem slice_upto (l : List Nat) {j : Int} : Txt.slice (tx l) none (some j) = tx (l.take (hiN l.length j)) := by
  rw [hiN_clip, slice_upto']
theorem cut_str_nz {value slice : Expr} {l : List Nat} {j : Int} (hz : l.length ≤ 100000) (h : Q (.str (l.take (hiN l.length j))) lo ob)
    (hs : ∀ t k, subscripted slice false (.str (tx l) t) (.ref k) = operate [.ref k, .str (tx l) t] (getItem (.str (tx l) t) (.ref k)) := by intro _ _; with_unfolding_all rfl) (ht : ∀ t r, letTemporaryGo value (.str (tx l) t) r = pure () := by intro _ _; with_unfolding_all rfl) : Cut c value slice (.str l) none (some j) Q X lo ob := by
  rintro _ cl cu ⟨t, rfl⟩ rfl ⟨t1, rfl⟩ z s
  intro hgr164_0
  refine of_gen fun _ kg => ?_
  obtain ⟨m, os, frs, n⟩ := hgr164_0
  refine kg ?_
  exact slice_strN_ns n.F n.N (fun h' t' k F' N' => by rw [slice_upto l]; exact LQ.str ⟨m, os, frs, n.go (s' := { s with heap := h', toks := k }) F' N'⟩ h) (hs _ _) (ht _) (by rw [tx_length, sizeLine_eq]; lia)
end
end Mine
end
section
namespace Mine
section
variable {c : Cx} {lo lo1 lo2 : Loc} {ob ob' : Obs} {X : QT Addr} {Q : QT V} {QF : QT AF} {a b : Addr} {v : V} {vs ws : List V} {TK ini : Addr} {attrs : List Str} {meths fns : List (Str × Addr)} {blts : List (Str × Value)}
theorem split_nl' {l : List Nat} (hz : l.length ≤ 1000) (h : ∀ D ws x, ws.length = nls l → x.length = tl l → ws.length ≤ 1000 → x.length ≤ 1000 → Q (.ref D) lo ((D, .list (ws ++ [V.str x])) :: ob)) : Cal c (.cv (.builtin "str.split")) [.str l, .str [10]] Q X lo ob :=
  split_nl (by lia) fun D rs h1 ⟨r0, x, e, hx⟩ => by
    subst e
    have g1 : r0.length = nls l := by simpa using h1
    have g2 := nls_le l
    have g3 := tl_le l
    have := h D (r0.map V.str) x (by rw [List.length_map]; exact g1) hx (by rw [List.length_map]; lia) (by lia)
    rw [List.map_append]
    exact this
theorem sub_last {value slice : Expr} (hm : (a, .list (ws ++ [v])) ∈ ob) (h : Q v lo ob)
    (hs : ∀ u, subscripted slice false (.ref a) (.int (-1) u) = operate [.ref a, .int (-1) u] (getItem (.ref a) (.int (-1) u)) := by intro _; with_unfolding_all rfl) : Sub2 c value slice (.ref a) (.int (-1)) Q X lo ob := by
  rintro _ _ rfl ⟨u, rfl⟩ z s n0
  refine of_gen fun _ kg => ?_
  obtain ⟨m, os, frs, n⟩ := n0
  obtain ⟨o, _, _, ha, cs, k, rfl, hr⟩ := n.mem hm
  refine kg ?_
  have hl : cs.length = ws.length + 1 := by rw [← hr.length]; simp
  have hil : s.heap.IsList a cs.toArray := ⟨_, ha, rfl, _, rfl⟩
  refine of_gen fun _ kg => ?_
  obtain ⟨cv, e1, e2⟩ := hr.get ws.length v (by simp)
  refine kg ?_
  refine tail_any hil.typeIs slot_list_getitem.lookup (wpAny_getItem_list_neg (items := cs.toArray) (x := cv) hil (by lia) (by rw [List.size_toArray, hl]; lia) (by lia) ?_ ⟨v, lo, ob, e2, ⟨m, os, frs, n⟩, h⟩) (hs u)
  rw [List.size_toArray, hl, show ((-1 : Int) + ((ws.length + 1 : Nat) : Int)).toNat = ws.length by lia]
  simpa using e1
theorem hdls_asT {nm x : Str} {C : Addr} {p hpos : Pos} {ns ns' : Nms} {b0 : Stmt} {hb : List Stmt} {r : List ExceptHandler} {cls : Value} {d : Option Addr} {arg : Option V} (ok : c.Ok) (H : TkF c.g TK ini attrs meths fns blts) (hm : (a, Ob.exc cls d arg) ∈ ob) (hns' : c.env.scope.names = ns') (hk : InN ns' nm .globalImplicit) (hx : (nm, C) ∈ fns)
    (he : exmOne c.g.K cls (.ref C) = some true) (hns : c.ns = ns) (pu : Put ns lo x (some (.ref a)) lo1)
    (h : (Mine.mk c a).Ok → W (Mine.mk c a) FR (execs (b0 :: hb) (Mine.mk c a).env) (fun f lo ob => ∃ lo2, Put ns lo x none lo2 ∧ QF f lo2 ob) (fun _ _ _ => False) lo1 ob) : Hdls c QF X (.ExceptHandler (some (.Name nm p)) (some x) (b0 :: hb) hpos :: r) a lo ob :=
  hdls_as hns hm (nameIs_glob (c := Mine.mk c a) (mk_ok ok a) hns' hk (H.fun_ _ hx).1 (H.fun_ _ hx).2.2) he pu (h (mk_ok ok a))
theorem unput {ns : Nms} {x : Str} {Y : Loc → Prop} (p : Put ns lo x none lo2) (h : Y lo2) : ∃ lo2, Put ns lo x none lo2 ∧ Y lo2 := ⟨lo2, p, h⟩
theorem str_int' {p : Int} (hp : p.natAbs < 10 ^ 10) (h : (decs p).length ≤ 11 → Q (.str (decs p)) lo ob) : Cal c (.cv (.type "str")) [.int p] Q X lo ob := str_int hp (h (decs_length hp))
end
section
variable {l m : List Nat} {p : Int} {ws ws2 : List V} {x x2 : List Nat}
theorem words_ln (h1 : ws.length = nls (l.take (hiN l.length p))) : ((ws ++ [V.str x]).length : Int) = lnN l p := by
  unfold lnN
  rw [List.length_append, h1]; rfl
theorem words_co (h2 : x.length = tl (l.take (hiN l.length p))) : p - ((l.take (hiN l.length p)).length : Int) + (x.length : Int) + 1 = coN l p := by
  unfold coN
  rw [h2]; lia
theorem words_in (h3 : ws2.length = nls l) (hb : 1 < ((ws2 ++ [V.str x2]).length : Int)) : 10 ∈ l := by
  rw [List.length_append, h3] at hb
  have : 0 < nls l := by simp at hb; lia
  exact List.count_pos_iff.mp this
theorem words_out (h3 : ws2.length = nls l) (hb : ¬ 1 < ((ws2 ++ [V.str x2]).length : Int)) : ¬ 10 ∈ l := fun h => by
  rw [List.length_append, h3] at hb
  have : 0 < nls l := List.count_pos_iff.mpr h
  simp at hb; lia
theorem words_fy (h1 : ws.length = nls (l.take (hiN l.length p))) (h2 : x.length = tl (l.take (hiN l.length p))) (h3 : ws2.length = nls l) (hb : 1 < ((ws2 ++ [V.str x2]).length : Int)) :
    [V.str m, .str l, .int p, .int ((ws ++ [V.str x]).length : Int), .int (p - ((l.take (hiN l.length p)).length : Int) + (x.length : Int) + 1), .str (m ++ [32, 97, 116, 32, 112, 111, 115, 105, 116, 105, 111, 110, 32] ++ decs p ++
      ([32, 40, 108, 105, 110, 101, 32] ++ decs ((ws ++ [V.str x]).length : Int) ++ [44, 32, 99, 111, 108, 117, 109, 110, 32] ++ decs (p - ((l.take (hiN l.length p)).length : Int) + (x.length : Int) + 1) ++ [41]))] =
    [.str m, .str l, .int p, .int (lnN l p), .int (coN l p), .str (wordsN m l p)] := by
  rw [words_ln h1, words_co h2, words_yes (words_in h3 hb)]
  unfold lineW posW
  simp only [List.append_assoc]
theorem words_fn (h1 : ws.length = nls (l.take (hiN l.length p))) (h2 : x.length = tl (l.take (hiN l.length p))) (h3 : ws2.length = nls l) (hb : ¬ 1 < ((ws2 ++ [V.str x2]).length : Int)) :
    [V.str m, .str l, .int p, .int ((ws ++ [V.str x]).length : Int), .int (p - ((l.take (hiN l.length p)).length : Int) + (x.length : Int) + 1), .str (m ++ [32, 97, 116, 32, 112, 111, 115, 105, 116, 105, 111, 110, 32] ++ decs p)] =
    [.str m, .str l, .int p, .int (lnN l p), .int (coN l p), .str (wordsN m l p)] := by
  rw [words_ln h1, words_co h2, words_no (words_out h3 hb)]
  rfl
end
end Mine
end
section
namespace Mine
inductive Closes (cells : List (Str × Addr)) (ns : Nms) : Nms → Nms → Prop
  | nil : Closes cells ns [] []
  | loc {x r r'} : Closes cells ns r r' → Closes cells ns ((x, .local) :: r) ((x, .local) :: r')
  | glob {x r r'} : Closes cells ns r r' → Closes cells ns ((x, .globalImplicit) :: r) ((x, .globalImplicit) :: r')
  | cell {x r r'} : InN ns x .cell → (cells.lookup x).isSome = true → Closes cells ns r r' → Closes cells ns ((x, .free) :: r) ((x, .cell) :: r')
theorem Closes.relab {cells : List (Str × Addr)} {ns names ns' : Nms} (hn : (ns.map (·.1)).Nodup) (h : Closes cells ns names ns') : relab ns names = ns' ∧ cellsOk cells ns names = true := by
  induction h with
  | nil => exact ⟨rfl, rfl⟩
  | loc _ ih => exact ⟨by rw [← ih.1]; rfl, by have := ih.2; unfold cellsOk at this ⊢; rw [List.all_cons, this]; rfl⟩
  | glob _ ih => exact ⟨by rw [← ih.1]; rfl, by have := ih.2; unfold cellsOk at this ⊢; rw [List.all_cons, this]; rfl⟩
  | @cell x r r' hi hs _ ih =>
    have e := hi.lookup hn
    refine ⟨?_, ?_⟩
    · rw [← ih.1]
      unfold Mine.relab
      rw [List.map_cons]
      simp [e]
    · have := ih.2
      unfold cellsOk at this ⊢
      rw [List.all_cons, this]
      simp [e, hs]
section
variable {c : Cx} {lo : Loc} {ob : Obs} {X : QT Addr} {Q : QT V} {ns ns' : Nms} {cells : List (Str × Addr)}
theorem W_CompK {elt iter : Expr} {ifs : List Expr} {x : Str} {px pos : Pos} {scope : Scope} (ok : c.Ok) (hns : c.env.scope.names = ns) (hfc : c.fenv.cells = cells) (hcs : Closes cells ns scope.names ns') (hcell : ∀ y ∈ scope.names, y.2 ≠ .cell) (hkind : scope.kind = .function)
    (hnames : ∀ y ∈ scope.names, y.2 = .local → scope.names.lookup y.1 = some .local) (hx : scope.names.lookup x = some .local) (hnd : (ns'.map (·.1)).Nodup)
    (h : W c VR (eval iter c.env) (fun v lo ob => CompF c elt ifs x ns' Q v lo ob) X lo ob) (hs : ∀ x, foldedSetIterable iter c.env x = pure x := by intro _; rfl) : W c VR (eval (.ListComp elt [⟨.Name x px, iter, ifs, 0⟩] scope pos) c.env) Q X lo ob := by
  have hr := hcs.relab (by rw [← hns]; exact ok.nd')
  exact W_CompC ok hns hfc hr.2 hr.1 hcell hkind hnames hx hnd h hs
theorem cut_str_ssE {value slice : Expr} {l nm : List Nat} {i j : Int} (hi : 0 ≤ i) (hj : 0 ≤ j) (hz : l.length ≤ 100000) (he : (l.drop i.toNat).take (j.toNat - i.toNat) = nm) (h : Q (.str nm) lo ob)
    (hs : ∀ t k, subscripted slice false (.str (tx l) t) (.ref k) = operate [.ref k, .str (tx l) t] (getItem (.str (tx l) t) (.ref k)) := by intro _ _; with_unfolding_all rfl) (ht : ∀ t r, letTemporaryGo value (.str (tx l) t) r = pure () := by intro _ _; with_unfolding_all rfl) : Cut c value slice (.str l) (some i) (some j) Q X lo ob :=
  cut_str_ss hi hj hz (by rw [he]; exact h) hs ht
theorem rsize {a b : Int} {n : Nat} (h : b - a = n) : Builtin.Range.rangeSize a b 1 = ((n : Nat) : Int) := by
  unfold Builtin.Range.rangeSize
  rw [if_pos (by decide)]
  split
  · rw [Int.ediv_one]; lia
  · lia
end
end Mine
end
section
open Builtin
namespace Mine
theorem clip_kms (n : Nat) (i : Int) : clipAt n i = if i < 0 then n - (-i).toNat else min i.toNat n := by
  unfold clipAt
  split <;> lia
theorem clip_lo (o : Option Int) (n : Nat) : o.elim 0 (clipAt n) = kms_lo o n := by
  cases o with
  | none => rfl
  | some i => exact clip_kms n i
theorem clip_hi (o : Option Int) (n : Nat) : o.elim n (clipAt n) = kms_hi o n := by
  cases o with
  | none => rfl
  | some i => exact clip_kms n i
theorem picked_cut (b : Array UInt8) (lo hi : Option Int) : (KBy.picked b lo hi).toList.map (·.toNat) = cut (b.toList.map (·.toNat)) lo hi := by
  rw [KBc.picked_eq, List.toList_toArray, clip_lo, clip_hi]
  unfold cut
  rw [List.map_take, List.map_drop, List.length_map, Array.length_toList]
theorem cut_upto (l : List Nat) (j : Int) : cut l none (some j) = l.take (hiN l.length j) := by
  unfold cut kms_lo kms_hi hiN
  simp only [List.drop_zero, Nat.sub_zero]
  congr 1
  split <;> lia
theorem bytes_inj {b b2 : Array UInt8} (h : b.toList.map (·.toNat) = b2.toList.map (·.toNat)) : b = b2 := by
  apply Array.ext'
  have : ∀ {x y : List UInt8}, x.map (·.toNat) = y.map (·.toNat) → x = y := by
    intro x
    induction x with
    | nil => intro y h; cases y with | nil => rfl | cons _ _ => simp at h
    | cons p r ih =>
      intro y h
      cases y with
      | nil => simp at h
      | cons q t =>
        simp only [List.map_cons, List.cons.injEq] at h
        rw [UInt8.toNat_inj.mp h.1, ih h.2]
  exact this h
theorem eqg_bytes (b c : Array UInt8) (t u : Tok) : MeetsSeq.EqGives (.bytes b t) (.bytes c u) (b.toList == c.toList) := by
  intro prog w A E s Q h
  unfold eqBool
  refine wpAny_holding ?_
  refine wpAny_ite_split (fun hab => ?_) (fun hab => ?_)
  · have e : b = c := by have := eq_of_beq hab; injection this
    subst e
    exact wpAny_bind (wpAny_rule (wpAny_pure (by simpa using h)))
  · exact wpAny_bind (richCompare_gives (typeIs_bytes s b t) (typeIs_bytes s c u) FB.slot_bytes_eq FB.entry_bytes_eq (FB.args_bytes_eq_2 _ _) (gives_bytes_eq b c t u) (by simp [Made.takes]) (wpAny_truthy_bool h))
theorem bytes_beq {b c : Array UInt8} : (b.toList == c.toList) = decide (b.toList.map (·.toNat) = c.toList.map (·.toNat)) := by
  rw [Bool.eq_iff_iff]
  simp only [beq_iff_eq, decide_eq_true_eq]
  exact ⟨fun h => by rw [h], fun h => congrArg _ (bytes_inj h)⟩
theorem occ_b (b : Array UInt8) (hi : Nat) (hle : hi ≤ b.size) : ∀ n, n ≤ hi → ∃ f, (((List.range n).map (· + 0)).foldl (fun (acc : List Nat × Nat) (i : Nat) => if (decide (i ≥ acc.2) && b.extract i (i + 1) == #[10]) = true then (i :: acc.1, i + 1) else acc) (([] : List Nat), 0)) = (((List.range n).filter (fun i => decide ((b.toList.map (·.toNat))[i]? = some 10))).reverse, f) ∧ f ≤ n
  | 0, _ => ⟨0, rfl, Nat.le_refl _⟩
  | n + 1, h => by
    obtain ⟨f, e, hf⟩ := occ_b b hi hle n (by lia)
    rw [List.range_succ, List.map_append, List.foldl_append, e, List.filter_append]
    obtain ⟨x, hx⟩ : ∃ x, (b.toList.map (·.toNat))[n]? = some x := ⟨_, List.getElem?_eq_getElem (by simp; lia)⟩
    by_cases hc : x = 10
    · refine ⟨n + 1, ?_, Nat.le_refl _⟩
      simp only [List.map_cons, List.map_nil, List.foldl_cons, List.foldl_nil, Nat.add_zero]
      rw [if_pos (by rw [ext_one, hx]; simp [hc, hf])]
      have : [n].filter (fun i => decide ((b.toList.map (·.toNat))[i]? = some 10)) = [n] := by rw [List.filter_cons, if_pos (by rw [hx, hc]; rfl)]; rfl
      rw [this, List.reverse_append]; rfl
    · refine ⟨f, ?_, by lia⟩
      simp only [List.map_cons, List.map_nil, List.foldl_cons, List.foldl_nil, Nat.add_zero]
      rw [if_neg (by rw [ext_one, hx]; simp [hc])]
      have : [n].filter (fun i => decide ((b.toList.map (·.toNat))[i]? = some 10)) = [] := by rw [List.filter_cons, if_neg (by rw [hx]; simpa using hc)]; rfl
      rw [this, List.append_nil]
theorem occs_b (b : Array UInt8) : Bytes.occurrences b #[10] 0 b.size = (List.range b.size).filter (fun i => decide ((b.toList.map (·.toNat))[i]? = some 10)) := by
  obtain ⟨f, e, _⟩ := occ_b b b.size (Nat.le_refl _) b.size (Nat.le_refl _)
  unfold Bytes.occurrences
  have : b.size + 1 - (0 + (#[10] : Array UInt8).size) = b.size := by show b.size + 1 - (0 + 1) = b.size; lia
  rw [this]
  dsimp only
  have e2 := congrArg (fun q => (Prod.fst q).reverse) e
  refine Eq.trans e2 ?_
  simp
theorem between_go (b : Array UInt8) : ∀ (ps : List Nat) (acc : Array (Array UInt8)) (last : Nat), ∃ acc' last', ps.foldl (fun (x : Array (Array UInt8) × Nat) p => (x.1.push (b.extract x.2 p), p + 1)) (acc, last) = (acc', last') ∧ acc'.size = acc.size + ps.length ∧ (∀ q ∈ acc', q ∈ acc ∨ q.size ≤ b.size) ∧ (∀ c0 m, ps = c0 ++ [m] → last' = m + 1)
  | [], acc, last => ⟨acc, last, rfl, by simp, fun q h => .inl h, fun c0 m h => by simp at h⟩
  | p :: r, acc, last => by
    obtain ⟨acc', last', e, hs, hq, hl⟩ := between_go b r (acc.push (b.extract last p)) (p + 1)
    refine ⟨acc', last', e, by rw [hs]; simp; lia, fun q h => ?_, fun c0 m h => ?_⟩
    · rcases hq q h with h | h
      · rcases Array.mem_push.mp h with h | h
        · exact .inl h
        · right; rw [h, Array.size_extract]; lia
      · exact .inr h
    · cases r with
      | nil =>
        have : c0 = [] ∧ p = m := by
          cases c0 with
          | nil => simpa using h
          | cons x t => simp at h
        rw [List.foldl_nil] at e
        rw [← this.2]
        exact (congrArg Prod.snd e).symm
      | cons y t =>
        cases c0 with
        | nil => simp at h
        | cons x c1 =>
          have h2 : y :: t = c1 ++ [m] := by simpa using (List.cons.inj h).2
          exact hl c1 m h2
theorem between_last (b : Array UInt8) (c0 : List Nat) (m : Nat) : ∃ r0 : List (Array UInt8), Bytes.between b 1 (c0 ++ [m]) = r0 ++ [b.extract (m + 1) b.size] ∧ r0.length = c0.length + 1 ∧ ∀ q ∈ r0, q.size ≤ b.size := by
  obtain ⟨acc', last', e, hs, hq, hl⟩ := between_go b (c0 ++ [m]) #[] 0
  refine ⟨acc'.toList, ?_, by rw [Array.length_toList, hs]; simp, fun q h => ?_⟩
  · unfold Bytes.between
    have e1 : List.foldl (fun (x : Array (Array UInt8) × Nat) p => match x with | (parts, last) => (parts.push (b.extract last p), p + 1)) ((#[] : Array (Array UInt8)), 0) (c0 ++ [m]) = (acc', last') := e
    rw [e1]
    dsimp only
    rw [hl c0 m rfl, Array.toList_push]
  · rcases hq q (by simpa using h) with h | h
    · simp at h
    · exact h
theorem mapM_bytes {M : Model} {A : Around} {E : Value → Shared → Prop} : ∀ (ps : List (Array UInt8)) (s : Shared) (Q : List Value → Shared → Prop), (∀ p ∈ ps, p.size ≤ sizeLine) → (∀ cs tk, VRs (ps.map fun p => V.bytes (p.toList.map (·.toNat))) cs → Q cs { s with toks := tk }) → wpAny M A (ps.mapM (Bytes.Kind.new .bytes)) Q E s
  | [], s, Q, _, h => by rw [List.mapM_nil]; exact wpAny_pure (h [] s.toks .nil)
  | p :: r, s, Q, hz, h => by
    rw [List.mapM_cons]
    show wpAny M A (mkBytes p >>= fun x => _) Q E s
    refine wpAny_bind (wpAny_mkBytes (wpAny_bind ?_) (hz p (.head _)))
    refine mapM_bytes r _ _ (fun q hq => hz q (.tail _ hq)) fun cs tk hv => wpAny_pure ?_
    exact h _ tk (.cons ⟨p, _, rfl, rfl⟩ hv)
namespace FX
theorem slot_bytes_split : Slot "bytes" "split" "bytes.split" := .of (owner := "bytes") (n := "split") (by rw [typeLookup_type, builtinLookup_eq_fast]; kernel_rfl) (by decide +kernel) (by decide +kernel) (by decide +kernel)
  (by first | exact .inl (by decide +kernel) | exact .inr (by decide +kernel)) (by rw [isSubtype_type]; kernel_rfl)
theorem type_bytes_split : typeOf (.builtin "bytes.split") = pure (.type "method_descriptor") := by show builtinType _ = _; rw [builtinType_eq_fast]; kernel_rfl
theorem entry_bytes_split : entryFor table "bytes.split" = some Builtin.«bytes.split» := entryFor_of_tree (by kernel_rfl)
theorem args_bytes_split (a b : Value) : argsOk "bytes.split" ⟨[a, b], []⟩ := by unfold argsOk; kernel_rfl
end FX
section
variable {c : Cx} {lo : Loc} {ob : Obs} {X : QT Addr} {Q : QT V}
theorem cut_bytes {value slice : Expr} {l : List Nat} {lo' hi' : Option Int} (hz : l.length ≤ 100000) (h : Q (.bytes (cut l lo' hi')) lo ob)
    (hs : ∀ b t k, subscripted slice false (.bytes b t) (.ref k) = operate [.ref k, .bytes b t] (getItem (.bytes b t) (.ref k)) := by intro _ _ _; with_unfolding_all rfl) (ht : ∀ b t r, letTemporaryGo value (.bytes b t) r = pure () := by intro _ _ _; with_unfolding_all rfl) : Cut c value slice (.bytes l) lo' hi' Q X lo ob := by
  rintro _ cl cu
  intro hgr143_0
  refine of_gen fun _ kg => ?_
  obtain ⟨b, t, rfl, rfl⟩ := hgr143_0
  refine kg ?_
  rintro pl pu z s
  intro hgr143_1
  refine of_gen fun _ kg => ?_
  obtain ⟨m, os, frs, n⟩ := hgr143_1
  refine kg ?_
  refine KBc.slice_K n.F n.N rfl pl.part pu.part (by rw [KBw.ints_length]; simp at hz; lia) (fun h' t' k F' N' e => ?_) (hs _ _ _) (ht _ _)
  exact LQ.bytes (picked_cut b lo' hi') ⟨m, os, frs, n.go (s' := { s with heap := h', toks := k }) F' N'⟩ h
theorem cut_bytes_nz {value slice : Expr} {l : List Nat} {j : Int} (hz : l.length ≤ 100000) (h : Q (.bytes (l.take (hiN l.length j))) lo ob)
    (hs : ∀ b t k, subscripted slice false (.bytes b t) (.ref k) = operate [.ref k, .bytes b t] (getItem (.bytes b t) (.ref k)) := by intro _ _ _; with_unfolding_all rfl) (ht : ∀ b t r, letTemporaryGo value (.bytes b t) r = pure () := by intro _ _ _; with_unfolding_all rfl) : Cut c value slice (.bytes l) none (some j) Q X lo ob :=
  cut_bytes hz (by rw [cut_upto]; exact h) hs ht
theorem eqd_bytes' {k : Nat} {x y : List Nat} : EqD c ob k (.bytes x) (.bytes y) (decide (x = y)) := by
  rintro z lo s n A hu _ _
  intro hgr153_0
  refine of_gen fun _ kg => ?_
  obtain ⟨b, t, rfl, rfl⟩ := hgr153_0
  refine kg ?_
  intro hgr153_1
  refine of_gen fun _ kg => ?_
  obtain ⟨b2, u, rfl, rfl⟩ := hgr153_1
  refine kg ?_
  rw [← bytes_beq]
  exact (eqg_bytes b b2 t u).at A s
theorem split_nlb {l : List Nat} (hz : l.length ≤ 1000) (h : ∀ D ws x, ws.length = nls l → x.length = tl l → ws.length ≤ 1000 → x.length ≤ 1000 → Q (.ref D) lo ((D, .list (ws ++ [V.bytes x])) :: ob)) : Cal c (.cv (.builtin "bytes.split")) [.bytes l, .bytes [10]] Q X lo ob := by
  rintro _ cs rfl hv z s
  intro hgr157_0
  refine of_gen fun _ kg => ?_
  obtain ⟨m, os, frs, n⟩ := hgr157_0
  refine kg ?_
  obtain ⟨_, _, rfl, ⟨b, t, rfl, rfl⟩, ⟨b2, u, rfl, hb2⟩⟩ := VRs2 hv
  cases b10 hb2
  rw [List.length_map, Array.length_toList] at hz
  have g2 := nls_le (b.toList.map (·.toNat))
  have g3 := tl_le (b.toList.map (·.toNat))
  rw [List.length_map, Array.length_toList] at g2 g3
  have hocc := occs_b b
  have hcnt : ((List.range b.size).filter (fun i => decide ((b.toList.map (·.toNat))[i]? = some 10))).length = nls (b.toList.map (·.toNat)) := by
    have := occs_len (b.toList.map (·.toNat))
    rw [List.length_map, Array.length_toList] at this
    exact this
  have hlast := filt_last (b.toList.map (·.toNat)) b.size (by simp)
  rw [List.take_of_length_le (by simp)] at hlast
  generalize (List.range b.size).filter (fun i => decide ((b.toList.map (·.toNat))[i]? = some 10)) = oc at *
  have hfew : oc.length ≤ b.size := by rw [hcnt]; exact g2
  refine callKw_meets (kw := []) (S := fun _ R s' => s' = s ∧ ∀ v s', LQ c z VR Q v s' → R (.ok (.ret v)) s') FX.slot_bytes_split (typeIs_bytes _ _ _) FX.entry_bytes_split (FX.args_bytes_split _ _) (.of_wp fun prog w A R s' hR => ?_) ⟨rfl, fun v s' h => h⟩
  obtain ⟨rfl, hR⟩ := hR
  show wpAny _ _ (Bytes.splitM .bytes "split" false _) _ _ _
  unfold Bytes.splitM
  dsimp only
  refine wpAny_bind (wpAny_of_eq (a := [some (Value.bytes #[10] u), none]) (by kernel_rfl) ?_)
  dsimp only
  refine wpAny_bind (wpAny_pure ?_)
  refine wpAny_bind (wpAny_of_eq (a := b) rfl ?_)
  refine wpAny_bind (wpAny_of_eq KBd.like_eq ?_)
  rw [if_neg (by decide)]
  simp only [Bool.false_eq_true, if_false, show ((-1 : Int) < 0) = True from by simp, if_true]
  rw [hocc, List.take_of_length_le (by lia)]
  by_cases h0 : oc = []
  · subst h0
    rw [if_pos (show ([] : List Nat).isEmpty = true from rfl)]
    refine wpAny_bind (wpAny_rule (wpAny_bind ?_))
    show wpAny _ _ (typeOf (.bytes b t) >>= fun ty => _) _ _ _
    refine wpAny_bind (wpAny_typeOf (typeIs_bytes _ b t) ?_)
    rw [if_pos (by decide)]
    refine wpAny_pure ?_
    refine wpAny_bind (wpAny_newList (wpAny_pure ⟨_, rfl, ?_⟩) (by show 1 ≤ sizeLine; decide))
    have e1 : tl (b.toList.map (·.toNat)) = (b.toList.map (·.toNat)).length := by
      have e : lastOf (b.toList.map (·.toNat)) = none := hlast.symm
      unfold lastOf at e
      split at e
      · assumption
      · cases e
    exact hR _ _ ⟨.ref _, lo, _, rfl, ⟨m, _, frs, n.push (b := .list [V.bytes (b.toList.map (·.toNat))]) ⟨[Value.bytes b t], 0, rfl, .one ⟨b, t, rfl, rfl⟩⟩ rfl⟩, h _ [] (b.toList.map (·.toNat)) (by rw [← hcnt]; rfl) e1.symm (Nat.zero_le _) (by simpa using hz)⟩
  · obtain ⟨c0, q, e⟩ : ∃ c0 q, oc = c0 ++ [q] := ⟨oc.dropLast, oc.getLast h0, (List.dropLast_concat_getLast _).symm⟩
    have hq : lastOf (b.toList.map (·.toNat)) = some q := by rw [← hlast, e]; simp
    have hq2 : q + 1 + tl (b.toList.map (·.toNat)) = b.size := by
      unfold lastOf at hq
      have hle := tl_le (b.toList.map (·.toNat))
      have hl : (b.toList.map (·.toNat)).length = b.size := by simp
      rw [hl] at hq hle
      split at hq
      · cases hq
      · cases hq; lia
    obtain ⟨r0, hr, hrl, hrz⟩ := between_last b c0 q
    rw [e] at hcnt ⊢
    rw [if_neg (by simp)]
    have e9 : (#[10] : Array UInt8).size = 1 := rfl
    rw [e9, hr]
    refine wpAny_bind (mapM_bytes _ _ _ (fun p hp => ?_) fun cs tk hvs => ?_)
    · rw [sizeLine_eq]
      rcases List.mem_append.mp hp with hp | hp
      · have := hrz p hp; lia
      · rw [List.mem_singleton.mp hp, Array.size_extract]; lia
    have hcl : cs.length = nls (b.toList.map (·.toNat)) + 1 := by
      rw [← hvs.length, List.length_map, List.length_append, hrl, ← hcnt]; simp
    refine wpAny_bind (wpAny_newList (wpAny_pure ⟨_, rfl, ?_⟩) (by rw [hcl, sizeLine_eq]; lia))
    rw [List.map_append, List.map_cons, List.map_nil] at hvs
    refine hR _ _ ⟨.ref _, lo, _, rfl, ⟨m, _, frs, n.push (b := .list _) ⟨cs, 0, rfl, hvs⟩ rfl⟩, ?_⟩
    refine h _ (r0.map fun p => V.bytes (p.toList.map (·.toNat))) _ ?_ ?_ ?_ ?_
    · rw [List.length_map, hrl, ← hcnt]; simp
    · rw [List.length_map, Array.length_toList, Array.size_extract]; lia
    · rw [List.length_map, hrl]
      have : (c0 ++ [q]).length = c0.length + 1 := by simp
      rw [← this, hcnt]; lia
    · rw [List.length_map, Array.length_toList, Array.size_extract]; lia
end
end Mine
end
section
open Builtin Builtin.Str
namespace Mine
section
variable {c : Cx} {lo : Loc} {ob : Obs} {X : QT Addr} {Q : QT V}
end
end Mine
end
section
namespace Mine
noncomputable def Nxt (P : Loc → Obs → Prop) : QT AF := fun f lo ob => f = .next ∧ Wkn P lo ob
theorem S_cut {c : Cx} {st : Stmt} {r : List Stmt} {Q : QT AF} {X : QT Addr} {lo : Loc} {ob : Obs} (P : Loc → Obs → Prop) (h : W c FR (exec st c.env) (Nxt P) X lo ob) (k : ∀ lo ob, P lo ob → W c FR (execs r c.env) Q X lo ob) : W c FR (execs (st :: r) c.env) Q X lo ob :=
  S_cons (h.mono (fun f lo ob q => by rw [q.1]; exact then_next (W.wkn (q.2.mono k))) fun _ _ _ x => x)
theorem Has.noneL {ns : Nms} {lo : Loc} {x : Str} {v : V} (h : Has ns lo x v) : lo.all (·.isNone) = true → False := by
  induction h with
  | here => exact nofun
  | @there x v p u ns lo _ ih => exact fun q => ih (Bool.and_eq_true_iff.mp ((List.all_cons (f := fun (x : Option V) => x.isNone)).symm.trans q)).2
theorem Has.first {ns : Nms} {lo : Loc} {x y : Str} {v w : V} (h : Has ((y, .local) :: ns) (some w :: lo) x v) (hn : lo.all (·.isNone) = true) : y = x ∧ w = v := by
  rcases h.inv with ⟨e1, e2⟩ | h
  · exact ⟨e1, Option.some.inj e2⟩
  · exact (h.noneL hn).elim
end Mine
end
section
namespace Mine

theorem runAt_zero {l : List Nat} {p c : Nat} (h : l[p]? = some c) (hc : c ≠ 92) : runAt l (p + 1) = 0 := by
  unfold runAt
  rw [h, if_neg (by simpa using hc)]
theorem runAt_more {l : List Nat} {p : Nat} (h : l[p]? = some 92) : runAt l (p + 1) = runAt l p + 1 := by
  conv => lhs; unfold runAt
  rw [h, if_pos rfl]
end Mine
end
section
namespace Mine

theorem tell_some {l : List Nat} {pos j : Nat} {s : List Nat} (h : nxt l pos = some (j, some s)) : ((j : Nat) : Int) - (s.length : Int) = ((pos : Nat) : Int) := by
  have := nxt_sign h
  lia
theorem tell_none {l : List Nat} {pos j : Nat} (h : nxt l pos = some (j, none)) : ((j : Nat) : Int) - (([] : List Nat).length : Int) = ((pos : Nat) : Int) := by
  have := nxt_none h
  simp; lia
end Mine
end
section
namespace Mine
end Mine
end
section
namespace Mine
theorem fnq_G {c : Cx} {t : Sem Flow} {R : V} {OB1 : Obs} {X : QT Addr} {lo : Loc} {ob : Obs} (h : ∀ TQ : QT AF, (∀ {v : V} {lo : Loc} {ob ob2 d : Obs}, Picks ob ob2 d → v = R → ob2 = OB1 → TQ (.ret v) lo ob) → (∀ {lo : Loc} {ob ob2 d : Obs}, Picks ob ob2 d → V.none = R → ob2 = OB1 → TQ .next lo ob) → W c FR t TQ X lo ob) :
    W c FR t (FnQ fun v ob => Frg (fun ob => v = R ∧ ob = OB1) ob) X lo ob :=
  h _ (fun p e1 e2 => fnq_ret (frg_intro p ⟨e1, e2⟩)) fun p e1 e2 => fnq_next (frg_intro p ⟨e1, e2⟩)
theorem fnx_any {c : Cx} {t : Sem Flow} {Q : QT AF} {X : QT Addr} {lo : Loc} {ob : Obs} (h : ∀ TQ : QT AF, (∀ f lo ob, Q f lo ob → TQ f lo ob) → ∀ XV : QT Addr, (∀ a lo ob, X a lo ob → XV a lo ob) → W c FR t TQ XV lo ob) : W c FR t Q X lo ob :=
  h _ (fun _ _ _ q => q) _ fun _ _ _ q => q
theorem fnx_anyA {c : Cx} {k : Code} {t : Sem Flow} {Q : QT AF} {X : QT Addr} {lo : Loc} {ob : Obs} (h : ∀ TQ : QT AF, (∀ f lo ob, Q f lo ob → TQ f lo ob) → WA c k FR t TQ X lo ob) : WA c k FR t Q X lo ob := h _ fun _ _ _ q => q
section
variable {P : Params} {f : List Nat → V} {K : List Nat → Prop} {n : Nat} {o o' : Obj} {prog prog' : Program} {w w' : World} {kvs : List (Str × Value)} {l : List Nat} {v : Value}
end
section
variable {c : Cx} {lo : Loc} {ob ob' : Obs} {X : QT Addr} {Q : QT V} {QF : QT AF} {a : Addr} {K : List Nat → Prop} {n : Nat} {l : List Nat}
end
end Mine
end
section
namespace Mine
noncomputable def ptV (t : Bool) (l : List Nat) : V := cond t (.str l) (.bytes l)
theorem handed_ptV (t : Bool) (l : List Nat) : handedV (ptV t l) = true := by cases t <;> rfl
noncomputable def plainE : V → Bool
  | .str _ => true
  | .bytes _ => true
  | .int _ => true
  | .none => true
  | _ => false
theorem plainE_pt (t : Bool) (l : List Nat) : plainE (ptV t l) = true := by cases t <;> rfl
section
variable {c : Cx} {lo : Loc} {ob ob' : Obs} {X : QT Addr} {Q : QT V} {a b : Addr} {vs : List V}
theorem eqds_sameE {k : Nat} : ∀ {vs : List V}, (∀ v ∈ vs, plainE v = true) → EqDs c ob k vs vs true
  | [], _ => eqds_nil
  | v :: r, h => by
    have hv : EqD c ob k v v true := by
      have h1 := h v (.head _)
      cases v with
      | str l => have := eqd_str (c := c) (ob := ob) (k := k) (x := l) (y := l); simpa using this
      | bytes l => have := eqd_bytes' (c := c) (ob := ob) (k := k) (x := l) (y := l); simpa using this
      | int i => have := eqd_int (c := c) (ob := ob) (k := k) (i := i) (j := i); simpa using this
      | none => exact eqd_nn
      | _ => exact absurd h1 (by simp [plainE])
    exact eqds_cons hv (eqds_sameE fun v hv => h v (.tail _ hv))
theorem plE_nil : ∀ v ∈ ([] : List V), plainE v = true := fun _ h => nomatch h
theorem plE_cons {v : V} (h : plainE v = true) (hr : ∀ v ∈ vs, plainE v = true) : ∀ w ∈ v :: vs, plainE w = true := fun w hw => (List.mem_cons.mp hw).elim (fun e => e ▸ h) (hr w)
end
end Mine
end
section
namespace Mine
section
variable {c : Cx} {lo lo1 : Loc} {ob oth d : Obs} {X : QT Addr} {Q : QT AF} {tg : Expr} {body : List Stmt} {a : Addr} {vs : List V} {α : Type}
noncomputable def Kept (I : α → Prop) (lo1 : Loc) (ob1 : α → Obs) : Loc → Obs → Prop := fun lo ob => ∃ x, I x ∧ lo = lo1 ∧ ob = ob1 x
theorem kept {I : α → Prop} {ob1 : α → Obs} (x : α) (l : LoS lo lo1) (p : Picks ob (ob1 x) d) (h : I x) : Wkn (Kept I lo1 ob1) lo ob := ⟨_, _, _, l, p, x, h, rfl, rfl⟩
theorem forW_X {items : List V} (I : Nat → α → Prop) (lo1 : Loc) (ob1 : α → Obs) {x : α} (h : I 0 x)
    (turn : ∀ k v x, items[k]? = some v → I k x → Asg c tg v (fun lo ob => W c FR (execs body c.env) (TurnQ (Kept (I (k + 1)) lo1 ob1) Q) X lo ob) X lo1 (ob1 x))
    (hend : ∀ x, I items.length x → Q .next lo1 (ob1 x)) : ForW c tg body Q X items lo1 (ob1 x) :=
  forW_inv (fun k => Kept (I k) lo1 ob1) (fun k v lo ob hv ⟨y, hy, e1, e2⟩ => by subst e1 e2; exact turn k v y hv hy) (fun lo ob ⟨y, hy, e1, e2⟩ => by subst e1 e2; exact hend y hy) ⟨x, h, rfl, rfl⟩
theorem For_rangeX {p q : Int} {n : Nat} (hh : c.B.handled = none) (hE : Passes c X) (h0 : 0 ≤ p) (h1 : q ≤ 100000) (hn : q - p = (n : Int)) (hp : Picks ob [(a, .rng p q)] oth)
    (I : Nat → α → Prop) (lo1 : Loc) (ob1 : α → Obs) (x : α) (hl : LoS lo lo1) (hp2 : Picks oth (ob1 x) d) (hI : I 0 x)
    (turn : ∀ k x, k < n → I k x → Asg c tg (.int (p + (k : Int))) (fun lo ob => W c FR (execs body c.env) (TurnQ (Kept (I (k + 1)) lo1 ob1) Q) X lo ob) X lo1 (ob1 x))
    (hend : ∀ x, I n x → Q .next lo1 (ob1 x)) : ForIn c (.ref a) tg body Q X lo ob := by
  refine For_range hh hE hp (small_one (by lia) (by lia) (by lia) (by lia)) (rsize hn) ⟨lo1, ob1 x, d, hl, hp2, forW_X I lo1 ob1 hI (fun k v x hv hI => ?_) (by rw [List.length_map, List.length_range]; exact hend)⟩
  rw [List.getElem?_map] at hv
  by_cases hk : k < n
  · rw [List.getElem?_range hk] at hv
    cases hv
    exact turn k x hk hI
  · rw [List.getElem?_eq_none (by simpa using hk)] at hv
    cases hv
theorem For_tupX (hh : c.B.handled = none) (hE : Passes c (fun e lo ob => X e lo (ob ++ [(a, .tup vs)]))) (hp : Picks ob [(a, .tup vs)] oth)
    (I : Nat → α → Prop) (lo1 : Loc) (ob1 : α → Obs) (x : α) (hl : LoS lo lo1) (hp2 : Picks oth (ob1 x) d) (hI : I 0 x)
    (turn : ∀ k v x, vs[k]? = some v → I k x → Asg c tg v (fun lo ob => W c FR (execs body c.env) (TurnQ (Kept (I (k + 1)) lo1 ob1) (fun f lo ob => Q f lo (ob ++ [(a, .tup vs)]))) (fun e lo ob => X e lo (ob ++ [(a, .tup vs)])) lo ob) (fun e lo ob => X e lo (ob ++ [(a, .tup vs)])) lo1 (ob1 x))
    (hend : ∀ x, I vs.length x → Q .next lo1 (ob1 x ++ [(a, .tup vs)])) : ForIn c (.ref a) tg body Q X lo ob :=
  For_tup hh hE hp ⟨lo1, ob1 x, d, hl, hp2, forW_X I lo1 ob1 hI turn hend⟩
theorem For_rangeG {p q : Int} {n : Nat} (hh : c.B.handled = none) (hE : Passes c X) (h0 : 0 ≤ p) (h1 : q ≤ 100000) (hn : q - p = (n : Int)) (hp : Picks ob [(a, .rng p q)] oth)
    (I : Nat → α → Prop) (lo1 : Loc) (ob1 : α → Obs) (x : α) (hl : LoS lo lo1) (hp2 : Picks oth (ob1 x) d) (hI : I 0 x)
    (turn : ∀ T : QT AF, ∀ k x, k < n → I k x → (∀ y (lo : Loc) (ob d : Obs), LoS lo lo1 → Picks ob (ob1 y) d → I (k + 1) y → T .next lo ob) → Asg c tg (.int (p + (k : Int))) (fun lo ob => W c FR (execs body c.env) T X lo ob) X lo1 (ob1 x))
    (hend : ∀ x, I n x → Q .next lo1 (ob1 x)) : ForIn c (.ref a) tg body Q X lo ob :=
  For_rangeX hh hE h0 h1 hn hp I lo1 ob1 x hl hp2 hI (fun k x hk hI => turn _ k x hk hI fun y lo ob d l p h => turn_next (kept y l p h)) hend
theorem For_rangeH {p q : Int} {pn qn : Nat} (hh : c.B.handled = none) (hE : Passes c X) (hpq : pn ≤ qn) (hq : qn ≤ 100000) (hp : Picks ob [(a, .rng p q)] oth) (ep : p = (pn : Int)) (eq : q = (qn : Int))
    (I : Nat → α → Prop) (lo1 : Loc) (ob1 : α → Obs) (x : α) (hl : LoS lo lo1) (hp2 : Picks oth (ob1 x) d) (hI : I 0 x)
    (turn : ∀ T : QT AF, ∀ k x, k < qn - pn → I k x → (∀ y (lo : Loc) (ob d : Obs), LoS lo lo1 → Picks ob (ob1 y) d → I (k + 1) y → T .next lo ob) → Asg c tg (.int ((pn + k : Nat) : Int)) (fun lo ob => W c FR (execs body c.env) T X lo ob) X lo1 (ob1 x))
    (hend : ∀ x, I (qn - pn) x → Q .next lo1 (ob1 x)) : ForIn c (.ref a) tg body Q X lo ob := by
  subst ep eq
  exact For_rangeG hh hE (Int.natCast_nonneg _) (Int.ofNat_le.mpr hq) (Int.ofNat_sub hpq).symm hp I lo1 ob1 x hl hp2 hI turn hend
theorem For_tupG (hh : c.B.handled = none) (hE : Passes c (fun e lo ob => X e lo (ob ++ [(a, .tup vs)]))) (hp : Picks ob [(a, .tup vs)] oth)
    (I : Nat → α → Prop) (lo1 : Loc) (ob1 : α → Obs) (x : α) (hl : LoS lo lo1) (hp2 : Picks oth (ob1 x) d) (hI : I 0 x)
    (turn : ∀ T : QT AF, ∀ k v x, vs[k]? = some v → I k x → (∀ y (lo : Loc) (ob d : Obs), LoS lo lo1 → Picks ob (ob1 y) d → I (k + 1) y → T .next lo ob) → Asg c tg v (fun lo ob => W c FR (execs body c.env) T (fun e lo ob => X e lo (ob ++ [(a, .tup vs)])) lo ob) (fun e lo ob => X e lo (ob ++ [(a, .tup vs)])) lo1 (ob1 x))
    (hend : ∀ x, I vs.length x → Q .next lo1 (ob1 x ++ [(a, .tup vs)])) : ForIn c (.ref a) tg body Q X lo ob :=
  For_tupX hh hE hp I lo1 ob1 x hl hp2 hI (fun k v x hv hI => turn _ k v x hv hI fun y lo ob d l p h => turn_next (kept y l p h)) hend
theorem S_cutG {st : Stmt} {r : List Stmt} (lo1 : Loc) (ob1 : Obs) (h : ∀ T : QT AF, (∀ (lo : Loc) (ob d : Obs), LoS lo lo1 → Picks ob ob1 d → T .next lo ob) → W c FR (exec st c.env) T X lo ob) (k : W c FR (execs r c.env) Q X lo1 ob1) : W c FR (execs (st :: r) c.env) Q X lo ob :=
  S_cut (fun lo ob => lo = lo1 ∧ ob = ob1) (h _ fun lo ob d l p => ⟨rfl, lo1, ob1, d, l, p, rfl, rfl⟩) (by rintro _ _ ⟨rfl, rfl⟩; exact k)
end
end Mine
end
section
namespace Mine
section
variable {prog : Program} {w : World} {A : Around} {E : Value → Shared → Prop} {s : Shared}
end
section
variable {prog : Program} {w : World} {K : Type} [DecidableEq K] {knd : KeyKind prog w K} {A : Around} {E : Value → Shared → Prop} {s : Shared} {a : Addr} {k : K} {x : Value} {o : Obj} {es : Array (Int × Value)} {ep : Nat} {t : SetTable}
end
section
variable {prog : Program} {w : World} {A : Around} {E : Value → Shared → Prop} {s : Shared} {l I S : Addr} {items : Array Value} {ls : List (List Nat)} {o : Obj}
end
section
variable {prog : Program} {w : World} {A : Around} {E : Value → Shared → Prop} {s : Shared} {l : Addr} {items : Array Value} {ls : List (List Nat)}
end
end Mine
end
section
namespace Mine
section
variable {c : Cx} {lo : Loc} {ob ob' : Obs} {X : QT Addr} {Q : QT V} {a b : Addr} {vs ws : List V} {cs : List (List Nat)} {i j : Int} {l : List Nat}
theorem add_lists {vs ws : List V} (ha : (a, .list vs) ∈ ob) (hb : (b, .list ws) ∈ ob) (hz : vs.length + ws.length ≤ 100000) (h : ∀ d, Q (.ref d) lo ((d, .list (vs ++ ws)) :: ob)) : Bin c .Add (.ref a) (.ref b) Q X lo ob := by
  rintro _ _ rfl rfl z s n0
  refine of_gen fun _ kg => ?_
  obtain ⟨m, os, frs, n⟩ := n0
  obtain ⟨o1, _, _, g1, xs, k1, rfl, r1⟩ := n.mem ha
  obtain ⟨o2, _, _, g2, ys, k2, rfl, r2⟩ := n.mem hb
  refine kg (PyProof.Rows.add_lists n.F n.N (vs := xs) (ws := ys) ⟨_, g1, rfl, _, rfl⟩ ⟨_, g2, rfl, _, rfl⟩ (fun h' F' N' => ?_) ?_)
  · exact ⟨.ref s.heap.objs.size, lo, _, rfl, ⟨m, _, frs, n.add (b := .list (vs ++ ws)) (s' := { s with heap := h' }) F' N' ⟨xs ++ ys, 0, rfl, r1.append r2⟩ fun p hp => Nat.ne_of_lt (n.frs_lt p hp)⟩, h _⟩
  · rw [← r1.length, ← r2.length, sizeLine_eq]; lia
end
end Mine
end
section
namespace Mine
section
variable {c : Cx} {lo : Loc} {ob : Obs} {X : QT Addr} {Q : QT V}
end
end Mine
end
section
namespace Mine
noncomputable def SgO (s : List Nat) : Prop := (∃ c, c ≠ 92 ∧ s = [c]) ∨ ∃ d, s = [92, d]
theorem SgO.pos {s : List Nat} (h : SgO s) : 1 ≤ s.length ∧ s.length ≤ 2 := by
  rcases h with ⟨c, _, rfl⟩ | ⟨d, rfl⟩ <;> exact ⟨Nat.le_of_ble_eq_true rfl, Nat.le_of_ble_eq_true rfl⟩
theorem mem_tw {α : Type} {p : α → Bool} {x : α} : ∀ {l : List α}, x ∈ l.takeWhile p → p x = true
  | [], h => by cases h
  | a :: r, h => by
    rw [List.takeWhile_cons] at h
    split at h
    · rcases List.mem_cons.mp h with rfl | h
      · assumption
      · exact mem_tw h
    · cases h
section
variable {F : List Nat} {b u k x : Nat}
end
theorem take_step {ss : List (List Nat)} {k : Nat} {s : List Nat} {r : List (List Nat)} (h : ss.drop k = s :: r) : k < ss.length ∧ ss.take (k + 1) = ss.take k ++ [s] ∧ ss.drop (k + 1) = r := by
  have hk : k < ss.length := by
    apply Decidable.byContradiction
    intro hn
    rw [List.drop_eq_nil_iff.mpr (Nat.le_of_not_lt hn)] at h
    cases h
  rw [List.drop_eq_getElem_cons hk] at h
  injection h with h1 h2
  exact ⟨hk, by rw [List.take_add_one, List.getElem?_eq_getElem hk, h1]; rfl, h2⟩
end Mine
end
section
namespace Mine
noncomputable def tlZ (e : Bool) : List (List Nat) := cond e [[92]] []
noncomputable def sgs : List Nat → List (List Nat)
  | [] => []
  | [c] => [[c]]
  | c :: d :: r => if c = 92 then [92, d] :: sgs r else [c] :: sgs (d :: r)
theorem sgs_cons {c : Nat} (h : c ≠ 92) (r : List Nat) : sgs (c :: r) = [c] :: sgs r := by
  cases r with
  | nil => rfl
  | cons d r => exact if_neg h
theorem sgs_two (d : Nat) (r : List Nat) : sgs (92 :: d :: r) = [92, d] :: sgs r := if_pos rfl
theorem sgs_ind {P : List Nat → Prop} (h0 : P []) (h1 : P [92]) (hc : ∀ c r, c ≠ 92 → P r → P (c :: r)) (h2 : ∀ d r, P r → P (92 :: d :: r)) : ∀ l, P l := by
  have key : ∀ n (l : List Nat), l.length ≤ n → P l := by
    intro n
    induction n with
    | zero => intro l h; cases l with
      | nil => exact h0
      | cons c r => cases h
    | succ n ih =>
      intro l h
      cases l with
      | nil => exact h0
      | cons c r =>
        by_cases e : c = 92
        · subst e
          cases r with
          | nil => exact h1
          | cons d r => exact h2 d r (ih r (Nat.le_of_succ_le (Nat.le_of_succ_le_succ h)))
        · exact hc c r e (ih r (Nat.le_of_succ_le_succ h))
  exact fun l => key _ l (Nat.le_refl _)
theorem sgs_split : ∀ l : List Nat, ∃ ss e, (∀ s ∈ ss, SgO s) ∧ sgs l = ss ++ tlZ e ∧ l = ss.flatten ++ (tlZ e).flatten := by
  refine sgs_ind ⟨[], false, fun _ h => (nomatch h), rfl, rfl⟩ ⟨[], true, fun _ h => (nomatch h), rfl, rfl⟩ ?_ ?_
  · rintro c r h ⟨ss, e, g, e1, e2⟩
    refine ⟨[c] :: ss, e, fun s hs => ?_, by rw [sgs_cons h, e1]; rfl, by rw [List.flatten_cons, List.append_assoc, ← e2]; rfl⟩
    rcases List.mem_cons.mp hs with rfl | hs
    · exact .inl ⟨c, h, rfl⟩
    · exact g s hs
  · rintro d r ⟨ss, e, g, e1, e2⟩
    refine ⟨[92, d] :: ss, e, fun s hs => ?_, by rw [sgs_two, e1]; rfl, by rw [List.flatten_cons, List.append_assoc, ← e2]; rfl⟩
    rcases List.mem_cons.mp hs with rfl | hs
    · exact .inr ⟨d, rfl⟩
    · exact g s hs
theorem sgs_flat : ∀ l : List Nat, (sgs l).flatten = l := by
  intro l
  obtain ⟨ss, e, _, e1, e2⟩ := sgs_split l
  rw [e1, List.flatten_append, ← e2]
theorem sgs_len : ∀ l : List Nat, (sgs l).length ≤ l.length := by
  refine sgs_ind (Nat.le_refl _) (Nat.le_refl _) (fun c r h ih => ?_) fun d r ih => ?_
  · rw [sgs_cons h]; exact Nat.succ_le_succ ih
  · rw [sgs_two]; exact Nat.le_succ_of_le (Nat.succ_le_succ ih)
noncomputable def plc (ss : List (List Nat)) : List Nat := (List.range (ss.length + 1)).map fun j => (ss.take j).flatten.length
noncomputable def plcFrom (a : Nat) : List (List Nat) → List Nat
  | [] => [a]
  | s :: r => a :: plcFrom (a + s.length) r
theorem plcFrom_eq : ∀ (ss : List (List Nat)) (a : Nat), plcFrom a ss = (plc ss).map (a + ·)
  | [], a => by unfold plcFrom plc; simp
  | s :: r, a => by
    unfold plcFrom
    rw [plcFrom_eq r, plc, plc, List.length_cons, List.range_succ_eq_map (n := r.length + 1)]
    simp only [List.map_cons, List.map_map, List.take_zero, List.flatten_nil, List.length_nil, Nat.add_zero]
    congr 1
    refine List.map_congr_left fun j _ => ?_
    simp only [Function.comp, Nat.succ_eq_add_one, List.take_succ_cons, List.flatten_cons, List.length_append]
    omega
theorem plc_eq (ss : List (List Nat)) : plc ss = plcFrom 0 ss := by
  rw [plcFrom_eq]
  simp
noncomputable def stF (l : List Nat) (a n : Nat) : List Nat := (List.range' a n).filter fun p => runAt l p % 2 = 0
theorem stF_cons {l : List Nat} {a n : Nat} (h : runAt l a % 2 = 0) : stF l a (n + 1) = a :: stF l (a + 1) n := by
  unfold stF; rw [List.range'_succ, List.filter_cons_of_pos (by simpa using h)]
theorem stF_skip {l : List Nat} {a n : Nat} (h : ¬ runAt l a % 2 = 0) : stF l a (n + 1) = stF l (a + 1) n := by
  unfold stF; rw [List.range'_succ, List.filter_cons_of_neg (by simpa using h)]
theorem stF_all (l : List Nat) : startsTo l l.length = stF l 0 l.length := by
  unfold startsTo stF
  rw [List.range_eq_range']
theorem starts_plc (l : List Nat) : ∀ r : List Nat, ∀ a, l.drop a = r → runAt l a % 2 = 0 → stF l a r.length ++ [a + r.length] = plcFrom a (sgs r) := by
  refine sgs_ind ?_ ?_ ?_ ?_
  · intro a _ _; rfl
  · intro a _ h
    show stF l a (0 + 1) ++ [a + 1] = [a, a + 1]
    rw [stF_cons h]; rfl
  · intro c r hc ih a e h
    have e1 : l[a]? = some c := by
      have := congrArg (·[0]?) e
      simpa using this
    have e2 : l.drop (a + 1) = r := by
      rw [← List.drop_drop, e]; rfl
    have h2 : runAt l (a + 1) % 2 = 0 := by rw [runAt_zero e1 hc]
    rw [sgs_cons hc, List.length_cons, stF_cons h]
    show a :: (stF l (a + 1) r.length ++ [a + (r.length + 1)]) = a :: plcFrom (a + 1) (sgs r)
    rw [← ih (a + 1) e2 h2, show a + (r.length + 1) = a + 1 + r.length by omega]
  · intro d r ih a e h
    have e1 : l[a]? = some 92 := by
      have := congrArg (·[0]?) e
      simpa using this
    have e1' : l[a + 1]? = some d := by
      have := congrArg (·[1]?) e
      simpa using this
    have e2 : l.drop (a + 2) = r := by
      rw [← List.drop_drop, e]; rfl
    have h1 : ¬ runAt l (a + 1) % 2 = 0 := by rw [runAt_more e1]; omega
    have h2 : runAt l (a + 2) % 2 = 0 := by
      by_cases hd : d = 92
      · rw [show a + 2 = a + 1 + 1 from rfl, runAt_more (by rw [e1', hd]), runAt_more e1]; omega
      · rw [show a + 2 = a + 1 + 1 from rfl, runAt_zero e1' hd]
    rw [sgs_two, List.length_cons, List.length_cons, stF_cons h, stF_skip h1]
    show a :: (stF l (a + 2) r.length ++ [a + (r.length + 2)]) = a :: plcFrom (a + 2) (sgs r)
    rw [← ih (a + 2) e2 h2, show a + (r.length + 2) = a + 2 + r.length by omega]
theorem starts_cuts (l : List Nat) : startsTo l l.length ++ [l.length] = plc (sgs l) := by
  have h := starts_plc l l 0 List.drop_zero rfl
  rw [Nat.zero_add] at h
  rw [stF_all, plc_eq, h]
theorem plc_len (ss : List (List Nat)) : (plc ss).length = ss.length + 1 := by unfold plc; rw [List.length_map, List.length_range]
theorem plc_at {ss : List (List Nat)} {j : Nat} (h : j ≤ ss.length) : (plc ss)[j]? = some (ss.take j).flatten.length := by
  unfold plc
  rw [List.getElem?_map, List.getElem?_range (Nat.lt_succ_of_le h)]
  rfl
theorem zip_cut : ∀ (ss : List (List Nat)) (a : Nat) (l : List Nat), l.drop a = ss.flatten → ((plcFrom a ss).zip (plcFrom a ss).tail).map (fun p => (l.drop p.1).take (p.2 - p.1)) = ss
  | [], a, l, _ => rfl
  | s :: r, a, l, e => by
    have e2 : l.drop (a + s.length) = r.flatten := by rw [← List.drop_drop, e, List.flatten_cons, List.drop_left]
    have ih := zip_cut r (a + s.length) l e2
    have hh : plcFrom (a + s.length) r = (a + s.length) :: (plcFrom (a + s.length) r).tail := by cases r <;> rfl
    show ((a :: plcFrom (a + s.length) r).zip (plcFrom (a + s.length) r)).map _ = _
    rw [hh, List.zip_cons_cons, List.map_cons, ← hh, ih]
    congr 1
    show (l.drop a).take (a + s.length - a) = s
    rw [e, List.flatten_cons, Nat.add_sub_cancel_left, List.take_left]
theorem zip_sgs (l : List Nat) : ((plc (sgs l)).zip (plc (sgs l)).tail).map (fun p => (l.drop p.1).take (p.2 - p.1)) = sgs l := by
  rw [plc_eq]
  exact zip_cut (sgs l) 0 l (by rw [List.drop_zero, sgs_flat])
structure TkZ (l : List Nat) (ss : List (List Nat)) (e : Bool) (i : Nat) (o : Option (List Nat)) (p : Nat) : Prop where
  g : ∀ s ∈ ss, SgO s
  w : l.drop p = ss.flatten ++ (tlZ e).flatten
  z : p ≤ l.length
  n : nxt l p = some (i, o)
  ne : e = true → ss ≠ []
theorem tkz_mk {l : List Nat} {ss : List (List Nat)} {e : Bool} {p : Nat} (g : ∀ s ∈ ss, SgO s) (he : l.drop p = ss.flatten ++ (tlZ e).flatten) (z : p ≤ l.length) (ne : e = true → ss ≠ []) : ∃ i o, TkZ l ss e i o p := by
  have hd : ∀ k, l[p + k]? = (ss.flatten ++ (tlZ e).flatten)[k]? := fun k => by rw [← he, List.getElem?_drop]
  cases ss with
  | nil =>
    cases e with
    | true => exact absurd rfl (ne rfl)
    | false =>
      have h0 := hd 0
      refine ⟨p, none, g, he, z, ?_, ne⟩
      unfold nxt
      rw [Nat.add_zero] at h0
      rw [h0]; rfl
  | cons s r =>
    have h0 := hd 0
    have h1 := hd 1
    rw [Nat.add_zero] at h0
    rcases g s (.head _) with ⟨c, hc, rfl⟩ | ⟨d, rfl⟩
    · refine ⟨p + 1, some [c], g, he, z, ?_, ne⟩
      unfold nxt
      rw [h0]
      exact if_neg hc
    · refine ⟨p + 2, some [92, d], g, he, z, ?_, ne⟩
      unfold nxt
      rw [h0]
      dsimp only [List.flatten_cons, List.cons_append, List.getElem?_cons_zero]
      rw [if_pos rfl, h1]
      rfl
section
variable {l s : List Nat} {ss : List (List Nat)} {e : Bool} {i p : Nat} {o : Option (List Nat)}
theorem tkz_nil (h : TkZ l [] e i o p) : e = false ∧ o = none ∧ i = p ∧ p = l.length := by
  have he : e = false := by
    cases e with
    | true => exact absurd rfl (h.ne rfl)
    | false => rfl
  subst he
  have e := h.w
  have hn := h.n
  have hp : l.length ≤ p := List.drop_eq_nil_iff.mp e
  unfold nxt at hn
  rw [List.getElem?_eq_none hp] at hn
  cases hn
  exact ⟨rfl, rfl, rfl, Nat.le_antisymm h.z hp⟩
theorem tkz_cons (h : TkZ l (s :: ss) e i o p) : o = some s ∧ i = p + s.length ∧ i ≤ l.length ∧ SgO s ∧ (e = true ∧ ss = [] ∧ nxt l i = none ∨ ∃ i' o', nxt l i = some (i', o') ∧ TkZ l ss e i' o' i) := by
  have hd : ∀ k, l[p + k]? = ((s :: ss).flatten ++ (tlZ e).flatten)[k]? := fun k => by rw [← h.w, List.getElem?_drop]
  have hn := h.n
  have hs : SgO s := h.g s (.head _)
  have key : o = some s ∧ i = p + s.length := by
    have h0 := hd 0
    have h1 := hd 1
    rw [Nat.add_zero] at h0
    unfold nxt at hn
    rw [h0] at hn
    rcases hs with ⟨c, hc, rfl⟩ | ⟨d, rfl⟩
    · dsimp only [List.flatten_cons, List.cons_append, List.getElem?_cons_zero] at hn
      rw [if_neg hc] at hn
      cases hn
      exact ⟨rfl, rfl⟩
    · dsimp only [List.flatten_cons, List.cons_append, List.getElem?_cons_zero] at hn
      rw [if_pos rfl, h1] at hn
      cases hn
      exact ⟨rfl, rfl⟩
  obtain ⟨rfl, rfl⟩ := key
  have e2 : l.drop (p + s.length) = ss.flatten ++ (tlZ e).flatten := by
    rw [← List.drop_drop, h.w, List.flatten_cons, List.append_assoc, List.drop_left]
  have hz : p + s.length ≤ l.length := by
    have q := congrArg List.length h.w
    rw [List.length_drop, List.flatten_cons, List.length_append, List.length_append] at q
    have := h.z
    omega
  refine ⟨rfl, rfl, hz, hs, ?_⟩
  by_cases hne : e = true → ss ≠ []
  · obtain ⟨i', o', H⟩ := tkz_mk (fun t ht => h.g t (.tail _ ht)) e2 hz hne
    exact .inr ⟨i', o', H.n, H⟩
  · left
    have he : e = true := by
      cases e with
      | true => rfl
      | false => exact absurd (fun h => nomatch h) hne
    subst he
    have hss : ss = [] := Decidable.not_not.mp fun h => hne fun _ => h
    subst hss
    refine ⟨rfl, rfl, ?_⟩
    have h0 : l[p + s.length]? = some 92 := by
      have := congrArg (·[0]?) e2
      simp only [List.getElem?_drop, Nat.add_zero] at this
      exact this
    have h1 : l[p + s.length + 1]? = none := by
      have := congrArg (·[1]?) e2
      simp only [List.getElem?_drop] at this
      exact this
    unfold nxt
    rw [h0]
    dsimp only
    rw [if_pos rfl, h1]
theorem tkz_one {i' p' : Nat} {o' : Option (List Nat)} (h : TkZ l ss e i o p) (h' : TkZ l ss e i' o' p') : i = i' ∧ o = o' ∧ p = p' := by
  have e : p = p' := by
    have a := congrArg List.length h.w
    have b := congrArg List.length h'.w
    rw [List.length_drop] at a b
    have := h.z
    have := h'.z
    omega
  subst e
  have := h.n.symm.trans h'.n
  cases this
  exact ⟨rfl, rfl, rfl⟩
theorem tkz_le (h : TkZ l ss e i o p) : i ≤ l.length := by
  cases ss with
  | nil => rw [(tkz_nil h).2.2.1]; exact h.z
  | cons s ss => exact (tkz_cons h).2.2.1
theorem tkz_at {l : List Nat} {ss : List (List Nat)} {e : Bool} (g : ∀ s ∈ ss, SgO s) (he : l = ss.flatten ++ (tlZ e).flatten) {j : Nat} (hj : j ≤ ss.length) (ne : e = true → j < ss.length) : ∃ i o, TkZ l (ss.drop j) e i o (ss.take j).flatten.length := by
  have e1 : ss.flatten = (ss.take j).flatten ++ (ss.drop j).flatten := by rw [← List.flatten_append, List.take_append_drop]
  refine tkz_mk (fun s hs => g s (List.mem_of_mem_drop hs)) ?_ ?_ fun h hn => ?_
  · rw [he, e1, List.append_assoc, List.drop_left]
  · rw [he, e1, List.append_assoc, List.length_append]; exact Nat.le_add_right _ _
  · have := ne h
    rw [List.drop_eq_nil_iff] at hn
    exact Nat.lt_irrefl _ (Nat.lt_of_lt_of_le this hn)
end
noncomputable def gwM (hd : List Nat → Bool) (n : Nat) (ss : List (List Nat)) : Nat := ((ss.take n).takeWhile hd).length
theorem gwM_le {hd : List Nat → Bool} {n : Nat} {ss : List (List Nat)} : gwM hd n ss ≤ n ∧ gwM hd n ss ≤ ss.length := by
  unfold gwM
  have h1 := (List.takeWhile_sublist (l := ss.take n) hd).length_le
  rw [List.length_take] at h1
  omega
theorem gwM_stop {hd : List Nat → Bool} {ss : List (List Nat)} {n k : Nat} (hk : k ≤ n) (hs : k ≤ ss.length) (ha : ∀ s ∈ ss.take k, hd s = true) (hb : k = n ∨ ∀ s r, ss.drop k = s :: r → hd s = false) : gwM hd n ss = k := by
  unfold gwM
  have e : ss.take n = ss.take k ++ (ss.drop k).take (n - k) := by
    rw [← List.take_append_drop k (ss.take n), List.take_take, Nat.min_eq_left hk, List.drop_take]
  rw [e, List.takeWhile_append_of_pos ha, List.length_append, List.length_take, Nat.min_eq_left hs]
  have : ((ss.drop k).take (n - k)).takeWhile hd = [] := by
    rcases hb with rfl | hb
    · rw [Nat.sub_self]; rfl
    · cases hd' : ss.drop k with
      | nil => rw [List.take_nil]; rfl
      | cons s r =>
        cases hm : n - k with
        | zero => rfl
        | succ m =>
          rw [List.take_succ_cons, List.takeWhile_cons_of_neg]
          rw [hb s r hd']; exact Bool.false_ne_true
  rw [this]
  rfl
end Mine
end
section
namespace Mine
section
variable {c : Cx} {lo : Loc} {ob : Obs} {X : QT Addr} {Q : QT V}
end
end Mine
end
section
namespace Mine
section
variable {c : Cx} {z z' : List (Addr × Obj)} {lo : Loc} {ob oth keep : Obs} {X : QT Addr} {s s' : Shared}
theorem perm_in (os rest zi z : List (Addr × Obj)) : (os ++ (rest ++ (zi ++ z))).Perm (zi ++ (os ++ (rest ++ z))) :=
  ((List.perm_append_comm_assoc rest zi z).append_left os).trans (List.perm_append_comm_assoc os zi (rest ++ z))
theorem Now.swaps {zi : List (Addr × Obj)} {wr : List Addr} (n : Now c (zi ++ z) lo ob s) (hw : ∀ b ∈ wr, b ∈ zi.map (·.1)) (hk : ∀ b o, b ∉ wr → s.heap.get? b = some o → s'.heap.get? b = some o) (hI : ∀ b ∈ wr, ∃ o, s'.heap.get? b = some o) (hog : Og s s' := by exact ⟨rfl, rfl⟩) :
    ∃ zi', zi'.map (·.1) = zi.map (·.1) ∧ Now c (zi' ++ z) lo ob s' := by
  refine of_gen fun _ kg => ?_
  obtain ⟨m, os, frs, n⟩ := n
  refine kg ?_
  have em : (zi.map fun p => (p.1, (s'.heap.get? p.1).getD p.2)).map (·.1) = zi.map (·.1) := by rw [List.map_map]; rfl
  have hz : ∀ b ∈ zi.map (·.1), b ≠ c.L ∧ c.g.hb.get? b = none := fun b hb => by
    obtain ⟨p, hp, rfl⟩ := List.mem_map.mp hb
    exact (n.N p (List.mem_append_right _ (List.mem_append_left _ (List.mem_append_right _ (List.mem_append_left _ hp))))).2
  have hnd := ((perm_in os c.rest zi z).map (·.1)).nodup_iff.mp n.nd
  rw [List.map_append] at hnd
  have hdis : ∀ q ∈ os ++ (c.rest ++ z), q.1 ∉ wr := fun q hq hm => (List.nodup_append.mp hnd).2.2 _ (hw _ hm) _ (List.mem_map_of_mem hq) rfl
  have hdf : ∀ q ∈ frs, q.1 ∉ wr := fun q hq hm => by
    obtain ⟨p, hp, e⟩ := List.mem_map.mp (hw _ hm)
    exact n.apt p (List.mem_append_right _ (List.mem_append_right _ (List.mem_append_left _ hp))) q hq e.symm
  have e : (os ++ (c.rest ++ ((zi.map fun p => (p.1, (s'.heap.get? p.1).getD p.2)) ++ z))).map (·.1) = (os ++ (c.rest ++ (zi ++ z))).map (·.1) := by
    simp only [List.map_append, em]
  refine ⟨zi.map fun p => (p.1, (s'.heap.get? p.1).getD p.2), em, m, os, frs, ⟨n.F.ns.at' fun o e => hk _ o (fun hm => (hz _ (hw _ hm)).1 rfl) e, fun b o e => hk b o (fun hm => ?_) (n.F.keep b o e), n.F.above⟩, n.lr, n.rs, fun p hp => ?_, e ▸ n.nd, n.fm, e ▸ n.ap, hog.tr n.og⟩
  · rw [(hz _ (hw _ hm)).2] at e; cases e
  · have old : ∀ p, p.1 ∉ wr → p ∈ os ++ ((c.rest ++ (zi ++ z)) ++ frs) → s'.heap.get? p.1 = some p.2 ∧ p.1 ≠ c.L ∧ c.g.hb.get? p.1 = none := fun p h1 h2 => ⟨hk _ _ h1 (n.N p h2).1, (n.N p h2).2⟩
    simp only [List.mem_append] at hp
    rcases hp with h | (h | h | h) | h
    · exact old p (hdis p (by simp [h])) (by simp [h])
    · exact old p (hdis p (by simp [h])) (by simp [h])
    · obtain ⟨q, hq, rfl⟩ := List.mem_map.mp h
      refine ⟨?_, hz q.1 (List.mem_map_of_mem hq)⟩
      by_cases hm : q.1 ∈ wr
      · obtain ⟨o, ho⟩ := hI _ hm
        show s'.heap.get? q.1 = some ((s'.heap.get? q.1).getD q.2)
        rw [ho]; rfl
      · have := hk _ _ hm (n.N q (by simp [hq])).1
        show s'.heap.get? q.1 = some ((s'.heap.get? q.1).getD q.2)
        rw [this]; rfl
    · exact old p (hdis p (by simp [h])) (by simp [h])
    · exact old p (hdf p h) (by simp [h])
theorem Now.drops {zi : List (Addr × Obj)} {wr : List Addr} (n : Now c (zi ++ z) lo ob s) (hw : ∀ b ∈ wr, b ∈ zi.map (·.1)) (hk : ∀ b o, b ∉ wr → s.heap.get? b = some o → s'.heap.get? b = some o) (hog : Og s s' := by exact ⟨rfl, rfl⟩) : Now c z lo ob s' := by
  refine of_gen fun _ kg => ?_
  obtain ⟨m, os, frs, n⟩ := n
  refine kg ?_
  have hz : ∀ b ∈ zi.map (·.1), b ≠ c.L ∧ c.g.hb.get? b = none := fun b hb => by
    obtain ⟨p, hp, rfl⟩ := List.mem_map.mp hb
    exact (n.N p (List.mem_append_right _ (List.mem_append_left _ (List.mem_append_right _ (List.mem_append_left _ hp))))).2
  have hnd := ((perm_in os c.rest zi z).map (·.1)).nodup_iff.mp n.nd
  rw [List.map_append] at hnd
  have hdis : ∀ q ∈ os ++ (c.rest ++ z), q.1 ∉ wr := fun q hq hm => (List.nodup_append.mp hnd).2.2 _ (hw _ hm) _ (List.mem_map_of_mem hq) rfl
  have hdf : ∀ q ∈ frs, q.1 ∉ wr := fun q hq hm => by
    obtain ⟨p, hp, e⟩ := List.mem_map.mp (hw _ hm)
    exact n.apt p (List.mem_append_right _ (List.mem_append_right _ (List.mem_append_left _ hp))) q hq e.symm
  have n2 := NowAt.less (a := zi) n
  refine ⟨m, os, frs, ⟨n2.F.ns.at' fun o e => hk _ o (fun hm => (hz _ (hw _ hm)).1 rfl) e, fun b o e => hk b o (fun hm => ?_) (n2.F.keep b o e), n2.F.above⟩, n2.lr, n2.rs, fun p hp => ⟨hk _ _ ?_ (n2.N p hp).1, (n2.N p hp).2⟩, n2.nd, n2.fm, n2.ap, hog.tr n2.og⟩
  · rw [(hz _ (hw _ hm)).2] at e; cases e
  · simp only [List.mem_append] at hp
    rcases hp with h | (h | h) | h
    · exact hdis p (by simp [h])
    · exact hdis p (by simp [h])
    · exact hdis p (by simp [h])
    · exact hdf p h
end
inductive NamesE : List Expr → List Str → Prop
  | nil : NamesE [] []
  | cons {x p es xs} : NamesE es xs → NamesE (.Name x p :: es) (x :: xs)
theorem NamesE.each {es : List Expr} {xs : List Str} (h : NamesE es xs) (env : Env) : (assignEach es env).length = xs.length ∧ (assignEach es env).findIdx? (·.1) = none := by
  induction h with
  | nil => exact ⟨rfl, rfl⟩
  | @cons x p es xs h ih =>
    have e : assignEach (.Name x p :: es) env = (false, assign (.Name x p) env) :: assignEach es env := rfl
    rw [e]
    exact ⟨congrArg Nat.succ ih.1, by rw [List.findIdx?_cons, ih.2]; rfl⟩
theorem assign_names {M : Model} {A : Around} {E : Value → Shared → Prop} {env : Env} {es : List Expr} {xs : List Str} (h : NamesE es xs) (hx : ∀ x ∈ xs, env.kindOf x = some .local) (hp : (env.scope.kind == .class || (env.scope.kind == .module && env.locals != env.globals)) = false) :
    ∀ {vals : List Value} {s : Shared} {m : Str → Option Value} {Q : Unit → Shared → Prop}, vals.length = xs.length → s.heap.Ns env.locals m →
      (∀ h' tk m', h'.Ns env.locals m' → (∀ y, y ∉ xs → m' y = m y) → (xs.Nodup → ∀ p ∈ xs.zip vals, m' p.1 = some p.2) → (∀ b o, b ≠ env.locals → s.heap.get? b = some o → h'.get? b = some o) → Q () { s with heap := h', toks := tk }) →
      wpAny M A (assignInOrder ((assignEach es env).map (·.2)) vals) Q E s := by
  induction h with
  | nil =>
    intro vals s m Q hz hn hQ
    exact assignInOrder_nil (hQ s.heap s.toks m hn (fun _ _ => rfl) (fun _ p hp => nomatch hp) fun _ _ _ e => e)
  | @cons x p es xs h ih =>
    intro vals s m Q hz hn hQ
    cases vals with
    | nil => cases hz
    | cons v vals =>
      have e : (assignEach (.Name x p :: es) env).map (·.2) = assign (.Name x p) env :: (assignEach es env).map (·.2) := rfl
      rw [e]
      refine assignInOrder_cons (wpAny_assign_Name (wpAny_storeName_local (hx x (.head _)) hn (fun h1 hn1 hs1 => ?_) hp))
      refine ih (fun y hy => hx y (.tail _ hy)) (Nat.succ.inj hz) hn1 fun h2 tk m' hm1 hm2 hm3 hk => ?_
      refine hQ h2 tk m' hm1 (fun y hy => ?_) (fun hnd q hq => ?_) fun b o hb e => hk b o hb (hs1.extBut b o hb e)
      · rw [hm2 y fun hm => hy (.tail _ hm)]
        show (if y = x then some v else m y) = m y
        rw [if_neg fun e => hy (by rw [e]; exact .head _)]
      · obtain ⟨hx1, hx2⟩ := List.nodup_cons.mp hnd
        rcases List.mem_cons.mp hq with rfl | hq
        · rw [hm2 x hx1]; exact if_pos rfl
        · exact hm3 hx2 q hq
theorem compLoop_testsT {prog : Program} {w : World} {A : Around} {s : Shared} {elt iter : Expr} {ifs elts : List Expr} {x1 : Nat} {tp : Pos} {scope : Scope} {pos : Pos} {it acc : Value} {env : Env} {R : Result → Shared → Prop} (I : Nat → Shared → Prop)
    (turn : ∀ n s, I n s → wpAny (model prog w) A (pyNext it) (fun r s₁ => match r with
      | none => R (.ok .next) s₁
      | some v => wpAny (model prog w) A (letOwnedTupleGo (.Tuple elts x1 tp) it v) (fun _ s₁' => wpAny (model prog w) A (assign (.Tuple elts x1 tp) env v) (fun _ s₂ =>
          wpAny (model prog w) A (forIn ifs true fun c r => if r = true then do let ok ← isTrue c env (eval c env); pure (ForInStep.yield ok) else pure (ForInStep.yield r)) (fun ok s₃ =>
            if ok = true then wpAny (model prog w) A (eval elt env) (fun x s₄ =>
              wpAny (model prog w) A (call (.builtin "list.append") [acc, x]) (fun _ s₅ => ∃ m, m < n ∧ I m s₅) (notedBy (model prog w) A env fun e s' => R (.error e) s') s₄) (notedBy (model prog w) A env fun e s' => R (.error e) s') s₃
            else ∃ m, m < n ∧ I m s₃) (notedBy (model prog w) A env fun e s' => R (.error e) s') s₂) (notedBy (model prog w) A env fun e s' => R (.error e) s') s₁') (notedBy (model prog w) A env fun e s' => R (.error e) s') s₁) (notedBy (model prog w) A env fun e s' => R (.error e) s') s)
    (n : Nat) (h : I n s) : codeAny (model prog w) A (.compLoop (.ListComp elt [⟨.Tuple elts x1 tp, iter, ifs, 0⟩] scope pos) 0 it acc env) R s := by
  refine codeAny_loop rfl I (fun n s hI => ?_) n h
  show wpAny _ A ((compTurn (.ListComp elt [⟨.Tuple elts x1 tp, iter, ifs, 0⟩] scope pos) 0 it acc env).onRaise (fun x => do noteFrame x env; theTreesLotGoes x)) _ _ s
  refine wpAny_noted ?_
  rw [compTurn_list]
  refine wpAny_bind (wpAny_standAt (wpAny_bind (wpAny_mono (turn n s hI) (fun r s₁ h₁ => ?_) fun _ _ h' => h')))
  cases r with
  | none => exact wpAny_pure h₁
  | some v =>
    refine wpAny_bind (wpAny_mono h₁ (fun _ s₁' h₁' => ?_) fun _ _ h' => h')
    refine wpAny_bind (wpAny_mono h₁' (fun _ s₂ h₂ => wpAny_bind (wpAny_mono h₂ (fun ok s₃ h₃ => ?_) fun _ _ h' => h')) fun _ _ h' => h')
    cases ok with
    | false => exact wpAny_pure ⟨rfl, h₃⟩
    | true =>
      exact wpAny_bind (wpAny_bind (wpAny_mono h₃ (fun x s₄ h₄ => wpAny_bind (wpAny_mono h₄ (fun _ s₅ h₅ => wpAny_pure (wpAny_pure ⟨rfl, h₅⟩)) fun _ _ h' => h')) fun _ _ h' => h'))
structure IterT (c : Cx) (z : List (Addr × Obj)) (rows : List (List V)) (fa : List Addr) (I : Addr) (St : Nat → Heap → Prop) : Prop where
  wk : ∃ fp wr Pt Mid, WalksU c.g.prog c.g.w c.B I fp wr rows.length Pt St Mid ∧ (∀ i vals, i < rows.length → Pt i vals → ∃ vs, rows[i]? = some vs ∧ VRs vs vals.toList) ∧ (∀ b ∈ wr, b ∈ fa) ∧
    (∀ b ∈ fp, b ∈ fa ∨ (∃ o, (b, o) ∈ z) ∨ ∃ o, c.g.hb.get? b = some o) ∧ (∀ i T h, Mid i T h → ∀ b ∈ wr, ∃ o, h.get? b = some o) ∧ ∀ i h, St i h → ∀ b ∈ wr, ∃ o, h.get? b = some o
noncomputable def CompT (c : Cx) (elt : Expr) (ifs : List Expr) (xs : List Str) (ns' : Nms) (QF : List V → Loc → Obs → Prop) : List (List V) → List V → Loc → Obs → Prop
  | [], acc, lo, ob => QF acc lo ob
  | v :: vs, acc, lo, ob => ∀ c' : Cx, c'.Ok → c'.g = c.g → c'.ns = c.ns → c'.env.scope.names = ns' → c'.cv = some (xs.zip v) → c'.d = c.d → c'.B = c.B → c'.fenv = c.fenv → c'.outer = c.outer →
      Ifs c' ifs (fun b lo ob => Br b (W c' VR (eval elt c'.env) (fun y lo ob => CompT c elt ifs xs ns' QF vs (acc ++ [y]) lo ob) never lo ob) (CompT c elt ifs xs ns' QF vs acc lo ob)) lo ob
section
variable {c : Cx} {z z' : List (Addr × Obj)} {lo : Loc} {ob oth keep : Obs} {X : QT Addr} {s s' : Shared} {I : Addr}
theorem IterT.kp {rows : List (List V)} {fa : List Addr} {zi : List (Addr × Obj)} {St : Nat → Heap → Prop} (K : IterT c z rows fa I St) (hfa : zi.map (·.1) = fa) {lo' : Loc} {ob' : Obs} {s s' : Shared} {i : Nat} (n : Now c (zi ++ z) lo ob s) (n' : Now c (zi ++ z) lo' ob' s') (h : St i s.heap) : St i s'.heap := by
  refine of_gen fun _ kg => ?_
  obtain ⟨fp, wr, Pt, Mid, wk, _, _, hf, _⟩ := K.wk
  refine kg ?_
  refine wk.frame i _ _ h fun b hb o e => ?_
  rcases hf b hb with hm | ⟨o', ho'⟩ | ⟨o', ho'⟩
  · rw [← hfa] at hm
    obtain ⟨p, hp, rfl⟩ := List.mem_map.mp hm
    have h1 := n.at (List.mem_append_left _ hp)
    have h2 := n'.at (List.mem_append_left _ hp)
    rw [h1] at e; cases e; exact h2
  · have h1 : s.heap.get? b = some o' := n.at (p := (b, o')) (List.mem_append_right _ ho')
    have h2 : s'.heap.get? b = some o' := n'.at (p := (b, o')) (List.mem_append_right _ ho')
    rw [h1] at e; cases e; exact h2
  · obtain ⟨_, _, _, n1⟩ := n
    obtain ⟨_, _, _, n2⟩ := n'
    have h1 := n1.F.keep b o' ho'
    rw [h1] at e; cases e; exact n2.F.keep _ _ ho'
inductive CompTI (c : Cx) (z : List (Addr × Obj)) (elt : Expr) (ifs : List Expr) (xs : List Str) (ns' : Nms) (QF : List V → Loc → Obs → Prop) (rows : List (List V)) (St : Nat → Heap → Prop) (fa : List Addr) (C D : Addr) : Nat → Shared → Prop
  | mk {i : Nat} {lo : Loc} {ob : Obs} {zi : List (Addr × Obj)} {oC : Obj} {m : Str → Option Value} {acc : List V} {cs : List Value} {s : Shared} (hi : i ≤ rows.length) (st : St i s.heap) (hfa : zi.map (·.1) = fa) (hoC : LCg.NsObj oC m) (hacc : VRs acc cs) (hal : acc.length ≤ i)
    (n : Now c (zi ++ ((C, oC) :: (D, LCg.lst cs) :: z)) lo ob s) (h : CompT c elt ifs xs ns' QF (rows.drop i) acc lo ob) : CompTI c z elt ifs xs ns' QF rows St fa C D (rows.length + 1 - i) s
theorem comp_loopT {elt iter : Expr} {ifs es : List Expr} {xs : List Str} {k : Nat} {tp pos : Pos} {scope : Scope} {cl : List (Str × Addr)} {rows : List (List V)} {zi : List (Addr × Obj)} {St : Nat → Heap → Prop} {QF : List V → Loc → Obs → Prop} {E : Value → Shared → Prop} {ns' : Nms} {Qv : Value → Shared → Prop}
    (ok : c.Ok) (hh : c.B.handled = none) (K : IterT c z rows (zi.map (·.1)) I St) (hE : NamesE es xs) (hxn : xs.Nodup) (hrz : ∀ r ∈ rows, r.length = xs.length) (hsz : rows.length ≤ 100000) (hcell : ∀ y ∈ scope.names, y.2 ≠ .cell) (hkind : scope.kind = .function) (hx : ∀ x ∈ xs, scope.names.lookup x = some .local) (hns' : (relabel scope c.env).names = ns') (hnd : (ns'.map (·.1)).Nodup)
    (hfv : ∀ x, (relabel scope c.env).names.lookup x = some .cell → ∀ a, c.fenv.cells.lookup x = some a → cl.lookup x = some a) (hst : St 0 s.heap) (n : Now c (zi ++ z) lo ob s) (h : CompT c elt ifs xs ns' QF rows [] lo ob)
    {use : Option (Value → Sem Unit)} (hF : ∀ C D oC m acc lo ob cs s', LCg.NsObj oC m → VRs acc cs → Now c ((C, oC) :: (D, LCg.lst cs) :: z) lo ob s' → QF acc lo ob → compPost c.g.M c.B E use Qv (.ref D) C (.ok .next) s') :
    wpAny c.g.M c.B (newList []) (fun acc s₃ => wpAny c.g.M c.B (newFunctionEnv scope c.env.globals cl [] c.env.qual none .none (some c.env)) (fun cenv s₄ =>
      codeAny c.g.M c.B (.compStart (.ListComp elt [⟨.Tuple es k tp, iter, ifs, 0⟩] scope pos) 0 (.ref I) acc { cenv with scope := relabel scope c.env }) (compPost c.g.M c.B E use Qv acc cenv.locals) s₄) E s₃) E s := by
  refine of_gen fun _ kg => ?_
  obtain ⟨fp, wr, Pt, Mid, wk, hP, hwf, hf, hMh, hSh⟩ := K.wk
  refine kg ?_
  generalize hfa : zi.map (·.1) = fa at *
  refine wpAny_newObj_type (wpAny_newFunctionEnv hcell (by intro y hy; simp at hy) (fun h₁ hns₁ hsb₁ => ?_) hkind)
  dsimp only at hns₁ hsb₁ ⊢
  have n1 : Now c ((s.heap.objs.size, LCg.lst []) :: (zi ++ z)) lo ob { s with heap := s.heap.push (LCg.lst []) } := by obtain ⟨m, os, frs, n⟩ := n; exact n.pushI (o := LCg.lst [])
  have n2 : Now c (((s.heap.push (LCg.lst [])).objs.size, { cls := .type "dict", data := .dict #[] }) :: (s.heap.objs.size, LCg.lst []) :: (zi ++ z)) lo ob { s with heap := (s.heap.push (LCg.lst [])).push { cls := .type "dict", data := .dict #[] } } := by obtain ⟨m, os, frs, n⟩ := n1; exact n.pushI (o := { cls := .type "dict", data := .dict #[] })
  refine of_gen fun _ kg => ?_
  obtain ⟨oC, hC, hoC⟩ := LCg.ns_obj hns₁
  refine kg ?_
  have n3 : Now c ((_, oC) :: _) lo ob { s with heap := h₁, toks := s.toks + 0 } := n2.swapI (fun b o hb e => hsb₁.extBut b o (by simpa using hb) e) hC
  have e0 : St 0 h₁ := by
    refine wk.frame 0 _ _ hst fun b hb o e => ?_
    have hlt := Heap.lt_size e
    refine hsb₁.extBut b o (fun q => ?_) (Heap.get?_push_of_some _ (Heap.get?_push_of_some _ e))
    have q' : b = s.heap.objs.size + 1 := by rw [q]; exact Heap.size_push _ _
    rw [q'] at hlt
    exact Nat.lt_irrefl _ (Nat.lt_of_succ_lt hlt)
  generalize hD : s.heap.objs.size = D at *
  generalize hCC : (s.heap.push (LCg.lst [])).objs.size = C at *
  have toE : ∀ {lo ob s zi oC cs}, Now c ((C, oC) :: (D, LCg.lst cs) :: (zi ++ z)) lo ob s → Now c (zi ++ ((C, oC) :: (D, LCg.lst cs) :: z)) lo ob s := fun {lo ob s zi oC cs} n =>
    n.zperm (List.perm_append_comm_assoc [(C, oC), (D, LCg.lst cs)] zi z)
  have toC : ∀ {lo ob s zi oC cs}, Now c (zi ++ ((C, oC) :: (D, LCg.lst cs) :: z)) lo ob s → Now c ((C, oC) :: (D, LCg.lst cs) :: (zi ++ z)) lo ob s := fun {lo ob s zi oC cs} n =>
    n.zperm (List.perm_append_comm_assoc zi [(C, oC), (D, LCg.lst cs)] z)
  have toI : ∀ {lo ob s zi oC cs}, Now c ((C, oC) :: (D, LCg.lst cs) :: (zi ++ z)) lo ob s → Now c (zi ++ z) lo ob s := fun {lo ob s zi oC cs} n => Now.less (a := [_]) (n.less (a := [_]))
  have loop : ∀ s₃ : Shared, s₃ = { s with heap := h₁, toks := s.toks + ([] : List (Str × Value)).length } →
      codeAny c.g.M c.B (.compLoop (.ListComp elt [⟨.Tuple es k tp, iter, ifs, 0⟩] scope pos) 0 (.ref I) (.ref D) (compEnvC scope cl C c.env)) (compPost c.g.M c.B E use Qv (.ref D) C) s₃ := by
    rintro s₃ rfl
    refine compLoop_testsT (CompTI c z elt ifs xs ns' QF rows St fa C D) ?_ (rows.length + 1) (.mk (i := 0) (Nat.zero_le _) e0 hfa hoC .nil (Nat.le_refl _) (toE n3) h)
    rintro k' s1 @⟨i, lo1, ob1, zi1, oC1, m1, acc, cs, _, hi, st1, hfa1, hoC1, hacc, hal, n1, h1⟩
    have hw1 : ∀ b ∈ wr, b ∈ zi1.map (·.1) := fun b hb => hfa1 ▸ hwf b hb
    by_cases hlt : i < rows.length
    · refine wk.item i s1 _ _ hlt st1 fun T vals h' tk hPv hT hMid hk => ?_
      refine of_gen fun _ kg => ?_
      obtain ⟨vs, hvs, hr⟩ := hP i vals hlt hPv
      obtain ⟨zi2, ef2, n2⟩ := n1.swaps (s' := { s1 with heap := h', toks := tk }) hw1 hk (hMh _ _ _ hMid)
      refine kg ?_
      have hw2 : ∀ b ∈ wr, b ∈ zi2.map (·.1) := fun b hb => ef2 ▸ hw1 b hb
      refine wk.go es k tp i T { s1 with heap := h', toks := tk } _ _ hMid fun h2 st2 hk2 => ?_
      refine of_gen fun _ kg => ?_
      obtain ⟨zi3, ef3, n3⟩ := n2.swaps (s' := { s1 with heap := h2, toks := tk }) hw2 hk2 (hSh _ _ st2)
      refine kg ?_
      have hT2 : h2.IsTuple T vals := by
        obtain ⟨oT, eT, q⟩ := hT
        exact ⟨oT, hk2 _ _ (wk.apart _ _ _ hMid) eT, q⟩
      have hzz : vals.size = xs.length := by
        have := hr.length
        rw [hrz vs (List.mem_of_getElem? hvs)] at this
        simpa using this.symm
      refine wpAny_assign_Tuple hh hT2 ((hE.each _).1.trans hzz.symm) (hE.each _).2 fun h3 he3 => ?_
      have up3 : ∀ b o, h2.get? b = some o → h3.get? b = some o := fun b o e => he3 b o (Nat.ne_of_lt (Heap.lt_size e)) e
      refine of_gen fun _ kg => ?_
      obtain ⟨zi4, ef4, n4⟩ := n3.swaps (s' := { s1 with heap := h3, toks := tk }) (wr := []) (fun b hb => nomatch hb) (fun b o _ e => up3 b o e) (fun b hb => nomatch hb)
      refine kg ?_
      have st4 : St (i + 1) h3 := wk.frame _ _ _ st2 fun b hb o e => up3 b o e
      have n4C := toC n4
      have hCn := n4C.at (p := (C, oC1)) (.head _)
      refine assign_names (env := compEnvC scope cl C c.env) hE (fun x hm => lookup_relabel_local (hx x hm)) (by simp [compEnvC, relabel, hkind]) (by simpa using hzz) (hoC1.ns hCn) fun h4 tk4 m4 hn4 _ hm4 hk4 => ?_
      refine of_gen fun _ kg => ?_
      obtain ⟨oC3, hC3, hoC3⟩ := LCg.ns_obj hn4
      refine kg ?_
      have n5 : Now c ((C, oC3) :: (D, LCg.lst cs) :: (zi4 ++ z)) lo1 ob1 { s1 with heap := h4, toks := tk4 } := n4C.swapI (fun b o hb e => hk4 b o (by simpa [compEnvC] using hb) e) hC3
      have hfa4 : zi4.map (·.1) = fa := by rw [ef4, ef3, ef2, hfa1]
      have st5 : St (i + 1) h4 := K.kp hfa4 (toI n4C) (toI n5) st4
      have e : rows.drop i = vs :: rows.drop (i + 1) := by
        rw [List.drop_eq_getElem_cons hlt]
        congr 1
        rw [List.getElem?_eq_getElem hlt] at hvs
        exact Option.some.inj hvs
      rw [e] at h1
      have nC : Now (cCx c scope cl C oC3 (xs.zip vs)) ((D, LCg.lst cs) :: (zi4 ++ z)) lo1 ob1 { s1 with heap := h4, toks := tk4 } := n5.inC
      have okC : (cCx c scope cl C oC3 (xs.zip vs)).Ok := cCx_ok ok hkind (by rw [hns']; exact hnd) hoC3 (by
        intro p hp
        obtain ⟨j, hj, e⟩ := List.getElem_of_mem hp
        have hj2 : j < xs.length ∧ j < vs.length := by rw [List.length_zip] at hj; omega
        obtain ⟨cv, hcv, hrv⟩ := hr.get j vs[j] (List.getElem?_eq_getElem hj2.2)
        have ej : p = (xs[j], vs[j]) := by rw [← e, List.getElem_zip]
        refine ⟨cv, ?_, by rw [ej]; exact hrv⟩
        refine hm4 hxn (p.1, cv) ?_
        rw [ej]
        refine List.mem_of_getElem? (i := j) ?_
        rw [List.getElem?_zip_eq_some]
        exact ⟨List.getElem?_eq_getElem hj2.1, hcv⟩) hfv
      refine thenQ (ifs_of (h1 _ okC rfl rfl hns' rfl rfl rfl rfl rfl) nC) fun b s4 b' lo4 ob4 hb n6 h4' => ?_
      subst hb
      have n6' := n6.outC
      cases b with
      | false =>
        simp only [Bool.false_eq_true, if_false]
        have st6 := K.kp hfa4 (toI n5) (toI n6') st5
        exact ⟨_, Nat.sub_lt_sub_left (Nat.lt_succ_of_lt hlt) (Nat.lt_succ_self i), .mk hlt st6 hfa4 hoC3 hacc (Nat.le_succ_of_le hal) (toE n6') (h4'.2 rfl)⟩
      | true =>
        simp only [if_true]
        refine wpAny_mono (h4'.1 rfl _ s4 n6) (fun y s5 q => q.elim fun yv lo5 ob5 hy n7 h5 => ?_) fun e s' q => q.elim fun _ _ _ _ _ x => x.elim
        have n7' := n7.outC
        have st7 := K.kp hfa4 (toI n5) (toI n7') st5
        have hDn := n7'.at (p := (D, LCg.lst cs)) (.tail _ (.head _))
        refine append_at (hsz := by show cs.toArray.size ≤ sizeLine; rw [List.size_toArray, ← hacc.length]; exact Nat.le_trans hal (Nat.le_trans hi (Nat.le_trans hsz (by rw [sizeLine_eq]; decide)))) hDn fun h₅ hs₅ hD₅ => ?_
        have n8 : Now c ((D, LCg.lst (cs ++ [y])) :: (C, oC3) :: (zi4 ++ z)) lo5 ob5 { s5 with heap := h₅ } := (n7'.zperm (List.Perm.swap _ _ _)).swapI (fun b o hb e => hs₅.extBut b o (by simpa using hb) e) (hD₅.trans (congrArg some (LCg.lst_snoc cs y)))
        have n9 := n8.zperm (List.Perm.swap _ _ _)
        have st9 := K.kp hfa4 (toI n7') (toI n9) st7
        exact ⟨_, Nat.sub_lt_sub_left (Nat.lt_succ_of_lt hlt) (Nat.lt_succ_self i), .mk hlt st9 hfa4 hoC3 (hacc.append (.one hy)) (by rw [List.length_append]; exact Nat.succ_le_succ hal) (toE n9) h5⟩
    · have e : i = rows.length := Nat.le_antisymm hi (Nat.not_lt.mp hlt)
      subst e
      rw [List.drop_length] at h1
      refine wk.done s1 _ _ st1 fun h' tk hk => ?_
      have n2 : Now c ((C, oC1) :: (D, LCg.lst cs) :: z) lo1 ob1 { s1 with heap := h', toks := tk } := n1.drops hw1 hk
      exact hF C D oC1 m1 acc lo1 ob1 cs _ hoC1 hacc n2 h1
  exact codeAny_compStart_list (loop _ rfl) (wk.self 0 _ _ _ e0 (loop _ rfl))
noncomputable def ItrT (c : Cx) (v : V) (rows : List (List V)) (keep ob oth : Obs) : Prop := ∀ z s cv lo, VR v cv → Now c z lo ob s → ∃ zk, ORs c.g.w.params keep zk ∧ ∀ (Qp : Value → Shared → Prop) (E : Value → Shared → Prop),
  (∀ I zi St s', Now c (zi ++ (zk ++ z)) lo oth s' → St 0 s'.heap → IterT c (zk ++ z) rows (zi.map (·.1)) I St → Qp (.ref I) s') → wpAny c.g.M c.B (pyIter cv) Qp E s
noncomputable def CompFT (c : Cx) (elt : Expr) (ifs : List Expr) (xs : List Str) (ns' : Nms) (Q : QT V) (v : V) (lo : Loc) (ob : Obs) : Prop :=
  ∃ rows keep oth, ItrT c v rows keep ob oth ∧ (∀ r ∈ rows, r.length = xs.length) ∧ rows.length ≤ 100000 ∧ CompT c elt ifs xs ns' (fun acc lo ob => ∀ D, Q (.ref D) lo ((D, .list acc) :: (ob ++ keep))) rows [] lo oth
theorem compFT {elt : Expr} {ifs : List Expr} {xs : List Str} {ns' : Nms} {Q : QT V} {v : V} {rows : List (List V)} (h : ItrT c v rows keep ob oth) (hr : ∀ r ∈ rows, r.length = xs.length) (hz : rows.length ≤ 100000) (hc : CompT c elt ifs xs ns' (fun acc lo ob => ∀ D, Q (.ref D) lo ((D, .list acc) :: (ob ++ keep))) rows [] lo oth) : CompFT c elt ifs xs ns' Q v lo ob :=
  ⟨rows, keep, oth, h, hr, hz, hc⟩
theorem S_AssignCompT {elt iter : Expr} {ifs es : List Expr} {xs : List Str} {k : Nat} {tp pos py spos : Pos} {y : Str} {scope : Scope} {cl : List (Str × Addr)} {ns' : Nms} {QA : QT AF} (ok : c.Ok) (hh : c.B.handled = none) (hE : NamesE es xs) (hxn : xs.Nodup) (hns' : (relabel scope c.env).names = ns') (hclos : closureFor scope c.env = pure cl) (hfv : ∀ x, (relabel scope c.env).names.lookup x = some .cell → ∀ a, c.fenv.cells.lookup x = some a → cl.lookup x = some a) (hcell : ∀ y ∈ scope.names, y.2 ≠ .cell) (hkind : scope.kind = .function)
    (hnames : ∀ y ∈ scope.names, y.2 = .local → scope.names.lookup y.1 = some .local) (hx : ∀ x ∈ xs, scope.names.lookup x = some .local) (hnd : (ns'.map (·.1)).Nodup)
    (hsw : swapsWith (.ListComp elt [⟨.Tuple es k tp, iter, ifs, 0⟩] scope pos) (some (.Name y py)) spos.line c.env = pure true)
    (h : W c VR (eval iter c.env) (fun v lo ob => CompFT c elt ifs xs ns' (fun v lo ob => Sto c y v (QA .next) X lo ob) v lo ob) X lo ob) (hs : ∀ x, foldedSetIterable iter c.env x = pure x := by intro _; rfl) : W c FR (exec (.Assign [.Name y py] (.ListComp elt [⟨.Tuple es k tp, iter, ifs, 0⟩] scope pos) spos) c.env) QA X lo ob := by
  intro z s n
  rw [exec_Assign_Name_used _ _ _ _ hsw]
  refine wpAny_bind (wpAny_standAt (wpAny_bind ?_))
  show wpAny _ _ (do let _ ← comprehension (.ListComp elt [⟨.Tuple es k tp, iter, ifs, 0⟩] scope pos) scope c.env _ (newList []) false (eval iter c.env) (some (assign (.Name y py) c.env))) _ _ s
  refine wpAny_bind (wpAny_mono (wpAny_comprehension_free (use := some (assign (.Name y py) c.env)) (Q := fun _ s' => LQ c z FR QA .next s') rfl hs hclos hkind hnames (thenQ (h z s n) fun xv s₁ v lo1 ob1 hv n1 hcf => ?_)) (fun _ s' hq => wpAny_pure (wpAny_pure hq)) fun _ _ e => e)
  refine of_gen fun _ kg => ?_
  obtain ⟨rows, keep, oth, hi, hrz, hz, hc⟩ := hcf
  obtain ⟨zk, hk, run⟩ := hi z s₁ xv lo1 hv n1
  refine kg ?_
  refine run _ _ fun I zi St s2 n2 st K => ?_
  refine comp_loopT ok hh K hE hxn hrz hz hcell hkind hx hns' hnd hfv st n2 hc fun C D oC mC acc lo3 ob3 cs s3 hoC hr n3 hq => ?_
  show wpAny _ _ (assign (.Name y py) c.env (.ref D)) _ _ s3
  refine of_gen fun _ kg => ?_
  obtain ⟨m, os, frs, n4⟩ := n3.zperm (z' := ([(D, LCg.lst cs)] ++ zk) ++ ((C, oC) :: z)) (by
    show List.Perm ((C, oC) :: (((D, LCg.lst cs) :: zk) ++ z)) (((D, LCg.lst cs) :: zk) ++ (C, oC) :: z)
    exact List.perm_middle.symm)
  refine kg ?_
  have n5 : Now c ((C, oC) :: z) lo3 ((D, .list acc) :: (ob3 ++ keep)) s3 := Now.perm ⟨m, _, frs, n4.back (oth := (D, .list acc) :: keep) (.cons ⟨cs, cs.length, rfl, hr⟩ hk)⟩ List.perm_middle
  refine wpAny_assign_Name (wpAny_mono (hq D (.ref D) rfl _ s3 n5) (fun _ s4 hq4 => ?_) fun e s4 hx4 => ?_)
  · obtain ⟨_, lo4, ob4, _, n6, hq6⟩ := hq4
    exact ⟨mC, hoC.ns (n6.at (p := (C, oC)) (.head _)), fun h'' hs'' => ⟨AF.next, lo4, ob4, rfl, n6.dropI fun b o hb e => hs''.extBut b o (by simpa using hb) e, hq6⟩⟩
  · obtain ⟨a, lo4, ob4, rfl, x4, hX4⟩ := hx4
    exact ⟨a, lo4, ob4, rfl, Exc.less (a := [_]) x4, hX4⟩
theorem swaps_yes {elt : Expr} {gens : List Comprehension} {scope : Scope} {pos py : Pos} {y : Str} {ln : Nat} {env : Env} (hk : env.scope.kind = .function) (hyl : env.scope.names.lookup y = some .local) (hln : (py.line == pos.line) = true) (hna : (scope.names.any fun p => p.1 == y && (p.2 == .local || p.2 == .cell)) = false) :
    swapsWith (.ListComp elt gens scope pos) (some (.Name y py)) ln env = pure true := by
  show (pure (env.blockKind == .function && env.kindOf y == some .local && py.line == pos.line && !(scope.names.any fun p => p.1 == y && (p.2 == .local || p.2 == .cell))) : Sem Bool) = pure true
  have e1 : env.kindOf y = some .local := hyl
  have e2 : (env.blockKind == ScopeKind.function) = true := by
    unfold Env.blockKind
    rw [hk]; rfl
  rw [e1, hln, hna, e2]
  rfl
theorem S_AssignCompTC {elt iter : Expr} {ifs es : List Expr} {xs : List Str} {k : Nat} {tp pos py spos : Pos} {y : Str} {scope : Scope} {ns ns' : Nms} {cells : List (Str × Addr)} {QA : QT AF} (ok : c.Ok) (hh : c.B.handled = none) (hns : c.env.scope.names = ns) (hfc : c.fenv.cells = cells) (hE : NamesE es xs) (hcs : Closes cells ns scope.names ns') (hxn : xs.Nodup) (hcell : ∀ y ∈ scope.names, y.2 ≠ .cell) (hkind : scope.kind = .function)
    (hnames : ∀ y ∈ scope.names, y.2 = .local → scope.names.lookup y.1 = some .local) (hx : ∀ x ∈ xs, scope.names.lookup x = some .local) (hnd : (ns'.map (·.1)).Nodup)
    (hyl : ns.lookup y = some .local) (hln : (py.line == pos.line) = true) (hna : (scope.names.any fun p => p.1 == y && (p.2 == .local || p.2 == .cell)) = false)
    (h : W c VR (eval iter c.env) (fun v lo ob => CompFT c elt ifs xs ns' (fun v lo ob => Sto c y v (QA .next) X lo ob) v lo ob) X lo ob) (hs : ∀ x, foldedSetIterable iter c.env x = pure x := by intro _; rfl) : W c FR (exec (.Assign [.Name y py] (.ListComp elt [⟨.Tuple es k tp, iter, ifs, 0⟩] scope pos) spos) c.env) QA X lo ob := by
  have hr := hcs.relab (by rw [← hns]; exact ok.nd')
  subst hns hfc
  obtain ⟨hrl, hci⟩ := hr
  unfold cellsOk at hci
  rw [List.all_eq_true] at hci
  have hf : ∀ p ∈ scope.names, p.2 = .free → c.env.scope.names.lookup p.1 = some .cell ∧ ∃ a, c.env.cells.lookup p.1 = some a := fun p hp e => by
    have := hci p hp
    rw [e] at this
    simp only [bne_self_eq_false, Bool.false_or, Bool.and_eq_true, beq_iff_eq] at this
    obtain ⟨a, ha⟩ := Option.isSome_iff_exists.mp this.2
    exact ⟨this.1, a, ok.fv _ this.1 a ha⟩
  refine of_gen fun _ kg => ?_
  obtain ⟨cl, e1, e2⟩ := clos_of (env := c.env) (scope := scope) fun p hp e => (hf p hp e).2
  refine kg ?_
  refine S_AssignCompT ok hh hE hxn ((relab_eq ok scope).trans hrl) e1 (fun y hy a ha => ?_) hcell hkind hnames hx hnd (swaps_yes ok.kind hyl hln hna) h hs
  rw [relab_eq ok] at hy
  have hm := mem_of_lookup hy
  unfold relab at hm
  refine of_gen fun _ kg => ?_
  obtain ⟨p, hp, e⟩ := List.mem_map.mp hm
  refine kg ?_
  have hfree : p.2 = .free ∧ p.1 = y := by
    by_cases q : (p.2 == NameKind.free && c.env.scope.names.lookup p.1 == some .cell) = true
    · rw [if_pos q] at e
      simp only [Bool.and_eq_true, beq_iff_eq] at q
      exact ⟨q.1, congrArg Prod.fst e⟩
    · rw [if_neg q] at e
      exact absurd (congrArg Prod.snd e) (hcell p hp)
  obtain ⟨h1, rfl⟩ := hfree
  rw [e2 p.1 (by rw [← h1]; exact hp)]
  exact ok.fv _ (hf p hp h1).1 a ha
theorem CompT.mapF {α : Type} {elt : Expr} {xs : List Str} {ns' : Nms} {QF : List V → Loc → Obs → Prop} {l : List α} {g : α → List V} (f : α → V)
    (hE : ∀ k ∈ l, ∀ c' : Cx, c'.Ok → c'.g = c.g → c'.env.scope.names = ns' → c'.cv = some (xs.zip (g k)) → c'.d = c.d → c'.B = c.B → c'.fenv = c.fenv → W c' VR (eval elt c'.env) (fun y lo' ob' => y = f k ∧ lo' = lo ∧ ob' = ob) never lo ob)
    (h : QF (l.map f) lo ob) : CompT c elt [] xs ns' QF (l.map g) [] lo ob := by
  have key : ∀ (l : List α) (acc : List V), (∀ k ∈ l, ∀ c' : Cx, c'.Ok → c'.g = c.g → c'.env.scope.names = ns' → c'.cv = some (xs.zip (g k)) → c'.d = c.d → c'.B = c.B → c'.fenv = c.fenv → W c' VR (eval elt c'.env) (fun y lo' ob' => y = f k ∧ lo' = lo ∧ ob' = ob) never lo ob) → QF (acc ++ l.map f) lo ob → CompT c elt [] xs ns' QF (l.map g) acc lo ob := by
    intro l
    induction l with
    | nil => intro acc _ h; rw [List.map_nil, List.append_nil] at h; exact h
    | cons v vs ih =>
      intro acc hE h c' h1 h2 h3 h4 h5 h6 h7 h8 h9
      refine br_t ((hE v (.head _) c' h1 h2 h4 h5 h6 h7 h8).mono ?_ fun _ _ _ x => x)
      rintro y _ _ ⟨rfl, rfl, rfl⟩
      exact ih _ (fun u hu => hE u (.tail _ hu)) (by simpa using h)
  exact key l [] hE h
end
end Mine
end
section
namespace Mine
section
open AutoSeq1 (wpAny_loadPart')
end
section
variable {prog : Program} {w : World} {A : Around} {E : Value → Shared → Prop} {s : Shared}
end
noncomputable def liO (l : Addr) : Obj → Prop := fun o => o.cls = .type "list_iterator" ∧ o.data = .fields #[.ref l, .int 0 0]
noncomputable def zipO (TI TO : Addr) : Obj := { cls := .type "zip", dict := none, data := .fields #[.none, .bool false, .bool false, .ref TI, .ref TO], slots := #[] }
noncomputable def pairO (a b : Value) : Obj := { cls := .type "tuple", data := .seq #[a, b] }
section
variable {c : Cx} {z : List (Addr × Obj)} {lo : Loc} {ob oth : Obs} {X : QT Addr} {Q : QT V} {s : Shared} {m : Str → Option Value} {os frs : List (Addr × Obj)} {a b : Addr} {vs ws : List V}
theorem NowAt.grows (n : NowAt c z lo ob s m os frs) {h' : Heap} {tk : Nat} (k : ∀ b o, s.heap.get? b = some o → h'.get? b = some o) {bs : Obs} {ns : List (Addr × Obj)} (hr : ORs c.g.w.params bs ns)
    (ha : ∀ p ∈ ns, s.heap.objs.size ≤ p.1 ∧ h'.get? p.1 = some p.2) (hd : (ns.map (·.1)).Nodup) : NowAt c z lo (bs ++ ob) { s with heap := h', toks := tk } m (ns ++ os) frs := by
  refine of_gen fun _ kg => ?_
  obtain ⟨oL, _, _, hL, _⟩ := n.F.ns
  refine kg ?_
  clear kg
  have hlt : c.L < s.heap.objs.size := Heap.lt_size hL
  induction hr with
  | nil => exact n.go (s' := { s with heap := h', toks := tk }) (n.F.keeps k) fun p hp => ⟨k _ _ (n.N p hp).1, (n.N p hp).2⟩
  | @cons D b o bs ns hb _ ih =>
    rw [List.map_cons] at hd
    obtain ⟨hd1, hd2⟩ := List.nodup_cons.mp hd
    have n' := ih (fun p hp => ha p (.tail _ hp)) hd2
    obtain ⟨g1, g2⟩ := ha _ (.head _)
    refine n'.add (s' := { s with heap := h', toks := tk }) n'.F (fun p hp => ?_) hb fun p hp e => ?_
    · rcases List.mem_cons.mp hp with rfl | hp
      · exact ⟨g2, Nat.ne_of_gt (Nat.lt_of_lt_of_le hlt g1), Heap.get?_none_of_le (Nat.le_trans n.F.above (Nat.le_of_lt (Nat.lt_of_lt_of_le hlt g1)))⟩
      · exact n'.N p hp
    · rw [List.append_assoc] at hp
      rcases List.mem_append.mp hp with hp | hp
      · exact hd1 (e ▸ List.mem_map_of_mem (f := (·.1)) hp)
      · have := n.frs_lt p hp
        rw [e] at this
        exact Nat.lt_irrefl _ (Nat.lt_of_lt_of_le this g1)
theorem cal_zip (ha : (a, .list vs) ∈ ob) (hb : (b, .list ws) ∈ ob) (h : ∀ Z TI TO i1 i2 o1 o2, liO a o1 → liO b o2 →
      Q (.ref Z) lo ((Z, .raw (zipO TI TO)) :: (TI, .raw (pairO (.ref i1) (.ref i2))) :: (TO, .raw (pairO .none .none)) :: (i1, .raw o1) :: (i2, .raw o2) :: ob)) : Cal c (.cv (.type "zip")) [.ref a, .ref b] Q X lo ob := by
  rintro _ cv rfl hv z s n0
  refine of_gen fun _ kg => ?_
  obtain ⟨_, _, rfl, h1, h2⟩ := VRs2 hv
  cases h1
  cases h2
  obtain ⟨m, os, frs, n⟩ := n0
  obtain ⟨o1, _, _, g1, xs, k1, rfl, r1⟩ := n.mem ha
  obtain ⟨o2, _, _, g2, ys, k2, rfl, r2⟩ := n.mem hb
  refine kg (call_zip_2 (xs := xs.toArray) (ys := ys.toArray) ⟨_, g1, rfl, _, rfl⟩ ⟨_, g2, rfl, _, rfl⟩ fun h' hZ hT hO h1 h2 hsz hk => ?_)
  obtain ⟨o1, e1, q1⟩ := h1
  obtain ⟨o2, e2, q2⟩ := h2
  refine ⟨.ref _, lo, _, rfl, ⟨m, _, frs, n.grows (tk := s.toks) hk (.cons (b := .raw (zipO (s.heap.objs.size + 2) (s.heap.objs.size + 3))) rfl (.cons (b := .raw (pairO (.ref s.heap.objs.size) (.ref (s.heap.objs.size + 1)))) rfl (.cons (b := .raw (pairO .none .none)) rfl (.cons (b := .raw o1) rfl (.cons (b := .raw o2) rfl .nil)))))
    (fun p hp => ?_) ?_⟩, h _ _ _ _ _ o1 o2 q1 q2⟩
  · simp only [List.mem_cons, List.not_mem_nil, or_false] at hp
    rcases hp with rfl | rfl | rfl | rfl | rfl
    · exact ⟨by omega, hZ⟩
    · exact ⟨by omega, hT⟩
    · exact ⟨by omega, hO⟩
    · exact ⟨by omega, e1⟩
    · exact ⟨by omega, e2⟩
  · simp only [List.map_cons, List.map_nil, List.nodup_cons, List.mem_cons, List.not_mem_nil, or_false, List.nodup_nil, and_true, not_false_eq_true]
    have e : ∀ x y : Nat, x ≠ y → (s.heap.objs.size + x = s.heap.objs.size + y) → False := fun x y h e => h (Nat.add_left_cancel e)
    refine ⟨?_, ?_, ?_, ?_⟩ <;> (intro h; first | (rcases h with h | h | h | h) | (rcases h with h | h | h) | (rcases h with h | h) | skip) <;> first | exact e _ _ (by decide) h | exact e _ 0 (by decide) h | exact e 0 _ (by decide) h
theorem Itr_zip (hh : c.B.handled = none) {Z TI TO i1 i2 : Addr} {o1 o2 : Obj} (q1 : liO a o1) (q2 : liO b o2)
    (p : Picks ob [(Z, .raw (zipO TI TO)), (TI, .raw (pairO (.ref i1) (.ref i2))), (TO, .raw (pairO .none .none)), (i1, .raw o1), (i2, .raw o2), (a, .list vs), (b, .list ws)] oth) :
    ItrT c (.ref Z) ((vs.zip ws).map fun p => [p.1, p.2]) [(a, .list vs), (b, .list ws)] ob oth := by
  rintro z s _ lo rfl n
  refine of_gen fun _ kg => ?_
  obtain ⟨m, os, frs, n⟩ := n.perm (p.perm.trans List.perm_append_comm)
  obtain ⟨os1, os2, h2, rfl, n1⟩ := n.out
  have key : ∃ oA oB : Obj, obR c.g.w.params (.list vs) oA ∧ obR c.g.w.params (.list ws) oB ∧ os2 = [(Z, zipO TI TO), (TI, pairO (.ref i1) (.ref i2)), (TO, pairO .none .none), (i1, o1), (i2, o2), (a, oA), (b, oB)] := by
    cases h2 with | cons e1 h2 => ?_
    cases h2 with | cons e2 h2 => ?_
    cases h2 with | cons e3 h2 => ?_
    cases h2 with | cons e4 h2 => ?_
    cases h2 with | cons e5 h2 => ?_
    cases h2 with | cons e6 h2 => ?_
    cases h2 with | cons e7 h2 => ?_
    cases h2
    cases e1; cases e2; cases e3; cases e4; cases e5
    exact ⟨_, _, e6, e7, rfl⟩
  obtain ⟨oA, oB, hA, hB, rfl⟩ := key
  obtain ⟨xs, k1, rfl, r1⟩ := hA
  obtain ⟨ys, k2, rfl, r2⟩ := hB
  refine kg ?_
  refine ⟨[(a, _), (b, _)], .cons ⟨xs, k1, rfl, r1⟩ (.cons ⟨ys, k2, rfl, r2⟩ .nil), fun Qp E k => ?_⟩
  have hnd := n1.nd
  rw [List.map_append, List.map_append, List.map_append] at hnd
  have hnd := (List.nodup_append.mp (List.nodup_append.mp (List.nodup_append.mp hnd).2.1).2.1).1
  simp only [List.map_cons, List.map_nil] at hnd
  have D : ZipApart Z TI TO i1 i2 a b := by constructor <;> (intro e; subst e; simp at hnd)
  have n2 : Now c ([(Z, zipO TI TO), (TI, pairO (.ref i1) (.ref i2)), (TO, pairO .none .none), (i1, o1), (i2, o2)] ++ ([(a, W.listOf xs.toArray k1), (b, W.listOf ys.toArray k2)] ++ z)) lo oth s := ⟨m, os1, frs, n1⟩
  have gZ : s.heap.get? Z = some (zipO TI TO) := n2.at (p := (Z, _)) (.head _)
  have gT : s.heap.get? TI = some (pairO (.ref i1) (.ref i2)) := n2.at (p := (TI, _)) (.tail _ (.head _))
  have gO : s.heap.get? TO = some (pairO .none .none) := n2.at (p := (TO, _)) (.tail _ (.tail _ (.head _)))
  have g1 : s.heap.get? i1 = some o1 := n2.at (p := (i1, _)) (.tail _ (.tail _ (.tail _ (.head _))))
  have g2 : s.heap.get? i2 = some o2 := n2.at (p := (i2, _)) (.tail _ (.tail _ (.tail _ (.tail _ (.head _)))))
  have gA : s.heap.get? a = some (W.listOf xs.toArray k1) := n2.at (p := (a, _)) (.tail _ (.tail _ (.tail _ (.tail _ (.tail _ (.head _))))))
  have gB : s.heap.get? b = some (W.listOf ys.toArray k2) := n2.at (p := (b, _)) (.tail _ (.tail _ (.tail _ (.tail _ (.tail _ (.tail _ (.head _)))))))
  have wk := (WalksT.zip2 (prog := c.g.prog) (w := c.g.w) hh Z TI TO i1 i2 a b D xs.toArray ys.toArray).toU
  have hz : ((vs.zip ws).map fun p => [p.1, p.2]).length = min xs.toArray.size ys.toArray.size := by simp [r1.length, r2.length]
  rw [← hz] at wk
  obtain ⟨St, hSt, K⟩ : ∃ St : Nat → Heap → Prop, St 0 s.heap ∧ IterT c ([(a, W.listOf xs.toArray k1), (b, W.listOf ys.toArray k2)] ++ z) ((vs.zip ws).map fun p => [p.1, p.2]) ([(Z, zipO TI TO), (TI, pairO (.ref i1) (.ref i2)), (TO, pairO .none .none), (i1, o1), (i2, o2)].map (·.1)) Z St := by
    refine ⟨_, ?_, ⟨_, _, _, _, wk, ?_, ?_, ?_, ?_, ?_⟩⟩
    · exact ⟨gZ, gT, ⟨_, _, gO⟩, ⟨_, g1, q1⟩, ⟨_, g2, q2⟩, ⟨_, gA, rfl, _, rfl⟩, ⟨_, gB, rfl, _, rfl⟩⟩
    · rintro i vals hi ⟨x, y, hx, hy, rfl⟩
      obtain ⟨u, hu, hru⟩ := r1.get' i x (by simpa using hx)
      obtain ⟨v, hv, hrv⟩ := r2.get' i y (by simpa using hy)
      refine ⟨[u, v], ?_, .cons hru (.cons hrv .nil)⟩
      rw [List.getElem?_map, (List.getElem?_zip_eq_some (z := (u, v))).mpr ⟨hu, hv⟩]
      rfl
    · intro d hd
      simp only [List.map_cons, List.map_nil]
      simp only [List.mem_cons, List.not_mem_nil, or_false] at hd ⊢
      rcases hd with rfl | rfl | rfl | rfl <;> simp
    · intro d hd
      simp only [List.mem_cons, List.not_mem_nil, or_false, List.map_cons, List.map_nil] at hd ⊢
      rcases hd with rfl | rfl | rfl | rfl | rfl | rfl | rfl
      · simp
      · simp
      · simp
      · simp
      · simp
      · exact .inr (.inl ⟨_, .head _⟩)
      · exact .inr (.inl ⟨_, .tail _ (.head _)⟩)
    · rintro i T h ⟨m1, m2, ⟨_, _, m3⟩, ⟨_, m4, _⟩, ⟨_, m5, _⟩, _⟩ d hd
      simp only [List.mem_cons, List.not_mem_nil, or_false] at hd
      rcases hd with rfl | rfl | rfl | rfl
      · exact ⟨_, m1⟩
      · exact ⟨_, m3⟩
      · exact ⟨_, m4⟩
      · exact ⟨_, m5⟩
    · rintro i h ⟨m1, m2, ⟨_, _, m3⟩, ⟨_, m4, _⟩, ⟨_, m5, _⟩, _⟩ d hd
      simp only [List.mem_cons, List.not_mem_nil, or_false] at hd
      rcases hd with rfl | rfl | rfl | rfl
      · exact ⟨_, m1⟩
      · exact ⟨_, m3⟩
      · exact ⟨_, m4⟩
      · exact ⟨_, m5⟩
  exact wpAny_pyIter_zip gZ (k Z _ _ s n2 hSt K)
end
end Mine
end
section
namespace Mine
noncomputable def inS (h s : List Nat) : Bool := (List.range h.length).any fun k => decide ((h.drop k).take s.length = s)
theorem inS_iff {h s : List Nat} : inS h s = true ↔ ∃ k, k < h.length ∧ (h.drop k).take s.length = s := by
  unfold inS
  rw [List.any_eq_true]
  exact ⟨fun ⟨k, hk, e⟩ => ⟨k, List.mem_range.mp hk, of_decide_eq_true e⟩, fun ⟨k, hk, e⟩ => ⟨k, List.mem_range.mpr hk, decide_eq_true e⟩⟩
theorem found_sub {h s : List Nat} (hs : s ≠ []) : (!(Builtin.Str.occurrences (tx h) (tx s) 0 (tx h).length 1).isEmpty) = inS h s := by
  rw [Bool.eq_iff_iff, StrLaws.found_iff, inS_iff]
  have e : ∀ i, Builtin.Str.subAt (tx h) (tx s) i = true ↔ (h.drop i).take s.length = s := fun i => by
    rw [StrLaws.subAt_eq, beq_iff_eq, tx_length]
    show (h.toArray.toList.drop i).take s.length = s.toArray.toList ↔ _
    simp
  have hp : 0 < s.length := List.length_pos_iff.mpr hs
  constructor
  · rintro ⟨i, h1, h2⟩
    rw [tx_length, tx_length] at h1
    exact ⟨i, by omega, (e i).mp h2⟩
  · rintro ⟨k, h1, h2⟩
    refine ⟨k, ?_, (e k).mpr h2⟩
    have := congrArg List.length h2
    rw [List.length_take, List.length_drop] at this
    rw [tx_length, tx_length]
    omega
section
variable {c : Cx} {lo : Loc} {ob : Obs} {X : QT Addr} {Q : QT V} {h s : List Nat}
theorem notin_sub (hs : s ≠ []) (hq : Q (.bool (!inS h s)) lo ob) : Cmp c .NotIn (.str s) (.str h) Q X lo ob := by
  rintro _ _ ⟨t, rfl⟩ ⟨u, rfl⟩ z s n
  exact P.notIn_str (LQ.bool' (congrArg (!·) (found_sub hs)) n hq)
theorem notin_none_str (hh : c.B.handled = none) (hx : ∀ e, X e lo ((e, .exc (.type "TypeError") none none) :: ob)) : Cmp c .NotIn .none (.str h) Q X lo ob := by
  rintro _ _ rfl ⟨u, rfl⟩ z s n
  show wpAny _ _ (do return Value.bool (!(← contains (.str (tx h) u) .none))) _ _ _
  refine wpAny_bind (wpAny_contains_slot (typeIs_str s (tx h) u) F.slot_str_contains ?_)
  refine wpAny_call_entry F.slot_str_contains (typeIs_str s (tx h) u) F.entry_str_contains ?_ (F.args_str_contains_2 _ _)
  unfold Builtin.«str.__contains__»
  refine wpAny_bind (m := Builtin.Str.strSlot _ _ _) (wpAny_of_eq (a := (Value.str (tx h) u, tx h, [Value.none])) (by rfl) ?_)
  show wpAny _ _ (asStr? Value.none >>= _) _ _ _
  refine wpAny_bind (m := asStr? _) (wpAny_of_eq (a := none) (by rfl) ?_)
  refine wpAny_bind (wpAny_rule ?_)
  refine wpAny_bind (m := typeNameOf _) (wpAny_of_eq (a := "NoneType") (by kernel_rfl) ?_)
  refine wpAny_raiseTypeError hh (fun h' tk e hx' => ?_) (by rw [sizeLine_eq]; decide)
  obtain ⟨m, os, frs, n⟩ := n
  exact ⟨e, lo, _, rfl, exc_new n hx', hx e⟩
end
theorem fn_introCC {g : G} {f : Addr} {v1 v2 : V} {d : Nat} {hq : Bool} {Q : V → Obs → Prop} {X : QT Addr} {X' : Addr → Obs → Prop} {ob : Obs} {x1 x2 : Str} {gl : List Str} {lo0 : Loc}
    {name qual : Str} {params : Arguments} {body : List Stmt} {scope : Scope} {dV kV doc pm cdv ct oc : Value} {an od : Option Addr} {osl : Array (Option Value)}
    (ho : g.K.lookup f = some ⟨oc, od, .func (fnOf name qual params body scope dV kV doc pm an cdv ct), osl⟩) (hcd : codeIn g.K cdv qual = true)
    (hbind : ∀ (s : Shared) cas, g.K.In s.heap → VRs [v1, v2] cas → bindArgs (fnOf name qual params body scope dV kV doc pm an cdv ct) ⟨cas, []⟩ = pure ([x1, x2].zip cas))
    (hns : scope.names = (x1, .cell) :: (x2, .cell) :: gl.map fun x => (x, .globalImplicit)) (hlo : scope.names.map (fun _ => none) = lo0) (hnd : (scope.names.map (·.1)).Nodup) (hX : LeavesOK X X')
    (h : ∀ (c : Cx) (C1 C2 : Addr), c.Ok → c.g = g → c.fenv.cells = [(x2, C2), (x1, C1)] → c.ns = scope.names → c.env.scope.names = scope.names → c.cv = none → c.d = d → (hq = false → c.B.handled = none) → W c FR (execs body c.env) (FnQ Q) X lo0 ((C1, .cell v1) :: (C2, .cell v2) :: ob))
    (hco : scope.isCoroutine = false := by rfl) (hgen : scope.isGenerator = false := by rfl) (hk : scope.kind = .function := by rfl) : FnC g f [v1, v2] (d + 1) hq Q X' ob := by
  intro c A ok hg hf hd hun hh cas hv z lo s n
  subst hg
  have n0 := n
  refine of_gen fun _ kg => ?_
  obtain ⟨m, os, frs, n⟩ := n
  refine kg ?_
  have F := n.F
  have X₀ := ok.g.X.keeps F.keep
  refine of_gen fun _ kg => ?_
  obtain ⟨oL, es, ep, hL, hLd, hLk, hLf⟩ := F.ns
  obtain ⟨w1, w2, rfl, r1, r2⟩ := VRs2 hv
  refine kg ?_
  have hLt := Heap.lt_size hL
  have hx12 : x1 ≠ x2 := by
    intro e
    rw [hns] at hnd
    simp [e] at hnd
  have hgl : ∀ (gl : List Str) (a : Nat) (acc : List (Str × Addr)), cellsFrom a (gl.map fun x => (x, NameKind.globalImplicit)) acc = acc := by
    intro gl
    induction gl with
    | nil => intro _ _; rfl
    | cons x r ih => intro a acc; exact ih a acc
  have hcells : cellsFrom (s.heap.objs.size + 1) scope.names [] = [(x2, s.heap.objs.size + 2), (x1, s.heap.objs.size + 1)] := by
    rw [hns]
    exact hgl gl _ _
  have hl1 : scope.names.lookup x1 = some .cell := by rw [hns]; simp
  have hl2 : scope.names.lookup x2 = some .cell := by
    rw [hns, List.lookup_cons]
    rw [show (x2 == x1) = false from by simpa using Ne.symm hx12]
    simp
  have hc1 : ([(x2, s.heap.objs.size + 2), (x1, s.heap.objs.size + 1)] : List (Str × Addr)).lookup x1 = some (s.heap.objs.size + 1) := by
    rw [List.lookup_cons, show (x1 == x2) = false from by simpa using hx12]; simp
  have hc2 : ([(x2, s.heap.objs.size + 2), (x1, s.heap.objs.size + 1)] : List (Str × Addr)).lookup x2 = some (s.heap.objs.size + 2) := by simp
  refine codeAny_call_cells (fd := fnOf name qual params body scope dV kV doc pm an cdv ct) (body := body) (binds := [(x1, w1), (x2, w2)]) (by omega) (X₀ _ _ ho) rfl (ok.g.T.nolimit.keeps F.keep) (codeRec_of X₀ hcd) rfl (hbind s _ X₀ hv) rfl ?_ (fun s₁ ic => ?_) hco hgen hk
  · intro x hx
    refine .inr ?_
    show scope.names.lookup x.1 = some .cell ∧ ((cellsFrom (s.heap.objs.size + 1) scope.names []).lookup x.1).isSome = true
    rw [hcells]
    rcases List.mem_cons.mp hx with rfl | hx
    · exact ⟨hl1, by rw [hc1]; rfl⟩
    · rw [List.mem_singleton.mp hx]
      exact ⟨hl2, by rw [hc2]; rfl⟩
  generalize hen : callEnvC (fnOf name qual params body scope dV kV doc pm an cdv ct) s.heap.objs.size f = env at ic ⊢
  have e1 : env.locals = s.heap.objs.size := by rw [← hen]; rfl
  have e2 : env.cells = [(x2, s.heap.objs.size + 2), (x1, s.heap.objs.size + 1)] := by rw [← hen]; exact hcells
  have e3 : env.scope = scope := by rw [← hen]; rfl
  have ek1 : ¬ env.kindOf x1 = some .local := by
    show ¬ env.scope.names.lookup x1 = some .local
    rw [e3, hl1]; decide
  have ek2 : ¬ env.kindOf x2 = some .local := by
    show ¬ env.scope.names.lookup x2 = some .local
    rw [e3, hl2]; decide
  generalize bindL env.kindOf [(x1, w1), (x2, w2)] (fun _ => none) = m0 at ic
  obtain ⟨h₁, tk, rfl⟩ := ic.toInCall.same
  have up : ∀ b o, s.heap.get? b = some o → h₁.get? b = some o := ic.toInCall.keep
  have g1 : ∃ o, h₁.get? (s.heap.objs.size + 1) = some o ∧ o.data = .cell (some w1) := by
    have := ic.cell x1 (s.heap.objs.size + 1) (by rw [e2]; exact hc1)
    unfold bindC bindC bindC at this
    rw [if_neg ek1, if_neg ek2] at this
    simpa [hx12, Heap.IsCell] using this
  have g2 : ∃ o, h₁.get? (s.heap.objs.size + 2) = some o ∧ o.data = .cell (some w2) := by
    have := ic.cell x2 (s.heap.objs.size + 2) (by rw [e2]; exact hc2)
    unfold bindC bindC bindC at this
    rw [if_neg ek1, if_neg ek2] at this
    simpa [Heap.IsCell] using this
  obtain ⟨o1, g1, q1⟩ := g1
  obtain ⟨o2, g2, q2⟩ := g2
  have ok' : (callee c A env c.L oL frs d).Ok := by
    refine ⟨ok.g, ?_, rfl, by show (env.scope.names.map (·.1)).Nodup; rw [e3]; exact hnd, by show env.frame = some env.locals; rw [← hen]; rfl, by show env.scope.kind = _; rw [e3]; exact hk, rfl, by show env.scope.kind = _; rw [e3]; exact hk, by show env.globals = _; rw [← hen]; rfl, by show env.builtins = _; rw [← hen]; rfl, by show (env.scope.names.map (·.1)).Nodup; rw [e3]; exact hnd, ?_, ?_, fun _ => rfl, (fun _ h => nomatch h), fun _ _ _ h => h⟩
    · show A.frames.map _ = _
      rw [hf]; rfl
    · show A.depth + 1 + d < _
      omega
    · show A.units + 3 + 4 * d + 100 < _
      omega
  have hcL : (callee c A env c.L oL frs d).L = s.heap.objs.size := e1
  have hlo0 : ∀ x v, ¬ Has scope.names lo0 x v := by
    intro x v hx
    subst hlo
    have : ∀ ns : Nms, ¬ Has ns (ns.map fun _ => none) x v := by
      intro ns
      induction ns with
      | nil => intro h; cases h
      | cons p r ih => intro h; cases h with | there h => exact ih h
    exact this _ hx
  have n' : NowAt (callee c A env c.L oL frs d) (c.rest ++ z) lo0 ob { s with heap := h₁, toks := tk } m0 os ((c.L, oL) :: frs) := by
    refine ⟨⟨ic.toInCall.ns, fun b o e => up b o (F.keep b o e), by show c.g.hb.objs.size ≤ env.locals; rw [e1]; exact Nat.le_trans F.above (Nat.le_of_lt hLt)⟩, fun x v hx => absurd (by rw [← e3]; exact hx) (hlo0 x v), n.rs, fun q hq => ?_, n.nd, ⟨⟨?_, ok.fframe, ⟨es, ep, hLd⟩, n.fm.fs⟩, TI.SameUp.refl _⟩, (fun a ha hm => ?_), n.og⟩
    · have hin : s.heap.get? q.1 = some q.2 ∧ c.g.hb.get? q.1 = none := by
        simp only [List.nil_append, List.mem_append, List.mem_cons] at hq
        rcases hq with h | (h | h) | rfl | h
        · exact ⟨(n.N q (by simp [h])).1, (n.N q (by simp [h])).2.2⟩
        · exact ⟨(n.N q (by simp [h])).1, (n.N q (by simp [h])).2.2⟩
        · exact ⟨(n.N q (by simp [h])).1, (n.N q (by simp [h])).2.2⟩
        · exact ⟨hL, Heap.get?_none_of_le F.above⟩
        · exact ⟨(n.N q (by simp [h])).1, (n.N q (by simp [h])).2.2⟩
      exact ⟨up _ _ hin.1, by rw [hcL]; exact Nat.ne_of_lt (Heap.lt_size hin.1), hin.2⟩
    · rw [ok.fkind]; decide
    · rcases List.mem_cons.mp hm with e | hm
      · obtain ⟨q, hq, e'⟩ := List.mem_map.mp ha
        have hq' : q ∈ os ++ ((c.rest ++ z) ++ frs) := by
          simp only [List.nil_append, List.mem_append] at hq ⊢
          rcases hq with h | h | h
          · exact .inl h
          · exact .inr (.inl (.inl h))
          · exact .inr (.inl (.inr h))
        exact (n.N q hq').2.1 (e'.trans e)
      · exact n.ap a ha (by rw [← sameUp_addrs n.fm.su]; exact hm)
  have hlt : ∀ p ∈ os ++ (([] ++ (c.rest ++ z)) ++ (c.L, oL) :: frs), p.1 < s.heap.objs.size := fun p hp => by
    simp only [List.nil_append, List.mem_append, List.mem_cons] at hp
    rcases hp with h | (h | h) | rfl | h
    · exact n.frs_lt p (by simp [h])
    · exact n.frs_lt p (by simp [h])
    · exact n.frs_lt p (by simp [h])
    · exact hLt
    · exact n.frs_lt p (by simp [h])
  have nn2 := n'.add (s' := { s with heap := h₁, toks := tk }) (D := s.heap.objs.size + 2) (o := o2) (b := .cell v2) n'.F (fun p hp => by
    rcases List.mem_cons.mp hp with rfl | hp
    · exact ⟨g2, by rw [hcL]; exact Nat.ne_of_gt (Nat.lt_add_of_pos_right (by decide)), Heap.get?_none_of_le (Nat.le_trans F.above (Nat.le_trans (Nat.le_of_lt hLt) (Nat.le_add_right _ _)))⟩
    · exact n'.N p hp) ⟨w2, q2, r2⟩ fun p hp e => by
      have := hlt p hp
      rw [e] at this
      exact Nat.lt_irrefl _ (Nat.lt_of_le_of_lt (Nat.le_add_right _ 2) this)
  have nn1 := nn2.add (s' := { s with heap := h₁, toks := tk }) (D := s.heap.objs.size + 1) (o := o1) (b := .cell v1) nn2.F (fun p hp => by
    rcases List.mem_cons.mp hp with rfl | hp
    · exact ⟨g1, by rw [hcL]; exact Nat.ne_of_gt (Nat.lt_add_of_pos_right (by decide)), Heap.get?_none_of_le (Nat.le_trans F.above (Nat.le_trans (Nat.le_of_lt hLt) (Nat.le_add_right _ _)))⟩
    · exact nn2.N p hp) ⟨w1, q1, r1⟩ fun p hp e => by
      rcases List.mem_cons.mp hp with rfl | hp
      · have e' : s.heap.objs.size + 2 = s.heap.objs.size + 1 := e
        exact absurd (Nat.add_left_cancel e') (by decide)
      · have := hlt p hp
        rw [e] at this
        exact Nat.lt_irrefl _ (Nat.lt_of_le_of_lt (Nat.le_add_right _ 1) this)
  refine wpAny_mono (h _ _ _ ok' rfl e2 (by rw [← e3]) (by rw [← e3]) rfl rfl (fun q => hh q) (c.rest ++ z) { s with heap := h₁, toks := tk } ⟨m0, (s.heap.objs.size + 1, o1) :: (s.heap.objs.size + 2, o2) :: os, (c.L, oL) :: frs, nn1⟩) (fun fl s' hl => ?_) fun e s' hx => ?_
  · obtain ⟨gf, lo', ob', hg', ⟨m', os', frs', nn⟩, hq'⟩ := hl
    have nn2 : Now c z lo ob' s' := by
      refine ⟨m, os', frs'.tail, ?_⟩
      have hsu := nn.fm.su
      cases frs' with
      | nil => exact hsu.elim
      | cons q qs =>
        refine of_gen fun _ kg => ?_
        obtain ⟨h1, ⟨sl, h2⟩, SU'⟩ := hsu
        refine kg ?_
        have hq := (nn.N q (List.mem_append_right _ (List.mem_append_right _ List.mem_cons_self))).1
        have h1' : q.1 = c.L := h1
        have h2' : q.2 = { oL with slots := sl } := h2
        rw [h1', h2'] at hq
        have hap : ∀ a ∈ (os' ++ (c.rest ++ z)).map (·.1), a ≠ c.L ∧ a ∉ frs.map (·.1) := fun a ha => ⟨fun e => nn.ap a ha (by rw [e]; exact .head _), fun hm => nn.ap a ha (.tail _ hm)⟩
        refine ⟨⟨⟨_, es, ep, hq, hLd, hLk, hLf⟩, nn.F.keep, F.above⟩, n.lr, nn.rs, fun r hr => ?_, nn.nd, n.fm.up SU', (fun a ha hm => ?_), nn.og⟩
        · rw [List.tail_cons] at hr
          have hr' : r ∈ os' ++ (([] ++ (c.rest ++ z)) ++ q :: qs) := by
            simp only [List.nil_append, List.mem_append, List.mem_cons] at hr ⊢
            rcases hr with h | (h | h) | h
            · exact .inl h
            · exact .inr (.inl (.inl h))
            · exact .inr (.inl (.inr h))
            · exact .inr (.inr (.inr h))
          refine ⟨(nn.N r hr').1, ?_, (nn.N r hr').2.2⟩
          simp only [List.mem_append] at hr
          rcases hr with h | (h | h) | h
          · exact (hap r.1 (List.mem_map_of_mem (by simp [h]))).1
          · exact (hap r.1 (List.mem_map_of_mem (by simp [h]))).1
          · exact (hap r.1 (List.mem_map_of_mem (by simp [h]))).1
          · obtain ⟨r₀, hr₀, e⟩ := TI.SameUp.fwd SU' r h
            rw [e]
            exact (n.N r₀ (List.mem_append_right _ (List.mem_append_right _ hr₀))).2.1
        · exact (hap a ha).2 (by rw [← sameUp_addrs n.fm.su] at hm; exact hm)
    cases gf with
    | next => cases hg'; exact ⟨V.none, ob', rfl, nn2, hq'⟩
    | brk => cases hg'; exact ⟨V.none, ob', rfl, nn2, hq'⟩
    | cont => cases hg'; exact ⟨V.none, ob', rfl, nn2, hq'⟩
    | ret v => obtain ⟨cv, rfl, hr⟩ := hg'; exact ⟨v, ob', hr, nn2, hq'⟩
  · exact hX c A env oL frs d m z lo e s' ok ok' n.fm n.lr ⟨es, ep, hLd, hLk, hLf⟩ F.above (fun p hp => (n.N p (List.mem_append_right _ (List.mem_append_right _ hp))).2.1) hx
end Mine
end
section
namespace Mine
section
variable {c : Cx} {lo lo1 : Loc} {ob ob' oth : Obs} {X : QT Addr} {Q : QT V} {QF : QT AF} {a b : Addr} {v : V} {vs ws : List V} {TK ini : Addr} {attrs : List Str} {meths fns : List (Str × Addr)} {blts : List (Str × Value)}
theorem sub_at {value slice : Expr} {i : Int} (hm : LA c ob a vs) (h0 : 0 ≤ i) (hz : vs.length ≤ 100000) (he : vs[i.toNat]? = some v) (h : Q v lo ob)
    (hs : ∀ u, subscripted slice false (.ref a) (.int i u) = operate [.ref a, .int i u] (getItem (.ref a) (.int i u)) := by intro _; with_unfolding_all rfl) : Sub2 c value slice (.ref a) (.int i) Q X lo ob := by
  rintro _ _ rfl ⟨u, rfl⟩ z s n0
  refine of_gen fun _ kg => ?_
  obtain ⟨m, os, frs, n⟩ := n0
  obtain ⟨cs, hil, hr⟩ := hm.at n
  obtain ⟨cv, e1, e2⟩ := hr.get _ _ he
  refine kg ?_
  have hi : i.toNat < vs.length := (List.getElem?_eq_some_iff.mp he).1
  exact tail_any hil.typeIs slot_list_getitem.lookup (wpAny_getItem_list (items := cs.toArray) (x := cv) hil h0 (by omega) (by simpa using e1) ⟨v, lo, ob, e2, ⟨m, os, frs, n⟩, h⟩) (hs u)
theorem sub_lastE {value slice : Expr} (hm : LA c ob a vs) (he : vs[vs.length - 1]? = some v) (hz : vs.length ≤ 100000) (h : Q v lo ob)
    (hs : ∀ u, subscripted slice false (.ref a) (.int (-1) u) = operate [.ref a, .int (-1) u] (getItem (.ref a) (.int (-1) u)) := by intro _; with_unfolding_all rfl) : Sub2 c value slice (.ref a) (.int (-1)) Q X lo ob := by
  rintro _ _ rfl ⟨u, rfl⟩ z s n0
  refine of_gen fun _ kg => ?_
  obtain ⟨m, os, frs, n⟩ := n0
  obtain ⟨cs, hil, hr⟩ := hm.at n
  obtain ⟨cv, e1, e2⟩ := hr.get _ _ he
  refine kg ?_
  have hi : vs.length - 1 < vs.length := (List.getElem?_eq_some_iff.mp he).1
  have hl : cs.length = vs.length := hr.length.symm
  refine tail_any hil.typeIs slot_list_getitem.lookup (wpAny_getItem_list_neg (items := cs.toArray) (x := cv) hil (by omega) (by rw [List.size_toArray, hl]; omega) (by omega) ?_ ⟨v, lo, ob, e2, ⟨m, os, frs, n⟩, h⟩) (hs u)
  rw [List.size_toArray, hl, show ((-1 : Int) + (vs.length : Int)).toNat = vs.length - 1 by omega]
  simpa using e1
theorem any_boolsE {bs : List Bool} {b : Bool} (hh : c.B.handled = none) (hm : LA c ob a (bs.map V.bool)) (he : bs.any id = b) (h : Q (.bool b) lo ob) : Cal c (.cv (.builtin "any")) [.ref a] Q X lo ob := by
  subst he
  rintro _ cs rfl hv z s n0
  obtain ⟨_, rfl, rfl⟩ := VRs1 hv
  obtain ⟨m, os, frs, n⟩ := id n0
  obtain ⟨cs, hi, hr⟩ := hm.at n
  exact LSm.any_bools n.F n.N hh hi (bools_are _ _ hr) fun h' tk F' N' => LQ.bool ⟨m, os, frs, n.go (s' := { s with heap := h', toks := tk }) F' N'⟩ h
theorem max_ints {i j : Int} (hh : c.B.handled = none) (h : Q (.int (max i j)) lo ob) : Cal c (.cv (.builtin "max")) [.int i, .int j] Q X lo ob := by
  rintro _ cs rfl hv z s n0
  refine of_gen fun _ kg => ?_
  obtain ⟨_, _, rfl, ⟨t, rfl⟩, u, rfl⟩ := VRs2 hv
  obtain ⟨m, os, frs, n⟩ := n0
  refine kg ?_
  refine max_two_N hh n.F n.N fun h' tk F' N' => ?_
  have e : (if j > i then j else i) = max i j := by omega
  rw [e]
  exact LQ.int ⟨m, os, frs, n.go (s' := { s with heap := h', toks := tk }) F' N'⟩ h
noncomputable abbrev FnT (g : G) (f : Addr) (args : List V) (d : Nat) (hq : Bool) (ob1 ob0 : Obs) : Prop := FnC g f args d hq (fun _ _ => False) (fun a ob => ob = (a, .exc (.type "TypeError") none none) :: ob1) ob0
theorem cal_T {f : Addr} {args : List V} {d : Nat} {hq : Bool} {small ob1 : Obs} (ok : c.Ok) (pk : Picks ob small oth) (F : FnT c.g f args d hq ob1 small) (q : App ob1 oth ob') (hd : d ≤ c.d) (hh : hq = true ∨ c.B.handled = none)
    (h : ∀ a, X a lo ((a, .exc (.type "TypeError") none none) :: ob')) : Cal c (.ref f) args Q X lo ob :=
  cal_fn (QF := fun _ _ => False) (XF := fun a ob => ob = (a, .exc (.type "TypeError") none none) :: ob') ok (FnC.frame pk (F.mono (fun _ _ x => x.elim) fun a ob e => by rw [e, ← q.eq]; rfl)) hd hh (fun _ _ x => x.elim) fun a ob e => by rw [e]; exact h a
theorem hdls_bltT {x : Str} {p hpos : Pos} {ns : Nms} {b0 : Stmt} {hb : List Stmt} {r : List ExceptHandler} {cls : Value} {d : Option Addr} {arg : Option V} {ct : Value} (ok : c.Ok) (H : TkF c.g TK ini attrs meths fns blts) (hm : (a, Ob.exc cls d arg) ∈ ob) (hns : c.env.scope.names = ns) (hk : InN ns x .globalImplicit) (hx : (x, ct) ∈ blts)
    (he : exmOne c.g.K cls ct = some true) (h : (Mine.mk c a).Ok → W (Mine.mk c a) FR (execs (b0 :: hb) (Mine.mk c a).env) QF X lo ob) : Hdls c QF X (.ExceptHandler (some (.Name x p)) none (b0 :: hb) hpos :: r) a lo ob :=
  hdls_yes hm (nameIs_blt (c := Mine.mk c a) (mk_ok ok a) hns hk (H.blt _ hx).1 (H.blt _ hx).2.1 (H.blt _ hx).2.2.1 (H.blt _ hx).2.2.2) he (h (mk_ok ok a))
theorem hdls_bltN {x : Str} {y : Option Str} {p hpos : Pos} {ns : Nms} {b0 : Stmt} {hb : List Stmt} {r : List ExceptHandler} {cls : Value} {d : Option Addr} {arg : Option V} {ct : Value} (ok : c.Ok) (H : TkF c.g TK ini attrs meths fns blts) (hm : (a, Ob.exc cls d arg) ∈ ob) (hns : c.env.scope.names = ns) (hk : InN ns x .globalImplicit) (hx : (x, ct) ∈ blts)
    (he : exmOne c.g.K cls ct = some false) (h : Hdls c QF X r a lo ob) : Hdls c QF X (.ExceptHandler (some (.Name x p)) y (b0 :: hb) hpos :: r) a lo ob :=
  hdls_no hm (nameIs_blt (c := Mine.mk c a) (mk_ok ok a) hns hk (H.blt _ hx).1 (H.blt _ hx).2.1 (H.blt _ hx).2.2.1 (H.blt _ hx).2.2.2) he h
end
theorem la_from {α : Type} {l : List α} {f : α → V} {k : Nat} : cut (l.map f) (some (k : Int)) none = (l.drop k).map f := by
  have e : ¬ ((k : Int) < 0) := by omega
  unfold cut kms_lo kms_hi
  simp only [if_neg e, Int.toNat_natCast, List.length_map]
  rw [List.take_of_length_le (by rw [List.length_drop, List.length_map]; omega), ← List.map_drop]
  rcases Nat.le_total k l.length with h | h
  · rw [Nat.min_eq_left h]
  · rw [Nat.min_eq_right h, List.drop_length, List.drop_eq_nil_of_le h]
theorem la_neg1 {α : Type} {l : List α} {f : α → V} : cut (l.map f) none (some (-1)) = l.dropLast.map f := by
  have e : kms_hi (some (-1)) (l.map f).length = l.length - 1 := by
    unfold kms_hi
    simp
  have e2 : kms_lo none (l.map f).length = 0 := rfl
  unfold cut
  rw [e, e2, List.drop_zero, Nat.sub_zero, List.dropLast_eq_take, List.map_take]
end Mine
end
section
namespace Mine
noncomputable abbrev badE : List Nat := [98, 97, 100, 32, 101, 115, 99, 97, 112, 101, 32, 40, 101, 110, 100, 32, 111, 102, 32, 112, 97, 116, 116, 101, 114, 110, 41]
noncomputable def GwQ (ty : Bool) (l : List Nat) (r : List (List Nat)) (e : Bool) (n m : Nat) (tk : Nat → Option (List Nat) → Obs) : V → Obs → Prop := fun v ob =>
  ∃ i2 o2 p2, TkZ l (r.drop m) e i2 o2 p2 ∧ (m < r.length ∨ e = false ∧ (ty = true → n ≤ m)) ∧ v = .str (r.take m).flatten ∧ ob = tk i2 o2
noncomputable def GwX (ty : Bool) (PE : Addr) (l : List Nat) (st : V) (r : List (List Nat)) (e : Bool) (n m : Nat) (tk : Nat → Option (List Nat) → Obs) : Addr → Obs → Prop := fun a ob =>
  (∃ i2 o2 p2, TkZ l (r.drop (m - 1)) e i2 o2 p2 ∧ e = true ∧ m = r.length ∧ ZX PE badE l st ((l.length : Int) - 1) (tk i2 o2) a ob) ∨
    ∃ i2 o2 p2, TkZ l (r.drop m) e i2 o2 p2 ∧ e = false ∧ m = r.length ∧ m < n ∧ ty = true ∧ ob = (a, .exc (.type "TypeError") none none) :: tk i2 o2
section
variable {g : G} {f PE : Addr} {args : List V} {d : Nat} {hq ty e : Bool} {l : List Nat} {st : V} {r : List (List Nat)} {n m i2 p2 : Nat} {o2 : Option (List Nat)} {tk : Nat → Option (List Nat) → Obs} {ob0 : Obs}
theorem gwN (F : FnC g f args d hq (GwQ ty l r e n m tk) (GwX ty PE l st r e n m tk) ob0) (hb : m < r.length ∨ e = false ∧ (ty = true → n ≤ m)) (H2 : TkZ l (r.drop m) e i2 o2 p2) : FnE g f args d hq (.str (r.take m).flatten) (tk i2 o2) ob0 := by
  refine F.mono ?_ ?_
  · rintro v ob ⟨i3, o3, p3, H3, _, rfl, rfl⟩
    obtain ⟨rfl, rfl, _⟩ := tkz_one H2 H3
    exact ⟨rfl, rfl⟩
  · rintro a ob (⟨_, _, _, _, he, hm, _⟩ | ⟨_, _, _, _, he, hm, hn, ht, _⟩)
    · rcases hb with hb | ⟨hb, _⟩
      · rw [hm] at hb; exact Nat.lt_irrefl _ hb
      · rw [he] at hb; cases hb
    · rcases hb with hb | ⟨_, hb⟩
      · rw [hm] at hb; exact Nat.lt_irrefl _ hb
      · exact Nat.lt_irrefl _ (Nat.lt_of_lt_of_le hn (hb ht))
theorem gwZ (F : FnC g f args d hq (GwQ ty l r e n m tk) (GwX ty PE l st r e n m tk) ob0) (he : e = true) (hm : m = r.length) (H2 : TkZ l (r.drop (m - 1)) e i2 o2 p2) : FnZ g f args d hq PE badE l st ((l.length : Int) - 1) (tk i2 o2) ob0 := by
  refine F.mono ?_ ?_
  · rintro v ob ⟨_, _, _, _, hb, _⟩
    rcases hb with hb | ⟨hb, _⟩
    · rw [hm] at hb; exact Nat.lt_irrefl _ hb
    · rw [he] at hb; cases hb
  · rintro a ob (⟨i3, o3, p3, H3, _, _, hz⟩ | ⟨_, _, _, _, hb, _⟩)
    · obtain ⟨rfl, rfl, _⟩ := tkz_one H2 H3
      exact hz
    · rw [he] at hb; cases hb
theorem gwT (F : FnC g f args d hq (GwQ ty l r e n m tk) (GwX ty PE l st r e n m tk) ob0) (he : e = false) (hm : m = r.length) (hn : m < n) (ht : ty = true) (H2 : TkZ l (r.drop m) e i2 o2 p2) : FnT g f args d hq (tk i2 o2) ob0 := by
  refine F.mono ?_ ?_
  · rintro v ob ⟨_, _, _, _, hb, _⟩
    rcases hb with hb | ⟨_, hb⟩
    · rw [hm] at hb; exact Nat.lt_irrefl _ hb
    · exact Nat.lt_irrefl _ (Nat.lt_of_lt_of_le hn (hb ht))
  · rintro a ob (⟨_, _, _, _, hb, _⟩ | ⟨i3, o3, p3, H3, _, _, _, _, hz⟩)
    · rw [he] at hb; cases hb
    · obtain ⟨rfl, rfl, _⟩ := tkz_one H2 H3
      exact hz
end
section
variable {ty e : Bool} {PE : Addr} {l : List Nat} {st : V} {r : List (List Nat)} {n m i2 p2 : Nat} {o2 : Option (List Nat)} {tk : Nat → Option (List Nat) → Obs} {ob d : Obs} {a dd T : Addr}
theorem gwq_intro (pk : Picks ob (tk i2 o2) d) (H2 : TkZ l (r.drop m) e i2 o2 p2) (hb : m < r.length ∨ e = false ∧ (ty = true → n ≤ m)) {v : V} (hv : v = .str (r.take m).flatten) : Frg (GwQ ty l r e n m tk v) ob := frg_intro pk ⟨_, _, _, H2, hb, hv, rfl⟩
theorem gwx_z (pk : Picks ob ((a, .exc (.ref PE) (some dd) (some (.ref T))) :: (dd, .dct (peD badE l ((l.length : Int) - 1) st)) :: (T, .tup [.str (wordsN badE l ((l.length : Int) - 1))]) :: tk i2 o2) d) (H2 : TkZ l (r.drop (m - 1)) e i2 o2 p2) (he : e = true) (hm : m = r.length) : FrgX (GwX ty PE l st r e n m tk) a ob :=
  ⟨_, _, pk, ⟨_, _, _, .head _⟩, .inl ⟨_, _, _, H2, he, hm, dd, T, rfl⟩⟩
theorem gwx_t (pk : Picks ob ((a, .exc (.type "TypeError") none none) :: tk i2 o2) d) (H2 : TkZ l (r.drop m) e i2 o2 p2) (he : e = false) (hm : m = r.length) (hn : m < n) (ht : ty = true) : FrgX (GwX ty PE l st r e n m tk) a ob :=
  ⟨_, _, pk, ⟨_, _, _, .head _⟩, .inr ⟨_, _, _, H2, he, hm, hn, ht, rfl⟩⟩
end
theorem rsize0 (n : Int) : Builtin.Range.rangeSize 0 n 1 = ((n.toNat : Nat) : Int) := by
  unfold Builtin.Range.rangeSize
  rw [if_pos (by decide)]
  split
  · rw [Int.ediv_one]; omega
  · omega
theorem notin_subE {c : Cx} {lo : Loc} {ob : Obs} {X : QT Addr} {Q : QT V} {h s : List Nat} {b : Bool} (hs : s ≠ []) (he : inS h s = b) (hq : Q (.bool (!b)) lo ob) : Cmp c .NotIn (.str s) (.str h) Q X lo ob := notin_sub hs (by rw [he]; exact hq)
theorem gwM_ge {hd : List Nat → Bool} {n : Nat} {ss : List (List Nat)} {k : Nat} (hk : k ≤ n) (hs : k ≤ ss.length) (ha : ∀ s ∈ ss.take k, hd s = true) : k ≤ gwM hd n ss := by
  unfold gwM
  have e : ss.take n = ss.take k ++ (ss.drop k).take (n - k) := by
    rw [← List.take_append_drop k (ss.take n), List.take_take, Nat.min_eq_left hk, List.drop_take]
  rw [e, List.takeWhile_append_of_pos ha, List.length_append, List.length_take, Nat.min_eq_left hs]
  exact Nat.le_add_right _ _
theorem tkz_step {ss : List (List Nat)} {k : Nat} {s : List Nat} {r : List (List Nat)} (h : ss.drop k = s :: r) {hd : List Nat → Bool} (ha : ∀ x ∈ ss.take k, hd x = true) (hs : hd s = true) : (k + 1 ≤ ss.length ∧ (ss.take k).flatten ++ s = (ss.take (k + 1)).flatten ∧ ss.drop (k + 1) = r) ∧ ∀ x ∈ ss.take (k + 1), hd x = true := by
  obtain ⟨g1, g2, g3⟩ := take_step h
  refine ⟨⟨g1, by rw [g2, List.flatten_append, List.flatten_singleton], g3⟩, fun x hx => ?_⟩
  rw [g2] at hx
  exact (List.mem_append.mp hx).elim (ha x) fun h => by rw [List.mem_singleton.mp h]; exact hs
theorem tkz_flat {l : List Nat} {ss : List (List Nat)} {e : Bool} {i p : Nat} {o : Option (List Nat)} (h : TkZ l ss e i o p) (k : Nat) : (ss.take k).flatten.length ≤ l.length := by
  have q := congrArg List.length h.w
  have e1 : ss.flatten = (ss.take k).flatten ++ (ss.drop k).flatten := by rw [← List.flatten_append, List.take_append_drop]
  rw [e1, List.length_drop, List.length_append, List.length_append] at q
  have := h.z
  omega
end Mine
end
section
namespace Mine
end Mine
end
section
namespace Mine
section
variable {α : Type} {c : Cx} {lo lo1 : Loc} {ob oth d : Obs} {X : QT Addr} {Q : QT V} {a : Addr} {tg : Expr} {body : List Stmt}
theorem isub_ints {i j : Int} (h : Q (.int (i - j)) lo ob) : Inp c .Sub (.int i) (.int j) Q X lo ob := by rintro _ _ ⟨t, rfl⟩ ⟨u, rfl⟩ z s n; exact PyProof.Rows.isub_int (LQ.int (n.toks rfl) h)
theorem eq_strsE {x y : List Nat} {k : Bool} (he : decide (x = y) = k) (h : Q (.bool k) lo ob) : Cmp c .Eq (.str x) (.str y) Q X lo ob := Mine.eq_strs (by rw [he]; exact h)
theorem min_intsE {i j k : Int} (hh : c.B.handled = none) (he : min i j = k) (h : Q (.int k) lo ob) : Cal c (.cv (.builtin "min")) [.int i, .int j] Q X lo ob := min_ints hh (by rw [he]; exact h)
theorem len_listE {vs : List V} {n : Nat} (hm : (a, .list vs) ∈ ob) (he : vs.length = n) (hz : n ≤ 100000) (h : Q (.int (n : Int)) lo ob) : Cal c (.cv (.builtin "len")) [.ref a] Q X lo ob := len_list hm (he ▸ hz) (he ▸ h)
theorem ne_ovE {o : Option (List Nat)} (h : Q (.bool false) lo ob) : Cmp c .NotEq (ovV o) (ovV o) Q X lo ob := by
  cases o with
  | none => exact Mine.ne_none_none h
  | some s => exact Mine.ne_strs (by rw [decide_eq_false (fun h => h rfl)]; exact h)
theorem For_rangeS {p q : Int} {n : Nat} {QF : QT AF} (hh : c.B.handled = none) (hE : Passes c X) (h0 : -1000 ≤ p) (h1 : q ≤ 100000) (hn : q - p = (n : Int)) (hp : Picks ob [(a, .rng p q)] oth)
    (I : Nat → α → Prop) (lo1 : Loc) (ob1 : α → Obs) (x : α) (hl : LoS lo lo1) (hp2 : Picks oth (ob1 x) d) (hI : I 0 x)
    (turn : ∀ T : QT AF, ∀ k x, k < n → I k x → (∀ y (lo : Loc) (ob d : Obs), LoS lo lo1 → Picks ob (ob1 y) d → I (k + 1) y → T .next lo ob) → Asg c tg (.int (p + (k : Int))) (fun lo ob => W c FR (execs body c.env) T X lo ob) X lo1 (ob1 x))
    (hend : ∀ x, I n x → QF .next lo1 (ob1 x)) : ForIn c (.ref a) tg body QF X lo ob := by
  refine For_range hh hE hp (small_one (by omega) (by omega) (by omega) (by omega)) (rsize hn) ⟨lo1, ob1 x, d, hl, hp2, forW_X I lo1 ob1 hI (fun k v x hv hI => ?_) (by rw [List.length_map, List.length_range]; exact hend)⟩
  rw [List.getElem?_map] at hv
  by_cases hk : k < n
  · rw [List.getElem?_range hk] at hv
    cases hv
    exact turn _ k x hk hI fun y lo ob d l p h => turn_next (kept y l p h)
  · rw [List.getElem?_eq_none (by simpa using hk)] at hv
    cases hv
end
theorem zip_ints (l : List Nat) : (((l.map fun (k : Nat) => V.int (k : Int)).zip ((l.drop 1).map fun (k : Nat) => V.int (k : Int))).map fun p => [p.1, p.2]) = (l.zip l.tail).map fun p => [V.int (p.1 : Int), V.int (p.2 : Int)] := by
  rw [List.zip_map, List.map_map, List.drop_one]
  rfl
theorem sgs_ne {l : List Nat} (h : l ≠ []) : sgs l ≠ [] := by
  intro e
  have := sgs_flat l
  rw [e] at this
  exact h this.symm
theorem lone_last {l : List Nat} (h : l ≠ []) {ss : List (List Nat)} {e : Bool} (hs : sgs l = ss ++ tlZ e) (g : ∀ s ∈ ss, SgO s) : ∃ s, ((sgs l).map V.str)[((sgs l).map V.str).length - 1]? = some (V.str s) ∧ decide (s = [92]) = e := by
  have hn := sgs_ne h
  rw [hs] at hn
  rw [hs, List.length_map, List.getElem?_map]
  cases e with
  | true =>
    refine ⟨[92], ?_, rfl⟩
    have : (ss ++ tlZ true)[(ss ++ tlZ true).length - 1]? = some [92] := by
      show (ss ++ [[92]])[(ss ++ [[92]]).length - 1]? = some [92]
      rw [List.length_append]
      simp
    rw [this]; rfl
  | false =>
    have e0 : ss ++ tlZ false = ss := List.append_nil ss
    rw [e0] at hn ⊢
    have hp : ss.length - 1 < ss.length := Nat.sub_lt (List.length_pos_iff.mpr hn) Nat.one_pos
    refine ⟨ss[ss.length - 1], by rw [List.getElem?_eq_getElem hp]; rfl, decide_eq_false fun e => ?_⟩
    rcases g _ (List.getElem_mem hp) with ⟨c, hc, e2⟩ | ⟨d, e2⟩
    · rw [e] at e2; injection e2 with e2; exact hc e2.symm
    · rw [e] at e2; cases e2
theorem drop_lone {ss : List (List Nat)} : (ss ++ tlZ true).dropLast = ss := List.dropLast_concat
theorem gwM_min {hd : List Nat → Bool} {n : Nat} {ss : List (List Nat)} : gwM hd n ss = min (ss.takeWhile hd).length n := by
  have hp : ∀ s ∈ ss.takeWhile hd, hd s = true := fun s hs => mem_tw hs
  have ht : (ss.takeWhile hd) = ss.take (ss.takeWhile hd).length := List.prefix_iff_eq_take.mp (List.takeWhile_prefix hd)
  have hl : (ss.takeWhile hd).length ≤ ss.length := (List.takeWhile_sublist hd).length_le
  refine gwM_stop (Nat.min_le_right _ _) (Nat.le_trans (Nat.min_le_left _ _) hl) (fun s hs => hp s ?_) ?_
  · rw [Nat.min_comm, ← List.take_take] at hs
    have := List.mem_of_mem_take hs
    rwa [← ht] at this
  · rcases Nat.le_total n (ss.takeWhile hd).length with h | h
    · exact .inl (Nat.min_eq_right h)
    · refine .inr fun s r e => ?_
      rw [Nat.min_eq_left h] at e
      have hsplit := List.takeWhile_append_dropWhile (p := hd) (l := ss)
      have hd2 : ss.dropWhile hd = s :: r := by
        generalize ss.takeWhile hd = A at *
        generalize ss.dropWhile hd = B at *
        rw [← hsplit, List.drop_left] at e
        exact e
      cases hs : hd s with
      | false => rfl
      | true =>
        have := List.head?_dropWhile_not hd ss
        rw [hd2] at this
        simp [hs] at this
theorem tw_stop {hd : List Nat → Bool} {ss : List (List Nat)} {k : Nat} (hs : k ≤ ss.length) (ha : ∀ s ∈ ss.take k, hd s = true) (hb : ∀ s r, ss.drop k = s :: r → hd s = false) : (ss.takeWhile hd).length = k := by
  have h := gwM_stop (hd := hd) (n := ss.length) hs hs ha (.inr hb)
  unfold gwM at h
  rwa [List.take_length] at h
section
variable {β : Type} {c : Cx} {lo : Loc} {ob : Obs} {X : QT Addr} {Q : QT V} {QF : QT AF} {a : Addr} {vs ws : List V}
theorem S_cutA {st : Stmt} {r : List Stmt} (lo1 : β → Loc) (ob1 : β → Obs) (h : ∀ T : QT AF, (∀ (x : β) (lo : Loc) (ob d : Obs), LoS lo (lo1 x) → Picks ob (ob1 x) d → T .next lo ob) → W c FR (exec st c.env) T X lo ob) (k : ∀ x, W c FR (execs r c.env) QF X (lo1 x) (ob1 x)) : W c FR (execs (st :: r) c.env) QF X lo ob :=
  S_cut (fun lo ob => ∃ x, lo = lo1 x ∧ ob = ob1 x) (h _ fun x lo ob d l p => ⟨rfl, _, _, _, l, p, x, rfl, rfl⟩) fun lo ob ⟨x, e1, e2⟩ => by subst e1 e2; exact k x
theorem W_IfInts {t : Expr} {i j : Int} {k1 k2 : Nat} {p1 p2 p : Pos} (h : Tst c t (fun b lo ob => Q (.int (cond b i j)) lo ob) X lo ob) : W c VR (eval (.IfExp t (.Constant (.int i) k1 p1) (.Constant (.int j) k2 p2) p) c.env) Q X lo ob :=
  W_IfExp (h.mono (fun b lo ob q => by cases b; exact br_f (W_int q); exact br_t (W_int q)) fun _ _ _ x => x)
theorem cut_listE {value slice : Expr} {l u : Option Int} (hl : LA c ob a vs) (he : cut vs l u = ws) (hz : vs.length ≤ 100000) (h : ∀ D, Q (.ref D) lo ((D, .list ws) :: ob))
    (hs : ∀ k, subscripted slice false (.ref a) (.ref k) = operate [.ref k, .ref a] (getItem (.ref a) (.ref k)) := by intro _; with_unfolding_all rfl) (ht : ∀ r, letTemporaryGo value (.ref a) r = pure () := by intro _; with_unfolding_all rfl) : Cut c value slice (.ref a) l u Q X lo ob :=
  cut_list hl hz (fun D => by rw [he]; exact h D) hs ht
end
section
variable {l : List Nat} {r : List (List Nat)} {e : Bool} {i p : Nat} {o : Option (List Nat)}
theorem tkz_from (h : TkZ l r e i o p) {m : Nat} (hm : m ≤ r.length) (ne : e = true → m < r.length) : ∃ i2 o2, TkZ l (r.drop m) e i2 o2 (p + (r.take m).flatten.length) := by
  have e1 : r.flatten = (r.take m).flatten ++ (r.drop m).flatten := by rw [← List.flatten_append, List.take_append_drop]
  refine tkz_mk (fun s hs => h.g s (List.mem_of_mem_drop hs)) ?_ ?_ fun he hn => ?_
  · rw [← List.drop_drop, h.w, e1, List.append_assoc, List.drop_left]
  · have q := congrArg List.length h.w
    rw [e1, List.length_drop, List.length_append, List.length_append] at q
    have := h.z
    omega
  · have := ne he
    rw [List.drop_eq_nil_iff] at hn
    exact Nat.lt_irrefl _ (Nat.lt_of_lt_of_le this hn)
theorem tkz_next {m : Nat} (h : TkZ l (r.drop m) e i o p) (hm : m ≤ r.length) : (r.map V.str ++ [V.none])[m]? = some (ovV o) := by
  cases hd : r.drop m with
  | nil =>
    rw [hd] at h
    have hl : m = r.length := Nat.le_antisymm hm (List.drop_eq_nil_iff.mp hd)
    rw [(tkz_nil h).2.1, hl, List.getElem?_append_right (by rw [List.length_map]; exact Nat.le_refl _), List.length_map, Nat.sub_self]
    rfl
  | cons s r' =>
    rw [hd] at h
    have e0 : r[m]? = some s := by
      have := congrArg (·[0]?) hd
      simpa using this
    have hlt : m < r.length := (List.getElem?_eq_some_iff.mp e0).1
    rw [(tkz_cons h).1, List.getElem?_append_left (by rw [List.length_map]; exact hlt), List.getElem?_map, e0]
    rfl
theorem plc_from {ss : List (List Nat)} {e : Bool} {i m : Nat} (hi : i + m ≤ ss.length) : ((plc (ss ++ tlZ e)).map fun (k : Nat) => V.int (k : Int))[i + m]? = some (V.int (((ss.take i).flatten.length + ((ss.drop i).take m).flatten.length : Nat) : Int)) := by
  rw [List.getElem?_map, plc_at (by rw [List.length_append]; exact Nat.le_trans hi (Nat.le_add_right _ _)), List.take_append_of_le_length hi, List.take_add, List.flatten_append, List.length_append]
  rfl
theorem sgs_lone {l : List Nat} {ss : List (List Nat)} {e : Bool} (h : l = ss.flatten ++ (tlZ e).flatten) (hn : l ≠ [92]) : e = true → ss ≠ [] := by
  rintro rfl rfl
  exact hn h
end
end Mine
end
section
open PySem PySem.W PyProof.Rows PySem.Spec PySem.Calls
set_option pp.maxSteps 600
namespace Mine
set_option maxHeartbeats 4000000
structure GK (g : G) : Prop where
  hp : g.prog = PySem.Challenge.rw_kq0017_07.row.prog
  hK : g.K = Mine.fr.heap_1_39 g.w.params
  tk : TkF g 133 58 [Str.ofString "istext", Str.ofString "string", Str.ofString "decoded_string", Str.ofString "index", Str.ofString "next"] [(Str.ofString "_Tokenizer__next", 65), (Str.ofString "tell", 108), (Str.ofString "seek", 115), (Str.ofString "getwhile", 86)] [(Str.ofString "Tokenizer", 133), (Str.ofString "PatternError", 41), (Str.ofString "error_constants", 41), (Str.ofString "_law_octets", 142), (Str.ofString "_law_starts", 149), (Str.ofString "_law_words", 156), (Str.ofString "_law_told", 163), (Str.ofString "_law_pattern", 168), (Str.ofString "_law_got", 175), (Str.ofString "_law_within", 180)] [(Str.ofString "isinstance", .builtin "isinstance"), (Str.ofString "str", .type "str"), (Str.ofString "IndexError", .type "IndexError"), (Str.ofString "TypeError", .type "TypeError"), (Str.ofString "len", .builtin "len"), (Str.ofString "range", .type "range"), (Str.ofString "sum", .builtin "sum"), (Str.ofString "bytes", .type "bytes"), (Str.ofString "ord", .builtin "ord"), (Str.ofString "any", .builtin "any"), (Str.ofString "min", .builtin "min"), (Str.ofString "max", .builtin "max"), (Str.ofString "zip", .type "zip")]
  px : PxF g 41 38
  ex0 : exmOne g.K (.type "IndexError") (.type "IndexError") = some true
  ex1 : exmOne g.K (.ref 41) (.ref 41) = some true
  ex2 : exmOne g.K (.type "TypeError") (.type "TypeError") = some true
  ex3 : exmOne g.K (.ref 41) (.type "TypeError") = some false
theorem gk_key : ∀ (g : G), g.prog = PySem.Challenge.rw_kq0017_07.row.prog → g.K = Mine.fr.heap_1_39 g.w.params → (plainGet g.K 133 (Str.ofString "istext") = true
   ∧ findIn g.K (.ref 133) (Str.ofString "istext") = some none
   ∧ takerIn g.K 133 (Str.ofString "istext") = some none
   ∧ plainGet g.K 133 (Str.ofString "string") = true
   ∧ findIn g.K (.ref 133) (Str.ofString "string") = some none
   ∧ takerIn g.K 133 (Str.ofString "string") = some none
   ∧ plainGet g.K 133 (Str.ofString "decoded_string") = true
   ∧ findIn g.K (.ref 133) (Str.ofString "decoded_string") = some none
   ∧ takerIn g.K 133 (Str.ofString "decoded_string") = some none
   ∧ plainGet g.K 133 (Str.ofString "index") = true
   ∧ findIn g.K (.ref 133) (Str.ofString "index") = some none
   ∧ takerIn g.K 133 (Str.ofString "index") = some none
   ∧ plainGet g.K 133 (Str.ofString "next") = true
   ∧ findIn g.K (.ref 133) (Str.ofString "next") = some none
   ∧ takerIn g.K 133 (Str.ofString "next") = some none
   ∧ plainGet g.K 133 (Str.ofString "_Tokenizer__next") = true
   ∧ findIn g.K (.ref 133) (Str.ofString "_Tokenizer__next") = some (some (.ref 65))
   ∧ isFn g.K (.ref 65) = true
   ∧ keepIn g.K (.ref 65) = true
   ∧ plainGet g.K 133 (Str.ofString "tell") = true
   ∧ findIn g.K (.ref 133) (Str.ofString "tell") = some (some (.ref 108))
   ∧ isFn g.K (.ref 108) = true
   ∧ keepIn g.K (.ref 108) = true
   ∧ plainGet g.K 133 (Str.ofString "seek") = true
   ∧ findIn g.K (.ref 133) (Str.ofString "seek") = some (some (.ref 115))
   ∧ isFn g.K (.ref 115) = true
   ∧ keepIn g.K (.ref 115) = true
   ∧ plainGet g.K 133 (Str.ofString "getwhile") = true
   ∧ findIn g.K (.ref 133) (Str.ofString "getwhile") = some (some (.ref 86))
   ∧ isFn g.K (.ref 86) = true
   ∧ keepIn g.K (.ref 86) = true
   ∧ nsIn g.K mainGlobals (Str.ofString "Tokenizer") = some (some (.ref 133))
   ∧ keepIn g.K (.ref 133) = true
   ∧ nsIn g.K mainGlobals (Str.ofString "PatternError") = some (some (.ref 41))
   ∧ keepIn g.K (.ref 41) = true
   ∧ nsIn g.K mainGlobals (Str.ofString "error_constants") = some (some (.ref 41))
   ∧ keepIn g.K (.ref 41) = true
   ∧ nsIn g.K mainGlobals (Str.ofString "_law_octets") = some (some (.ref 142))
   ∧ keepIn g.K (.ref 142) = true
   ∧ nsIn g.K mainGlobals (Str.ofString "_law_starts") = some (some (.ref 149))
   ∧ keepIn g.K (.ref 149) = true
   ∧ nsIn g.K mainGlobals (Str.ofString "_law_words") = some (some (.ref 156))
   ∧ keepIn g.K (.ref 156) = true
   ∧ nsIn g.K mainGlobals (Str.ofString "_law_told") = some (some (.ref 163))
   ∧ keepIn g.K (.ref 163) = true
   ∧ nsIn g.K mainGlobals (Str.ofString "_law_pattern") = some (some (.ref 168))
   ∧ keepIn g.K (.ref 168) = true
   ∧ nsIn g.K mainGlobals (Str.ofString "_law_got") = some (some (.ref 175))
   ∧ keepIn g.K (.ref 175) = true
   ∧ nsIn g.K mainGlobals (Str.ofString "_law_within") = some (some (.ref 180))
   ∧ keepIn g.K (.ref 180) = true
   ∧ nsIn g.K mainGlobals (Str.ofString "isinstance") = some none
   ∧ nsIn g.K mainGlobals (Str.ofString "str") = some none
   ∧ nsIn g.K mainGlobals (Str.ofString "IndexError") = some none
   ∧ nsIn g.K mainGlobals (Str.ofString "TypeError") = some none
   ∧ nsIn g.K mainGlobals (Str.ofString "len") = some none
   ∧ nsIn g.K mainGlobals (Str.ofString "range") = some none
   ∧ nsIn g.K mainGlobals (Str.ofString "sum") = some none
   ∧ nsIn g.K mainGlobals (Str.ofString "bytes") = some none
   ∧ nsIn g.K mainGlobals (Str.ofString "ord") = some none
   ∧ nsIn g.K mainGlobals (Str.ofString "any") = some none
   ∧ nsIn g.K mainGlobals (Str.ofString "min") = some none
   ∧ nsIn g.K mainGlobals (Str.ofString "max") = some none
   ∧ nsIn g.K mainGlobals (Str.ofString "zip") = some none
   ∧ noGet g.K none = true
   ∧ hasDictIn g.K 133 = true
   ∧ findIn g.K (.ref 133) "__setattr__" = some (some (.builtin "object.__setattr__"))
   ∧ plainOver g.K 133 = true
   ∧ makesIn g.K 133 = true
   ∧ findIn g.K (.ref 133) "__init__" = some (some (.ref 58))
   ∧ isFn g.K (.ref 58) = true
   ∧ (∃ cd, clsIn g.K 41 = some cd ∧ cd.mro = excMro 41 ∧ cd.hasDict = true)
   ∧ findIn g.K (.ref 41) (Str.ofString "msg") = some none
   ∧ findIn g.K (.ref 41) (Str.ofString "pattern") = some none
   ∧ findIn g.K (.ref 41) (Str.ofString "pos") = some none
   ∧ findIn g.K (.ref 41) (Str.ofString "lineno") = some none
   ∧ findIn g.K (.ref 41) (Str.ofString "colno") = some none
   ∧ findIn g.K (.ref 41) "__getattribute__" = some (some (.builtin "BaseException.__getattribute__"))
   ∧ findIn g.K (.ref 41) "__getattr__" = some none
   ∧ findIn g.K (.ref 41) "__setattr__" = some (some (.builtin "object.__setattr__"))
   ∧ (∃ od dat osl, g.K.lookup 41 = some ⟨.type "type", od, dat, osl⟩)
   ∧ (∃ nm q N bs hdct sn sub ab col dd k0 k1 k2 k3 k5, g.K.lookup 41 = some (excClassObj nm q 41 N bs [.type "Exception", .type "BaseException", .type "object"] hdct sn sub ab col dd k0 k1 k2 k3 k5 "Exception.__new__") ∧ nsOkIn g.K N = true ∧ nsIn g.K N "__init__" = some (some (.ref 38)))
   ∧ (∃ od fd osl, g.K.lookup 38 = some ⟨.type "function", od, .func fd, osl⟩)
   ∧ findIn g.K (.ref 41) "__str__" = some (some (.builtin "BaseException.__str__"))
   ∧ exmOne g.K (.type "IndexError") (.type "IndexError") = some true
   ∧ exmOne g.K (.ref 41) (.ref 41) = some true
   ∧ exmOne g.K (.type "TypeError") (.type "TypeError") = some true
   ∧ exmOne g.K (.ref 41) (.type "TypeError") = some false) := by
  k_fill
  intro g hp hK
  rw [hK]
  refine ⟨?_, ?_, ?_, ?_, ?_, ?_, ?_, ?_, ?_, ?_, ?_, ?_, ?_, ?_, ?_, ?_, ?_, ?_, ?_, ?_, ?_, ?_, ?_, ?_, ?_, ?_, ?_, ?_, ?_, ?_, ?_, ?_, ?_, ?_, ?_, ?_, ?_, ?_, ?_, ?_, ?_, ?_, ?_, ?_, ?_, ?_, ?_, ?_, ?_, ?_, ?_, ?_, ?_, ?_, ?_, ?_, ?_, ?_, ?_, ?_, ?_, ?_, ?_, ?_, ?_, ?_, ?_, ?_, ?_, ?_, ?_, ?_, ?_, ?_, ?_, ?_, ?_, ?_, ?_, ?_, ?_, ?_, ?_, ?_, ?_, ?_, ?_, ?_⟩
  all_goals first | k_is | kts_exm | exact ⟨_, by k_is, rfl, rfl⟩ | exact ⟨_, _, _, by k_is⟩ | exact ⟨_, _, _, _, _, _, _, _, _, _, _, _, _, _, _, by k_is, nsOk_of (by k_is) (by rfl), by k_is⟩
theorem gk : ∀ (g : G), g.prog = PySem.Challenge.rw_kq0017_07.row.prog → g.K = Mine.fr.heap_1_39 g.w.params → GK g := fun g hp hK => by
  obtain ⟨k0, k1, k2, k3, k4, k5, k6, k7, k8, k9, k10, k11, k12, k13, k14, k15, k16, k17, k18, k19, k20, k21, k22, k23, k24, k25, k26, k27, k28, k29, k30, k31, k32, k33, k34, k35, k36, k37, k38, k39, k40, k41, k42, k43, k44, k45, k46, k47, k48, k49, k50, k51, k52, k53, k54, k55, k56, k57, k58, k59, k60, k61, k62, k63, k64, k65, k66, k67, k68, k69, k70, k71, k72, k73, k74, k75, k76, k77, k78, k79, k80, k81, k82, k83, k84, k85, k86, k87⟩ := gk_key g hp hK
  exact ⟨hp, hK, ⟨List.forall_mem_cons.mpr ⟨⟨k0, k1, k2⟩, List.forall_mem_cons.mpr ⟨⟨k3, k4, k5⟩, List.forall_mem_cons.mpr ⟨⟨k6, k7, k8⟩, List.forall_mem_cons.mpr ⟨⟨k9, k10, k11⟩, List.forall_mem_cons.mpr ⟨⟨k12, k13, k14⟩, fun _ h => nomatch h⟩⟩⟩⟩⟩, List.forall_mem_cons.mpr ⟨⟨k15, k16, k17, k18⟩, List.forall_mem_cons.mpr ⟨⟨k19, k20, k21, k22⟩, List.forall_mem_cons.mpr ⟨⟨k23, k24, k25, k26⟩, List.forall_mem_cons.mpr ⟨⟨k27, k28, k29, k30⟩, fun _ h => nomatch h⟩⟩⟩⟩, List.forall_mem_cons.mpr ⟨⟨k31, k32, by decide⟩, List.forall_mem_cons.mpr ⟨⟨k33, k34, by decide⟩, List.forall_mem_cons.mpr ⟨⟨k35, k36, by decide⟩, List.forall_mem_cons.mpr ⟨⟨k37, k38, by decide⟩, List.forall_mem_cons.mpr ⟨⟨k39, k40, by decide⟩, List.forall_mem_cons.mpr ⟨⟨k41, k42, by decide⟩, List.forall_mem_cons.mpr ⟨⟨k43, k44, by decide⟩, List.forall_mem_cons.mpr ⟨⟨k45, k46, by decide⟩, List.forall_mem_cons.mpr ⟨⟨k47, k48, by decide⟩, List.forall_mem_cons.mpr ⟨⟨k49, k50, by decide⟩, fun _ h => nomatch h⟩⟩⟩⟩⟩⟩⟩⟩⟩⟩, List.forall_mem_cons.mpr ⟨⟨k51, by first | exact PyProof.Rows.Boot.«isinstance» | boot_fast, by decide, by decide⟩, List.forall_mem_cons.mpr ⟨⟨k52, by first | exact PyProof.Rows.Boot.«str» | boot_fast, by decide, by decide⟩, List.forall_mem_cons.mpr ⟨⟨k53, by first | exact PyProof.Rows.Boot.«IndexError» | boot_fast, by decide, by decide⟩, List.forall_mem_cons.mpr ⟨⟨k54, by first | exact PyProof.Rows.Boot.«TypeError» | boot_fast, by decide, by decide⟩, List.forall_mem_cons.mpr ⟨⟨k55, by first | exact PyProof.Rows.Boot.«len» | boot_fast, by decide, by decide⟩, List.forall_mem_cons.mpr ⟨⟨k56, by first | exact PyProof.Rows.Boot.«range» | boot_fast, by decide, by decide⟩, List.forall_mem_cons.mpr ⟨⟨k57, by first | exact PyProof.Rows.Boot.«sum» | boot_fast, by decide, by decide⟩, List.forall_mem_cons.mpr ⟨⟨k58, by first | exact PyProof.Rows.Boot.«bytes» | boot_fast, by decide, by decide⟩, List.forall_mem_cons.mpr ⟨⟨k59, by first | exact PyProof.Rows.Boot.«ord» | boot_fast, by decide, by decide⟩, List.forall_mem_cons.mpr ⟨⟨k60, by first | exact PyProof.Rows.Boot.«any» | boot_fast, by decide, by decide⟩, List.forall_mem_cons.mpr ⟨⟨k61, by first | exact PyProof.Rows.Boot.«min» | boot_fast, by decide, by decide⟩, List.forall_mem_cons.mpr ⟨⟨k62, by first | exact PyProof.Rows.Boot.«max» | boot_fast, by decide, by decide⟩, List.forall_mem_cons.mpr ⟨⟨k63, by first | exact PyProof.Rows.Boot.«zip» | boot_fast, by decide, by decide⟩, fun _ h => nomatch h⟩⟩⟩⟩⟩⟩⟩⟩⟩⟩⟩⟩⟩, k64, k65, k66, k67, k68, k69, k70⟩, ⟨⟨k71, List.forall_mem_cons.mpr ⟨k72, List.forall_mem_cons.mpr ⟨k73, List.forall_mem_cons.mpr ⟨k74, List.forall_mem_cons.mpr ⟨k75, List.forall_mem_cons.mpr ⟨k76, fun _ h => nomatch h⟩⟩⟩⟩⟩, k77, k78, k79⟩, ⟨k80⟩, ⟨k81, k82⟩, k83⟩, k84, k85, k86, k87⟩
theorem run_outA {l : List Nat} {i c : Nat} (hi : i < l.length) (h2 : l[(0 + (i : Int) - (c : Int) - 1).toNat]? = none) : False := run_out hi h2
theorem lit0 : Str.ofString "" = tx [] := by decide +kernel
theorem lit1 : Str.ofString "\\" = tx [92] := by decide +kernel
theorem lit2 : Str.ofString "latin1" = tx [108, 97, 116, 105, 110, 49] := by decide +kernel
theorem lit3 : Str.ofString "\n" = tx [10] := by decide +kernel
theorem lit4 : Str.ofString "%s at position %d" = tx [37, 115, 32, 97, 116, 32, 112, 111, 115, 105, 116, 105, 111, 110, 32, 37, 100] := by decide +kernel
theorem lit5 : Str.ofString "%s (line %d, column %d)" = tx [37, 115, 32, 40, 108, 105, 110, 101, 32, 37, 100, 44, 32, 99, 111, 108, 117, 109, 110, 32, 37, 100, 41] := by decide +kernel
theorem lit6 : Str.ofString " at position " = tx [32, 97, 116, 32, 112, 111, 115, 105, 116, 105, 111, 110, 32] := by decide +kernel
theorem lit7 : Str.ofString " (line " = tx [32, 40, 108, 105, 110, 101, 32] := by decide +kernel
theorem lit8 : Str.ofString ", column " = tx [44, 32, 99, 111, 108, 117, 109, 110, 32] := by decide +kernel
theorem lit9 : Str.ofString ")" = tx [41] := by decide +kernel
theorem lit10 : Str.ofString "bad escape (end of pattern)" = tx [98, 97, 100, 32, 101, 115, 99, 97, 112, 101, 32, 40, 101, 110, 100, 32, 111, 102, 32, 112, 97, 116, 116, 101, 114, 110, 41] := by decide +kernel
theorem lit11 : Str.ofString "ab\n" = tx [97, 98, 10] := by decide +kernel
theorem lit12 : Str.ofString "ab\\" = tx [97, 98, 92] := by decide +kernel
theorem lit13 : Str.ofString "a TypeError" = tx [97, 32, 84, 121, 112, 101, 69, 114, 114, 111, 114] := by decide +kernel
theorem lit14 : Str.ofString "ab\\\n" = tx [97, 98, 92, 10] := by decide +kernel
theorem pei_S : ∀ {g : G} (HG : GK g) {m l : List Nat} {p : Int} (hm : m.length ≤ 1000) (hl : l.length ≤ 1000) (hpp : p.natAbs < 10 ^ 9), PeI g 38 41 m l (.str l) p := by
  k_fill
  intro g HG m l p hm hl hpp x T ob
  have H := HG.tk
  have HP := HG.px
  have hp := HG.hp
  have hK := HG.hK
  have hp10 : p.natAbs < 10 ^ 10 := Nat.lt_of_lt_of_le hpp (by decide)
  have hpw := posW_len (m := m) hp10
  have hln := lnN_abs (p := p) (Nat.le_trans hl (by decide) : l.length ≤ 100000)
  have hco := coN_abs (Nat.le_trans hl (by decide) : l.length ≤ 100000) hpp
  have hlw := lineW_len (m := posW m p) hln hco
  have hpw1 : (posW m p).length ≤ 1000000 := Nat.le_trans hpw (Nat.le_trans (Nat.add_le_add_right hm 30) (by decide))
  have hpw2 : (posW m p).length ≤ 100000 := Nat.le_trans hpw (Nat.le_trans (Nat.add_le_add_right hm 30) (by decide))
  have hlw2 : (lineW (posW m p) (lnN l p) (coN l p)).length ≤ 100000 := by omega
  unfold lnN at hln
  unfold coN at hco
  unfold posW at hpw1 hpw2
  unfold lineW posW lnN coN at hlw2
  clear hpw hlw
  refine FnH.forget ?_
  refine' fn_introX (pn := [Str.ofString "self", Str.ofString "msg", Str.ofString "pattern", Str.ofString "pos"]) (lo0 := [some (.ref x), some (.str m), some (.str l), some (.int p), none, none, none, none, none]) (X := fun _ _ _ => False) ?ho ?hcd ?hb ?hpn ?hlo ?hloc ?hnd ?hcell leaves_never ?h ?c1 ?c2 ?c3
  case ho => rw [hK]; k_is
  case hcd => rw [hK]; k_is
  case hb => intro s' cas' X' hv'; obtain ⟨c1', c2', c3', c4', rfl, h1', h2', h3', h4'⟩ := VRs4 hv'; rw [hK] at X'; exact binds_K X' rfl (by k_is) rfl rfl rfl
  case hpn => decide
  case hlo => rfl
  case hloc => decide
  case hnd => decide
  case hcell => decide
  case h =>
    intro c ok hg henv hns hns' hcv hd hhq
    subst hg
    dsimp only at hns hns'
    refine fnx_anyA ?_
    intro TQ hTQ
    repeat' (first | ((with_reducible show Cal _ _ _ _ _ _ _); first | ((with_reducible refine count4_str ?_)) | ((with_reducible refine rfind4_str ?_))) | ((with_reducible show GetM _ _ _ _ _ _ _); first | (with_reducible refine getm_str F.slot_str_count F.type_str_count ?_) | (with_reducible refine getm_str F.slot_str_rfind F.type_str_rfind ?_)) | ((with_reducible show Op2 _ _ _ _ _ _ _ _); first | ((with_reducible refine isnot_int_none' ?_)) | ((with_reducible refine mod_pos (by first | (k_dflt ((with_reducible_and_instances repeat (first | exact List.Mem.head _ | apply List.Mem.tail))); done) | fail) (by first | (k_dflt ((first | assumption | omega | decide | (simp only [List.length_append, List.length_cons, List.length_nil, List.length_drop, List.length_take, List.length_map]; omega) | (simp only [List.length_append, List.length_cons, List.length_nil, List.length_drop, List.length_take, List.length_map] at *; omega))); done) | fail) (by first | (k_dflt ((first | assumption | omega | decide | (simp only [List.length_append, List.length_cons, List.length_nil, List.length_drop, List.length_take, List.length_map]; omega) | (simp only [List.length_append, List.length_cons, List.length_nil, List.length_drop, List.length_take, List.length_map] at *; omega))); done) | fail) ?_)) | ((with_reducible refine mod_line (by first | (k_dflt ((with_reducible_and_instances repeat (first | exact List.Mem.head _ | apply List.Mem.tail))); done) | fail) (by first | (k_dflt ((first | assumption | omega)); done) | fail) (by first | (k_dflt ((first | assumption | omega)); done) | fail) (by first | (k_dflt ((first | assumption | omega)); done) | fail) ?_)) | ((with_reducible refine in_one ?_))) | ((with_reducible show GetA _ _ _ _ _ _ _); first | ((with_reducible refine geta_x (by first | k_dflt (assumption) | fail) (by first | (k_dflt (exact PxF.P (by assumption)); done) | fail) (by first | (k_dflt (first | (apply Or.inl; apply Exists.intro; ((with_reducible_and_instances repeat (first | exact List.Mem.head _ | apply List.Mem.tail))); done) | (apply Or.inr; apply Exists.intro; ((with_reducible_and_instances repeat (first | exact List.Mem.head _ | apply List.Mem.tail)); done) | fail)); done) | fail) (by first | (k_dflt ((with_reducible_and_instances repeat (first | exact List.Mem.head _ | apply List.Mem.tail))); done) | fail) (by first | (k_dflt ((with_reducible_and_instances repeat (first | exact List.Mem.head _ | apply List.Mem.tail))); done) | fail) (by first | (k_dflt ((with_reducible repeat (first | exact Ent.here | (apply Ent.there; (focus decide))))); done) | fail) (by first | (k_dflt (first | exact rfl | assumption); done) | fail) ?_))) | ((with_reducible show SetA _ _ _ _ _ _ _ _); first | ((with_reducible refine seta_x (by first | k_dflt (assumption) | fail) (by first | (k_dflt (exact PxF.P (by assumption)); done) | fail) (by first | (k_dflt ((with_reducible_and_instances repeat (first | exact List.Mem.head _ | apply List.Mem.tail))); done) | fail) (by first | (k_dflt ((with_reducible repeat (first | exact OUpd.head | apply OUpd.tail))); done) | fail) (by first | (k_dflt ((with_reducible_and_instances repeat (first | exact List.Mem.head _ | apply List.Mem.tail))); done) | fail) (by first | (k_dflt ((with_reducible repeat (first | exact EPut.here | exact EPut.nil | (apply EPut.there; (focus decide))))); done) | fail) (by first | (k_dflt (exact Nat.le_of_ble_eq_true rfl); done) | fail) ?_)) | ((with_reducible refine seta_x0 (by first | k_dflt (assumption) | fail) (by first | (k_dflt (exact PxF.P (by assumption)); done) | fail) (by first | (k_dflt ((intro _; (with_reducible repeat (first | exact OUpd.head | apply OUpd.tail)))); done) | fail) (by first | (k_dflt ((with_reducible_and_instances repeat (first | exact List.Mem.head _ | apply List.Mem.tail))); done) | fail) ?_); intro _)) | ((with_reducible show ThenA _ _ _ _ _ _ _ _); first | ((with_reducible refine thenA_next ?_))) | ((with_reducible show WA _ _ _ (execs (_ :: _ :: _) _) _ _ _ _); first | ((with_reducible refine SA_cons ?_))) | ((with_reducible show WA _ _ _ (execs [_] _) _ _ _ _); first | ((with_reducible refine SA_last ?_))) | ((with_reducible show Then _ _ _ _ _ _ _); first | ((with_reducible refine then_next ?_))) | ((with_reducible show W _ FR (execs _ _) _ _ _ _); first | ((with_reducible refine S_cons ?_)) | ((with_reducible refine S_nil ?_))) | ((with_reducible show W _ VR (eval (Expr.Name _ _) _) _ _ _ _); first | ((with_reducible refine W_local (by first | k_dflt (assumption) | fail) (by first | k_dflt (assumption) | fail) (by first | k_dflt (assumption) | fail) (by first | (k_dflt ((with_reducible repeat (first | exact Has.here | apply Has.there))); done) | fail) ?_)) | ((with_reducible refine W_bltT (by first | k_dflt (assumption) | fail) (by first | k_dflt (assumption) | fail) (by first | k_dflt (assumption) | fail) (by first | (k_dflt ((with_reducible repeat (first | exact InN.here | apply InN.there))); done) | fail) (by first | (k_dflt ((with_reducible_and_instances repeat (first | exact List.Mem.head _ | apply List.Mem.tail))); done) | fail) ?_))) | ((with_reducible show W _ VR (eval (Expr.Constant Const.none _ _) _) _ _ _ _); first | ((with_reducible refine W_none ?_))) | ((with_reducible show W _ VR (eval (Expr.Constant (Const.int _) _ _) _) _ _ _ _); first | ((with_reducible refine W_int ?_))) | ((with_reducible show W _ VR (eval (Expr.Constant (Const.str _) _ _) _) _ _ _ _); first | ((with_reducible refine W_str lit3 ?_)) | ((with_reducible refine W_str lit4 ?_)) | ((with_reducible refine W_str lit5 ?_))) | ((with_reducible show W _ VR (eval (Expr.Attribute _ _ _) _) _ _ _ _); first | (refine W_Attr ?_)) | ((with_reducible show W _ VR (eval (Expr.Call (Expr.Attribute _ _ _) _ _ _) _) _ _ _ _); first | (refine W_Method (by assumption) (by rfl) ?_)) | ((with_reducible show W _ VR (eval (Expr.Call _ _ _ _) _) _ _ _ _); first | (refine W_Call (by assumption) (by rfl) ?_)) | ((with_reducible show W _ VR (eval (Expr.BinOp _ _ _ _) _) _ _ _ _); first | ((with_reducible refine W_BinOp ?_))) | ((with_reducible show W _ VR (eval (Expr.Tuple _ _ _) _) _ _ _ _); first | (refine W_Tuple (by rfl) ?_)) | ((with_reducible show W _ FR (exec (Stmt.Assign [Expr.Name _ _] _ _) _) _ _ _ _); first | (refine S_Assign ?_)) | ((with_reducible show W _ FR (exec (Stmt.Assign [Expr.Attribute _ _ _] _ _) _) _ _ _ _); first | (refine S_AssignA ?_)) | ((with_reducible show W _ FR (exec (Stmt.If _ _ _ _) _) _ _ _ _); first | ((with_reducible refine S_If ?_))) | ((with_reducible show W _ BR (isTrue (Expr.BoolOp _ _ _) _ _) _ _ _ _); first | ((with_reducible refine T_BoolOp ?_))) | ((with_reducible show W _ BR (isTrue (Expr.Compare _ _ _ _) _ _) _ _ _ _); first | (refine T_Compare ?_)) | ((with_reducible show W _ BR (isTrue _ _ _) _ _ _ _); first | (refine T_plain rfl ?_)) | ((with_reducible show Op2 _ _ _ _ _ _ _ _); first | ((with_reducible refine add_ints ?_)) | ((with_reducible refine sub_ints ?_)) | ((with_reducible refine isnot_str_none' ?_))) | ((with_reducible show Tru _ _ _ _ _ _); first | ((with_reducible refine tru_bool ?_))) | ((with_reducible show Cal _ _ _ _ _ _ _); first | ((with_reducible refine cal_app ?_)) | ((with_reducible refine isi_str_str ?_))) | ((with_reducible show Br true _ _); first | ((with_reducible refine br_t ?_))) | ((with_reducible show Br (decide _) _ _); first | (with_reducible refine br_dec ?_ ?_ <;> intro _)) | ((with_reducible show Args _ _ _ _ _ _); first | ((with_reducible refine args_cons' ?_)) | ((with_reducible refine args_nil' ?_))) | ((with_reducible show TstAll _ _ _ _ _ _ _); first | ((with_reducible refine tst_and ?_)) | ((with_reducible refine tst_and_nil ?_))) | ((with_reducible show Kp _ _ ∧ _); first | ((with_reducible refine kp_and kp_blt ?_))) | ((with_reducible show _ ≤ _ ∧ _); first | ((with_reducible refine disp (by first | (k_dflt ((first | assumption | omega | decide | (simp only [List.length_append, List.length_cons, List.length_nil, List.length_drop, List.length_take, List.length_map]; omega) | (simp only [List.length_append, List.length_cons, List.length_nil, List.length_drop, List.length_take, List.length_map] at *; omega))); done) | fail) ?_); intro _)) | ((with_reducible show Sto _ _ _ _ _ _ _); first | ((with_reducible refine Sto_local (by first | k_dflt (assumption) | fail) (by first | k_dflt (assumption) | fail) (by first | k_dflt (assumption) | fail) (by first | (k_dflt ((with_reducible repeat (first | exact Put.here | apply Put.there))); done) | fail) ?_))) | fail)
    all_goals
      refine' S_SuperInit ok hcv henv HP.P ?sua hns ?sub ?suc ?sud ?sue ?suf ?sug ?suh ?sui ?suj ?suk ?sul ?sum ?sun ?suo
      case sun => rfl
      case suo => rfl
      case sua => exact ⟨⟨_, _, _, by rw [hK]; k_is⟩, ⟨_, rfl, rfl⟩, ⟨_, _, _, _, _, _, by rw [hK]; k_is, rfl, by rw [hp]; decide +kernel⟩, ⟨_, _, _, by rw [hK]; k_is⟩, by rw [hK]; k_is, by rw [hK]; k_is, by rw [hp]; decide +kernel⟩
      case sub => decide
      case suc => decide
      case sud => decide
      case sue => rfl
      case suf => (with_reducible repeat (first | exact Has.here | apply Has.there))
      case sug => (with_reducible_and_instances repeat (first | exact List.Mem.head _ | apply List.Mem.tail))
      case suh => (with_reducible_and_instances repeat (first | exact List.Mem.head _ | apply List.Mem.tail))
      case sui => (with_reducible repeat (first | exact Has.here | apply Has.there))
      case suj => (first | assumption | omega)
      case suk => intro T2'; (with_reducible repeat (first | exact OUpd.head | apply OUpd.tail))
      case sul => rfl
      case sum =>
        intro T2'
        refine hTQ _ _ _ ?_
        refine fnq_next ?_
        first
          | (refine' frg_intro (ob2 := (x, .xnew (.ref 41) (some _) (.ref T2')) :: (_, .dct _) :: (T2', .tup [.str _]) :: ob) ?fp ⟨rfl, _, T2', ?fq⟩; (case fp => (with_reducible repeat (first | exact Picks.all | (apply Picks.cons; (focus (with_reducible repeat (first | exact Pick.head | apply Pick.tail)))) | apply Picks.drop))); (case fq => (rw [words_yes (by assumption)]; rfl)))
          | (refine' frg_intro (ob2 := (x, .xnew (.ref 41) (some _) (.ref T2')) :: (_, .dct _) :: (T2', .tup [.str _]) :: ob) ?fp ⟨rfl, _, T2', ?fq⟩; (case fp => (with_reducible repeat (first | exact Picks.all | (apply Picks.cons; (focus (with_reducible repeat (first | exact Pick.head | apply Pick.tail)))) | apply Picks.drop))); (case fq => (rw [words_no (by assumption)]; rfl)))
  case c1 => exact rfl
  case c2 => exact rfl
  case c3 => exact rfl
theorem pei_B : ∀ {g : G} (HG : GK g) {m l : List Nat} {p : Int} (hm : m.length ≤ 1000) (hl : l.length ≤ 1000) (hpp : p.natAbs < 10 ^ 9), PeI g 38 41 m l (.bytes l) p := by
  k_fill
  intro g HG m l p hm hl hpp x T ob
  have H := HG.tk
  have HP := HG.px
  have hp := HG.hp
  have hK := HG.hK
  have hp10 : p.natAbs < 10 ^ 10 := Nat.lt_of_lt_of_le hpp (by decide)
  have hpw := posW_len (m := m) hp10
  have hln := lnN_abs (p := p) (Nat.le_trans hl (by decide) : l.length ≤ 100000)
  have hco := coN_abs (Nat.le_trans hl (by decide) : l.length ≤ 100000) hpp
  have hlw := lineW_len (m := posW m p) hln hco
  have hpw1 : (posW m p).length ≤ 1000000 := Nat.le_trans hpw (Nat.le_trans (Nat.add_le_add_right hm 30) (by decide))
  have hpw2 : (posW m p).length ≤ 100000 := Nat.le_trans hpw (Nat.le_trans (Nat.add_le_add_right hm 30) (by decide))
  have hlw2 : (lineW (posW m p) (lnN l p) (coN l p)).length ≤ 100000 := by omega
  unfold lnN at hln
  unfold coN at hco
  unfold posW at hpw1 hpw2
  unfold lineW posW lnN coN at hlw2
  clear hpw hlw
  refine FnH.forget ?_
  refine' fn_introX (pn := [Str.ofString "self", Str.ofString "msg", Str.ofString "pattern", Str.ofString "pos"]) (lo0 := [some (.ref x), some (.str m), some (.bytes l), some (.int p), none, none, none, none, none]) (X := fun _ _ _ => False) ?ho ?hcd ?hb ?hpn ?hlo ?hloc ?hnd ?hcell leaves_never ?h ?c1 ?c2 ?c3
  case ho => rw [hK]; k_is
  case hcd => rw [hK]; k_is
  case hb => intro s' cas' X' hv'; obtain ⟨c1', c2', c3', c4', rfl, h1', h2', h3', h4'⟩ := VRs4 hv'; rw [hK] at X'; exact binds_K X' rfl (by k_is) rfl rfl rfl
  case hpn => decide
  case hlo => rfl
  case hloc => decide
  case hnd => decide
  case hcell => decide
  case h =>
    intro c ok hg henv hns hns' hcv hd hhq
    subst hg
    dsimp only at hns hns'
    refine fnx_anyA ?_
    intro TQ hTQ
    repeat' (first | ((with_reducible show Cal _ _ _ _ _ _ _); first | ((with_reducible refine count4_bytes ?_)) | ((with_reducible refine rfind4_bytes ?_))) | ((with_reducible show GetM _ _ _ _ _ _ _); first | (with_reducible refine getm_bytes FX.slot_bytes_count FX.type_bytes_count ?_) | (with_reducible refine getm_bytes FX.slot_bytes_rfind FX.type_bytes_rfind ?_)) | ((with_reducible show W _ VR (eval (Expr.Constant (Const.bytes [10]) _ _) _) _ _ _ _); first | ((with_reducible refine W_b10 ?_))) | ((with_reducible show Op2 _ _ _ _ _ _ _ _); first | ((with_reducible refine isnot_int_none' ?_)) | ((with_reducible refine isnot_bytes_none' ?_)) | ((with_reducible refine mod_pos (by first | (k_dflt ((with_reducible_and_instances repeat (first | exact List.Mem.head _ | apply List.Mem.tail))); done) | fail) (by first | (k_dflt ((first | assumption | omega | decide | (simp only [List.length_append, List.length_cons, List.length_nil, List.length_drop, List.length_take, List.length_map]; omega) | (simp only [List.length_append, List.length_cons, List.length_nil, List.length_drop, List.length_take, List.length_map] at *; omega))); done) | fail) (by first | (k_dflt ((first | assumption | omega | decide | (simp only [List.length_append, List.length_cons, List.length_nil, List.length_drop, List.length_take, List.length_map]; omega) | (simp only [List.length_append, List.length_cons, List.length_nil, List.length_drop, List.length_take, List.length_map] at *; omega))); done) | fail) ?_)) | ((with_reducible refine mod_line (by first | (k_dflt ((with_reducible_and_instances repeat (first | exact List.Mem.head _ | apply List.Mem.tail))); done) | fail) (by first | (k_dflt ((first | assumption | omega)); done) | fail) (by first | (k_dflt ((first | assumption | omega)); done) | fail) (by first | (k_dflt ((first | assumption | omega)); done) | fail) ?_)) | ((with_reducible refine in_nlb (by first | (k_dflt ((first | exact Or.inl (by assumption) | (apply hdv_mk rfl; ((with_reducible_and_instances repeat (first | exact List.Mem.head _ | apply List.Mem.tail))); done) | with_reducible repeat (first | assumption | apply HdV.cons))); done) | fail) ?_))) | ((with_reducible show GetA _ _ _ _ _ _ _); first | ((with_reducible refine geta_x (by first | k_dflt (assumption) | fail) (by first | (k_dflt (exact PxF.P (by assumption)); done) | fail) (by first | (k_dflt (first | (apply Or.inl; apply Exists.intro; ((with_reducible_and_instances repeat (first | exact List.Mem.head _ | apply List.Mem.tail))); done) | (apply Or.inr; apply Exists.intro; ((with_reducible_and_instances repeat (first | exact List.Mem.head _ | apply List.Mem.tail)); done) | fail)); done) | fail) (by first | (k_dflt ((with_reducible_and_instances repeat (first | exact List.Mem.head _ | apply List.Mem.tail))); done) | fail) (by first | (k_dflt ((with_reducible_and_instances repeat (first | exact List.Mem.head _ | apply List.Mem.tail))); done) | fail) (by first | (k_dflt ((with_reducible repeat (first | exact Ent.here | (apply Ent.there; (focus decide))))); done) | fail) (by first | (k_dflt (first | exact rfl | assumption); done) | fail) ?_))) | ((with_reducible show SetA _ _ _ _ _ _ _ _); first | ((with_reducible refine seta_x (by first | k_dflt (assumption) | fail) (by first | (k_dflt (exact PxF.P (by assumption)); done) | fail) (by first | (k_dflt ((with_reducible_and_instances repeat (first | exact List.Mem.head _ | apply List.Mem.tail))); done) | fail) (by first | (k_dflt ((with_reducible repeat (first | exact OUpd.head | apply OUpd.tail))); done) | fail) (by first | (k_dflt ((with_reducible_and_instances repeat (first | exact List.Mem.head _ | apply List.Mem.tail))); done) | fail) (by first | (k_dflt ((with_reducible repeat (first | exact EPut.here | exact EPut.nil | (apply EPut.there; (focus decide))))); done) | fail) (by first | (k_dflt (exact Nat.le_of_ble_eq_true rfl); done) | fail) ?_)) | ((with_reducible refine seta_x0 (by first | k_dflt (assumption) | fail) (by first | (k_dflt (exact PxF.P (by assumption)); done) | fail) (by first | (k_dflt ((intro _; (with_reducible repeat (first | exact OUpd.head | apply OUpd.tail)))); done) | fail) (by first | (k_dflt ((with_reducible_and_instances repeat (first | exact List.Mem.head _ | apply List.Mem.tail))); done) | fail) ?_); intro _)) | ((with_reducible show ThenA _ _ _ _ _ _ _ _); first | ((with_reducible refine thenA_next ?_))) | ((with_reducible show WA _ _ _ (execs (_ :: _ :: _) _) _ _ _ _); first | ((with_reducible refine SA_cons ?_))) | ((with_reducible show WA _ _ _ (execs [_] _) _ _ _ _); first | ((with_reducible refine SA_last ?_))) | ((with_reducible show Then _ _ _ _ _ _ _); first | ((with_reducible refine then_next ?_))) | ((with_reducible show W _ FR (execs _ _) _ _ _ _); first | ((with_reducible refine S_cons ?_)) | ((with_reducible refine S_nil ?_))) | ((with_reducible show W _ VR (eval (Expr.Name _ _) _) _ _ _ _); first | ((with_reducible refine W_local (by first | k_dflt (assumption) | fail) (by first | k_dflt (assumption) | fail) (by first | k_dflt (assumption) | fail) (by first | (k_dflt ((with_reducible repeat (first | exact Has.here | apply Has.there))); done) | fail) ?_)) | ((with_reducible refine W_bltT (by first | k_dflt (assumption) | fail) (by first | k_dflt (assumption) | fail) (by first | k_dflt (assumption) | fail) (by first | (k_dflt ((with_reducible repeat (first | exact InN.here | apply InN.there))); done) | fail) (by first | (k_dflt ((with_reducible_and_instances repeat (first | exact List.Mem.head _ | apply List.Mem.tail))); done) | fail) ?_))) | ((with_reducible show W _ VR (eval (Expr.Constant Const.none _ _) _) _ _ _ _); first | ((with_reducible refine W_none ?_))) | ((with_reducible show W _ VR (eval (Expr.Constant (Const.int _) _ _) _) _ _ _ _); first | ((with_reducible refine W_int ?_))) | ((with_reducible show W _ VR (eval (Expr.Constant (Const.str _) _ _) _) _ _ _ _); first | ((with_reducible refine W_str lit4 ?_)) | ((with_reducible refine W_str lit5 ?_))) | ((with_reducible show W _ VR (eval (Expr.Attribute _ _ _) _) _ _ _ _); first | (refine W_Attr ?_)) | ((with_reducible show W _ VR (eval (Expr.Call (Expr.Attribute _ _ _) _ _ _) _) _ _ _ _); first | (refine W_Method (by assumption) (by rfl) ?_)) | ((with_reducible show W _ VR (eval (Expr.Call _ _ _ _) _) _ _ _ _); first | (refine W_Call (by assumption) (by rfl) ?_)) | ((with_reducible show W _ VR (eval (Expr.BinOp _ _ _ _) _) _ _ _ _); first | ((with_reducible refine W_BinOp ?_))) | ((with_reducible show W _ VR (eval (Expr.Tuple _ _ _) _) _ _ _ _); first | (refine W_Tuple (by rfl) ?_)) | ((with_reducible show W _ FR (exec (Stmt.Assign [Expr.Name _ _] _ _) _) _ _ _ _); first | (refine S_Assign ?_)) | ((with_reducible show W _ FR (exec (Stmt.Assign [Expr.Attribute _ _ _] _ _) _) _ _ _ _); first | (refine S_AssignA ?_)) | ((with_reducible show W _ FR (exec (Stmt.If _ _ _ _) _) _ _ _ _); first | ((with_reducible refine S_If ?_))) | ((with_reducible show W _ BR (isTrue (Expr.BoolOp _ _ _) _ _) _ _ _ _); first | ((with_reducible refine T_BoolOp ?_))) | ((with_reducible show W _ BR (isTrue (Expr.Compare _ _ _ _) _ _) _ _ _ _); first | (refine T_Compare ?_)) | ((with_reducible show W _ BR (isTrue _ _ _) _ _ _ _); first | (refine T_plain rfl ?_)) | ((with_reducible show Op2 _ _ _ _ _ _ _ _); first | ((with_reducible refine add_ints ?_)) | ((with_reducible refine sub_ints ?_))) | ((with_reducible show Tru _ _ _ _ _ _); first | ((with_reducible refine tru_bool ?_))) | ((with_reducible show Cal _ _ _ _ _ _ _); first | ((with_reducible refine cal_app ?_)) | ((with_reducible refine isi_bytes_str (by first | k_dflt (assumption) | fail) ?_))) | ((with_reducible show Br true _ _); first | ((with_reducible refine br_t ?_))) | ((with_reducible show Br false _ _); first | ((with_reducible refine br_f ?_))) | ((with_reducible show Br (decide _) _ _); first | (with_reducible refine br_dec ?_ ?_ <;> intro _)) | ((with_reducible show Args _ _ _ _ _ _); first | ((with_reducible refine args_cons' ?_)) | ((with_reducible refine args_nil' ?_))) | ((with_reducible show TstAll _ _ _ _ _ _ _); first | ((with_reducible refine tst_and ?_)) | ((with_reducible refine tst_and_nil ?_))) | ((with_reducible show Kp _ _ ∧ _); first | ((with_reducible refine kp_and kp_blt ?_))) | ((with_reducible show _ ≤ _ ∧ _); first | ((with_reducible refine disp (by first | (k_dflt ((first | assumption | omega | decide | (simp only [List.length_append, List.length_cons, List.length_nil, List.length_drop, List.length_take, List.length_map]; omega) | (simp only [List.length_append, List.length_cons, List.length_nil, List.length_drop, List.length_take, List.length_map] at *; omega))); done) | fail) ?_); intro _)) | ((with_reducible show Sto _ _ _ _ _ _ _); first | ((with_reducible refine Sto_local (by first | k_dflt (assumption) | fail) (by first | k_dflt (assumption) | fail) (by first | k_dflt (assumption) | fail) (by first | (k_dflt ((with_reducible repeat (first | exact Put.here | apply Put.there))); done) | fail) ?_))) | fail)
    all_goals
      refine' S_SuperInit ok hcv henv HP.P ?sua hns ?sub ?suc ?sud ?sue ?suf ?sug ?suh ?sui ?suj ?suk ?sul ?sum ?sun ?suo
      case sun => rfl
      case suo => rfl
      case sua => exact ⟨⟨_, _, _, by rw [hK]; k_is⟩, ⟨_, rfl, rfl⟩, ⟨_, _, _, _, _, _, by rw [hK]; k_is, rfl, by rw [hp]; decide +kernel⟩, ⟨_, _, _, by rw [hK]; k_is⟩, by rw [hK]; k_is, by rw [hK]; k_is, by rw [hp]; decide +kernel⟩
      case sub => decide
      case suc => decide
      case sud => decide
      case sue => rfl
      case suf => (with_reducible repeat (first | exact Has.here | apply Has.there))
      case sug => (with_reducible_and_instances repeat (first | exact List.Mem.head _ | apply List.Mem.tail))
      case suh => (with_reducible_and_instances repeat (first | exact List.Mem.head _ | apply List.Mem.tail))
      case sui => (with_reducible repeat (first | exact Has.here | apply Has.there))
      case suj => (first | assumption | omega)
      case suk => intro T2'; (with_reducible repeat (first | exact OUpd.head | apply OUpd.tail))
      case sul => rfl
      case sum =>
        intro T2'
        refine hTQ _ _ _ ?_
        refine fnq_next ?_
        first
          | (refine' frg_intro (ob2 := (x, .xnew (.ref 41) (some _) (.ref T2')) :: (_, .dct _) :: (T2', .tup [.str _]) :: ob) ?fp ⟨rfl, _, T2', ?fq⟩; (case fp => (with_reducible repeat (first | exact Picks.all | (apply Picks.cons; (focus (with_reducible repeat (first | exact Pick.head | apply Pick.tail)))) | apply Picks.drop))); (case fq => (rw [words_yes (by assumption)]; rfl)))
          | (refine' frg_intro (ob2 := (x, .xnew (.ref 41) (some _) (.ref T2')) :: (_, .dct _) :: (T2', .tup [.str _]) :: ob) ?fp ⟨rfl, _, T2', ?fq⟩; (case fp => (with_reducible repeat (first | exact Picks.all | (apply Picks.cons; (focus (with_reducible repeat (first | exact Pick.head | apply Pick.tail)))) | apply Picks.drop))); (case fq => (rw [words_no (by assumption)]; rfl)))
  case c1 => exact rfl
  case c2 => exact rfl
  case c3 => exact rfl
end Mine
end
section
open PySem PySem.W PyProof.Rows PySem.Spec PySem.Calls
set_option pp.maxSteps 600
namespace Mine
set_option maxHeartbeats 4000000
theorem next_F : ∀ {g : G} (HG : GK g) {t d : Addr} {it st : V} {l : List Nat} {iz : Int} {i : Nat} {nv : V} (hl : l.length ≤ 1000) (hi : i ≤ 2000) (hiz : iz = (i : Int)) {j : Nat} {o : Option (List Nat)} (hn : nxt l i = some (j, o)), FnE g 65 [.ref t] 1 false (.none) ([(t, .inst 133 d), (d, .dct (tokE it st l (j : Int) (ovV o)))]) ([(t, .inst 133 d), (d, .dct (tokE it st l iz nv))]) := by
  k_fill
  intro g HG t d it st l iz i nv hl hi hiz j o hn
  have H := HG.tk
  have hp := HG.hp
  have hK := HG.hK
  skip
  refine FnC.forget ?_
  refine' fn_intro (pn := [Str.ofString "self"]) (lo0 := [some (.ref t), none, none, none, none, none]) (X := fun _ _ _ => False) ?ho ?hcd ?hb ?hpn ?hlo ?hloc ?hnd ?hcell leaves_never ?h ?c1 ?c2 ?c3
  case ho => rw [hK]; k_is
  case hcd => rw [hK]; k_is
  case hb => intro s' cas' X' hv'; obtain ⟨c1', rfl, h1'⟩ := VRs1 hv'; first | exact BindsTo.of_eq rfl | (rw [hK] at X'; exact binds_K X' rfl (by k_is) rfl rfl rfl)
  case hpn => decide
  case hlo => rfl
  case hloc => decide
  case hnd => decide
  case hcell => decide
  case h =>
    intro c ok hg henv hns hns' hcv hd hhq
    subst hg
    dsimp only at hns hns'
    have hh := hhq rfl
    subst hiz
    refine fnq_G ?_
    intro TQ hTr hTn
    repeat' (first | ((with_reducible show Then _ _ _ _ _ _ _); first | ((with_reducible refine then_next ?_)) | ((with_reducible refine then_ret ?_))) | ((with_reducible show W _ FR (execs _ _) _ _ _ _); first | ((with_reducible refine S_cons ?_)) | ((with_reducible refine S_nil ?_))) | ((with_reducible show W _ VR (eval (Expr.Name _ _) _) _ _ _ _); first | ((with_reducible refine W_local (by first | k_dflt (assumption) | fail) (by first | k_dflt (assumption) | fail) (by first | k_dflt (assumption) | fail) (by first | (k_dflt ((with_reducible repeat (first | exact Has.here | apply Has.there))); done) | fail) ?_))) | ((with_reducible show W _ VR (eval (Expr.Constant Const.none _ _) _) _ _ _ _); first | ((with_reducible refine W_none ?_))) | ((with_reducible show W _ VR (eval (Expr.Constant (Const.int _) _ _) _) _ _ _ _); first | ((with_reducible refine W_int ?_))) | ((with_reducible show W _ VR (eval (Expr.Constant (Const.str _) _ _) _) _ _ _ _); first | ((with_reducible refine W_str lit1 ?_))) | ((with_reducible show W _ VR (eval (Expr.Attribute _ _ _) _) _ _ _ _); first | (refine W_Attr ?_)) | ((with_reducible show W _ VR (eval (Expr.BinOp _ _ _ _) _) _ _ _ _); first | ((with_reducible refine W_BinOp ?_))) | ((with_reducible show W _ VR (eval (Expr.Subscript _ _ _) _) _ _ _ _); first | (refine W_Sub ?_)) | ((with_reducible show W _ FR (exec (Stmt.Assign [Expr.Name _ _] _ _) _) _ _ _ _); first | (refine S_Assign ?_)) | ((with_reducible show W _ FR (exec (Stmt.Assign [Expr.Attribute _ _ _] _ _) _) _ _ _ _); first | (refine S_AssignA ?_)) | ((with_reducible show W _ FR (exec (Stmt.If _ _ _ _) _) _ _ _ _); first | ((with_reducible refine S_If ?_))) | ((with_reducible show W _ FR (exec (Stmt.Return none _) _) _ _ _ _); first | ((with_reducible refine S_Return0 ?_))) | ((with_reducible show W _ FR (exec (Stmt.AugAssign (Expr.Name _ _) _ _ _) _) _ _ _ _); first | ((with_reducible refine S_Aug (by first | k_dflt (assumption) | fail) (by first | k_dflt (assumption) | fail) (by first | k_dflt (assumption) | fail) (by first | (k_dflt ((with_reducible repeat (first | exact Has.here | apply Has.there))); done) | fail) ?_))) | ((with_reducible show W _ FR (exec (Stmt.Try _ _ _ _ _) _) _ _ _ _); first | (refine S_Try (by assumption) (by assumption) ?_)) | ((with_reducible show W _ BR (isTrue (Expr.Compare _ _ _ _) _ _) _ _ _ _); first | (refine T_Compare ?_)) | ((with_reducible show Op2 _ _ _ _ _ _ _ _); first | ((with_reducible refine add_ints ?_)) | ((with_reducible refine iadd_ints ?_)) | ((with_reducible refine eq_strs ?_)) | ((with_reducible refine iadd_strs (by first | (k_dflt ((first | assumption | omega | decide | (simp only [List.length_append, List.length_cons, List.length_nil, List.length_drop, List.length_take, List.length_map]; omega) | (simp only [List.length_append, List.length_cons, List.length_nil, List.length_drop, List.length_take, List.length_map] at *; omega))); done) | fail) ?_))) | ((with_reducible show Tru _ _ _ _ _ _); first | ((with_reducible refine tru_bool ?_))) | ((with_reducible show Br (decide _) _ _); first | (with_reducible refine br_dec ?_ ?_ <;> intro _)) | ((with_reducible show Sto _ _ _ _ _ _ _); first | ((with_reducible refine Sto_local (by first | k_dflt (assumption) | fail) (by first | k_dflt (assumption) | fail) (by first | k_dflt (assumption) | fail) (by first | (k_dflt ((with_reducible repeat (first | exact Put.here | apply Put.there))); done) | fail) ?_))) | ((with_reducible show GetA _ _ _ _ _ _ _); first | ((with_reducible refine geta_tk (by first | k_dflt (assumption) | fail) (by first | k_dflt (assumption) | fail) (by first | (k_dflt ((with_reducible_and_instances repeat (first | exact List.Mem.head _ | apply List.Mem.tail))); done) | fail) (by first | (k_dflt ((with_reducible_and_instances repeat (first | exact List.Mem.head _ | apply List.Mem.tail))); done) | fail) (by first | (k_dflt ((with_reducible_and_instances repeat (first | exact List.Mem.head _ | apply List.Mem.tail))); done) | fail) (by first | (k_dflt ((with_reducible repeat (first | exact Ent.here | (apply Ent.there; (focus decide))))); done) | fail) (by first | (k_dflt (first | exact rfl | exact handed_ovV _ | assumption); done) | fail) ?_))) | ((with_reducible show SetA _ _ _ _ _ _ _ _); first | ((with_reducible refine seta_tk (by first | k_dflt (assumption) | fail) (by first | k_dflt (assumption) | fail) (by first | (k_dflt ((with_reducible_and_instances repeat (first | exact List.Mem.head _ | apply List.Mem.tail))); done) | fail) (by first | (k_dflt ((with_reducible repeat (first | exact OUpd.head | apply OUpd.tail))); done) | fail) (by first | (k_dflt ((with_reducible_and_instances repeat (first | exact List.Mem.head _ | apply List.Mem.tail))); done) | fail) (by first | (k_dflt ((with_reducible repeat (first | exact EPut.here | exact EPut.nil | (apply EPut.there; (focus decide))))); done) | fail) (by first | (k_dflt (exact Nat.le_of_ble_eq_true rfl); done) | fail) ?_))) | ((with_reducible show Hdl _ _ _ _ _ _ _ _); first | ((with_reducible refine hdl_bltT (by first | k_dflt (assumption) | fail) (by first | k_dflt (assumption) | fail) (by first | (k_dflt ((with_reducible_and_instances repeat (first | exact List.Mem.head _ | apply List.Mem.tail))); done) | fail) (by first | k_dflt (assumption) | fail) (by first | (k_dflt ((with_reducible repeat (first | exact InN.here | apply InN.there))); done) | fail) (by first | (k_dflt ((with_reducible_and_instances repeat (first | exact List.Mem.head _ | apply List.Mem.tail))); done) | fail) (by first | (k_dflt (first | exact GK.ex0 (by assumption) | exact GK.ex1 (by assumption) | exact GK.ex2 (by assumption) | exact GK.ex3 (by assumption)); done) | fail) ?_); intro _)) | ((with_reducible show Sub2 _ _ _ _ _ _ _ _ _); first | ((refine sub_str (by assumption) (by omega) (by omega) ?_ ?_); (focus (intro _ _)); rotate_left; (focus (intro _; first | (exfalso; exact stepA_bad (by assumption) (by assumption) (by assumption) (by assumption)) | (exfalso; exact run_outA (by assumption) (by assumption)) | intro _)); rotate_right)) | fail)
    all_goals first
      | (obtain ⟨e1, e2⟩ := stepA_two hn (by assumption) (by assumption) (by assumption); subst e1 e2; (first | (refine' hTr (ob2 := [(t, .inst 133 d), (d, .dct _)]) ?fp ?fe0 ?fe1; (case fp => (with_reducible repeat (first | exact Picks.nil | (apply Picks.cons; (focus (with_reducible repeat (first | exact Pick.head | apply Pick.tail))))))); (case fe0 => rfl); (case fe1 => rfl)) | (refine' hTn (ob2 := [(t, .inst 133 d), (d, .dct _)]) ?fp ?fe0 ?fe1; (case fp => (with_reducible repeat (first | exact Picks.nil | (apply Picks.cons; (focus (with_reducible repeat (first | exact Pick.head | apply Pick.tail))))))); (case fe0 => rfl); (case fe1 => rfl))))
      | (obtain ⟨e1, e2⟩ := stepA_one hn (by assumption) (by assumption); subst e1 e2; (first | (refine' hTr (ob2 := [(t, .inst 133 d), (d, .dct _)]) ?fp ?fe0 ?fe1; (case fp => (with_reducible repeat (first | exact Picks.nil | (apply Picks.cons; (focus (with_reducible repeat (first | exact Pick.head | apply Pick.tail))))))); (case fe0 => rfl); (case fe1 => rfl)) | (refine' hTn (ob2 := [(t, .inst 133 d), (d, .dct _)]) ?fp ?fe0 ?fe1; (case fp => (with_reducible repeat (first | exact Picks.nil | (apply Picks.cons; (focus (with_reducible repeat (first | exact Pick.head | apply Pick.tail))))))); (case fe0 => rfl); (case fe1 => rfl))))
      | (obtain ⟨e1, e2⟩ := step_end hn (by assumption); subst e1 e2; (first | (refine' hTr (ob2 := [(t, .inst 133 d), (d, .dct _)]) ?fp ?fe0 ?fe1; (case fp => (with_reducible repeat (first | exact Picks.nil | (apply Picks.cons; (focus (with_reducible repeat (first | exact Pick.head | apply Pick.tail))))))); (case fe0 => rfl); (case fe1 => rfl)) | (refine' hTn (ob2 := [(t, .inst 133 d), (d, .dct _)]) ?fp ?fe0 ?fe1; (case fp => (with_reducible repeat (first | exact Picks.nil | (apply Picks.cons; (focus (with_reducible repeat (first | exact Pick.head | apply Pick.tail))))))); (case fe0 => rfl); (case fe1 => rfl))))
  case c1 => exact rfl
  case c2 => exact rfl
  case c3 => exact rfl
theorem init_S : ∀ {g : G} (HG : GK g) {t d : Addr} {l : List Nat} (hl : l.length ≤ 1000) {j : Nat} {o : Option (List Nat)} (hn : nxt l 0 = some (j, o)), FnE g 58 [.ref t, .str l] 2 false (.none) ([(t, .inst 133 d), (d, .dct (tokE (.bool true) (.str l) l (j : Int) (ovV o)))]) ([(t, .inst 133 d), (d, .dct [])]) := by
  k_fill
  intro g HG t d l hl j o hn
  have H := HG.tk
  have hp := HG.hp
  have hK := HG.hK
  skip
  refine FnC.forget ?_
  refine' fn_intro (pn := [Str.ofString "self", Str.ofString "string"]) (lo0 := [some (.ref t), some (.str l), none, none]) (X := fun _ _ _ => False) ?ho ?hcd ?hb ?hpn ?hlo ?hloc ?hnd ?hcell leaves_never ?h ?c1 ?c2 ?c3
  case ho => rw [hK]; k_is
  case hcd => rw [hK]; k_is
  case hb => intro s' cas' X' hv'; obtain ⟨c1', c2', rfl, h1', h2'⟩ := VRs2 hv'; first | exact BindsTo.of_eq rfl | (rw [hK] at X'; exact binds_K X' rfl (by k_is) rfl rfl rfl)
  case hpn => decide
  case hlo => rfl
  case hloc => decide
  case hnd => decide
  case hcell => decide
  case h =>
    intro c ok hg henv hns hns' hcv hd hhq
    subst hg
    dsimp only at hns hns'
    have hh := hhq rfl
    skip
    refine fnq_G ?_
    intro TQ hTr hTn
    repeat' (first | ((with_reducible show Cal _ _ _ _ _ _ _); first | ((refine cal_E (by first | k_dflt (assumption) | fail) (by first | (k_dflt ((with_reducible repeat (first | exact Picks.nil | (apply Picks.cons; (focus (with_reducible repeat (first | exact Pick.head | apply Pick.tail))))))); done) | fail) (next_F (by assumption) (by first | k_dflt (assumption) | fail) (by first | (k_dflt (first | omega | exact Nat.zero_le _); done) | fail) (by first | (k_dflt (first | assumption | exact rfl | exact (rfl : (0 : Int) = ((0 : Nat) : Int))); done) | fail) (by first | k_dflt (assumption) | fail)) (by first | (k_dflt ((with_reducible repeat (first | exact App.nil | apply App.cons))); done) | fail) (by first | (k_dflt (((try dsimp only); omega)); done) | fail) (by first | (k_dflt (first | exact .inl rfl | exact .inr (by assumption)); done) | fail) ?_))) | ((with_reducible show Then _ _ _ _ _ _ _); first | ((with_reducible refine then_next ?_))) | ((with_reducible show W _ FR (execs _ _) _ _ _ _); first | ((with_reducible refine S_cons ?_)) | ((with_reducible refine S_nil ?_))) | ((with_reducible show W _ VR (eval (Expr.Name _ _) _) _ _ _ _); first | ((with_reducible refine W_local (by first | k_dflt (assumption) | fail) (by first | k_dflt (assumption) | fail) (by first | k_dflt (assumption) | fail) (by first | (k_dflt ((with_reducible repeat (first | exact Has.here | apply Has.there))); done) | fail) ?_)) | ((with_reducible refine W_bltT (by first | k_dflt (assumption) | fail) (by first | k_dflt (assumption) | fail) (by first | k_dflt (assumption) | fail) (by first | (k_dflt ((with_reducible repeat (first | exact InN.here | apply InN.there))); done) | fail) (by first | (k_dflt ((with_reducible_and_instances repeat (first | exact List.Mem.head _ | apply List.Mem.tail))); done) | fail) ?_))) | ((with_reducible show W _ VR (eval (Expr.Constant Const.none _ _) _) _ _ _ _); first | ((with_reducible refine W_none ?_))) | ((with_reducible show W _ VR (eval (Expr.Constant (Const.int _) _ _) _) _ _ _ _); first | ((with_reducible refine W_int ?_))) | ((with_reducible show W _ VR (eval (Expr.Attribute _ _ _) _) _ _ _ _); first | (refine W_Attr ?_)) | ((with_reducible show W _ VR (eval (Expr.Call (Expr.Attribute _ _ _) _ _ _) _) _ _ _ _); first | (refine W_Method (by assumption) (by rfl) ?_)) | ((with_reducible show W _ VR (eval (Expr.Call _ _ _ _) _) _ _ _ _); first | (refine W_Call (by assumption) (by rfl) ?_)) | ((with_reducible show W _ FR (exec (Stmt.Assign [Expr.Attribute _ _ _] _ _) _) _ _ _ _); first | (refine S_AssignA ?_)) | ((with_reducible show W _ FR (exec (Stmt.If _ _ _ _) _) _ _ _ _); first | ((with_reducible refine S_If ?_))) | ((with_reducible show W _ FR (exec (Stmt.Expr _ _) _) _ _ _ _); first | (refine S_ExprV ?_ (inter (by assumption)))) | ((with_reducible show W _ BR (isTrue (Expr.UnaryOp UnaryOp.Not _ _) _ _) _ _ _ _); first | ((with_reducible refine T_Not ?_))) | ((with_reducible show W _ BR (isTrue _ _ _) _ _ _ _); first | (refine T_plain rfl ?_)) | ((with_reducible show Tru _ _ _ _ _ _); first | ((with_reducible refine tru_bool ?_))) | ((with_reducible show Cal _ _ _ _ _ _ _); first | ((with_reducible refine isi_str_str ?_))) | ((with_reducible show Br true _ _); first | ((with_reducible refine br_t ?_))) | ((with_reducible show Br (! _) _ _); first | ((with_reducible refine br_not ?_))) | ((with_reducible show Args _ _ _ _ _ _); first | ((with_reducible refine args_cons' ?_)) | ((with_reducible refine args_nil' ?_))) | ((with_reducible show Kp _ _ ∧ _); first | ((with_reducible refine kp_and kp_blt ?_)) | ((with_reducible refine kp_met (by first | k_dflt (assumption) | fail) (by first | (k_dflt ((with_reducible_and_instances repeat (first | exact List.Mem.head _ | apply List.Mem.tail))); done) | fail) ?_))) | ((with_reducible show plainV _ = true ∧ _); first | ((with_reducible refine plain_and rfl ?_))) | ((with_reducible show GetM _ _ _ _ _ _ _); first | ((with_reducible refine getm_tk (by first | k_dflt (assumption) | fail) (by first | k_dflt (assumption) | fail) (by first | (k_dflt ((with_reducible_and_instances repeat (first | exact List.Mem.head _ | apply List.Mem.tail))); done) | fail) (by first | (k_dflt ((with_reducible_and_instances repeat (first | exact List.Mem.head _ | apply List.Mem.tail))); done) | fail) (by first | (k_dflt ((with_reducible_and_instances repeat (first | exact List.Mem.head _ | apply List.Mem.tail))); done) | fail) (by first | (k_dflt ((repeat (first | with_reducible exact NoEnt.nil | (with_reducible apply NoEnt.cons; (focus decide))))); done) | fail) ?_))) | ((with_reducible show GetA _ _ _ _ _ _ _); first | ((with_reducible refine geta_tk (by first | k_dflt (assumption) | fail) (by first | k_dflt (assumption) | fail) (by first | (k_dflt ((with_reducible_and_instances repeat (first | exact List.Mem.head _ | apply List.Mem.tail))); done) | fail) (by first | (k_dflt ((with_reducible_and_instances repeat (first | exact List.Mem.head _ | apply List.Mem.tail))); done) | fail) (by first | (k_dflt ((with_reducible_and_instances repeat (first | exact List.Mem.head _ | apply List.Mem.tail))); done) | fail) (by first | (k_dflt ((with_reducible repeat (first | exact Ent.here | (apply Ent.there; (focus decide))))); done) | fail) (by first | (k_dflt (first | exact rfl | exact handed_ovV _ | assumption); done) | fail) ?_))) | ((with_reducible show SetA _ _ _ _ _ _ _ _); first | ((with_reducible refine seta_tk (by first | k_dflt (assumption) | fail) (by first | k_dflt (assumption) | fail) (by first | (k_dflt ((with_reducible_and_instances repeat (first | exact List.Mem.head _ | apply List.Mem.tail))); done) | fail) (by first | (k_dflt ((with_reducible repeat (first | exact OUpd.head | apply OUpd.tail))); done) | fail) (by first | (k_dflt ((with_reducible_and_instances repeat (first | exact List.Mem.head _ | apply List.Mem.tail))); done) | fail) (by first | (k_dflt ((with_reducible repeat (first | exact EPut.here | exact EPut.nil | (apply EPut.there; (focus decide))))); done) | fail) (by first | (k_dflt (exact Nat.le_of_ble_eq_true rfl); done) | fail) ?_))) | fail)
    all_goals first | ((first | (refine' hTr (ob2 := [(t, .inst 133 d), (d, .dct _)]) ?fp ?fe0 ?fe1; (case fp => (with_reducible repeat (first | exact Picks.nil | (apply Picks.cons; (focus (with_reducible repeat (first | exact Pick.head | apply Pick.tail))))))); (case fe0 => rfl); (case fe1 => rfl)) | (refine' hTn (ob2 := [(t, .inst 133 d), (d, .dct _)]) ?fp ?fe0 ?fe1; (case fp => (with_reducible repeat (first | exact Picks.nil | (apply Picks.cons; (focus (with_reducible repeat (first | exact Pick.head | apply Pick.tail))))))); (case fe0 => rfl); (case fe1 => rfl))))
  case c1 => exact rfl
  case c2 => exact rfl
  case c3 => exact rfl
theorem new_S {c : Cx} (ok : c.Ok) (HG : GK c.g) {l : List Nat} (hl : l.length ≤ 1000) {j : Nat} {o : Option (List Nat)} (hn : nxt l 0 = some (j, o)) (hd : 3 ≤ c.d) (hh : c.B.handled = none) {Q : QT V} {X : QT Addr} {lo : Loc} {ob : Obs}
    (h : ∀ x dx, Q (.ref x) lo ((x, .inst 133 dx) :: (dx, .dct (tokE (.bool true) (.str l) l (j : Int) (ovV o))) :: ob)) : Cal c (.ref 133) [.str l] Q X lo ob :=
  cal_new (small := []) (oth := []) (ob2 := fun x dx => (x, .inst 133 dx) :: (dx, .dct (tokE (.bool true) (.str l) l (j : Int) (ovV o))) :: ob) ok HG.tk.mi HG.tk.ii HG.tk.isf (fun x dx => init_S HG hl hn) (fun x dx => .cons (.cons .nil)) (by omega) (.inr hh) h
theorem init_B : ∀ {g : G} (HG : GK g) {t d : Addr} {l : List Nat} (hl : l.length ≤ 1000) {j : Nat} {o : Option (List Nat)} (hn : nxt l 0 = some (j, o)), FnE g 58 [.ref t, .bytes l] 2 false (.none) ([(t, .inst 133 d), (d, .dct (tokE (.bool false) (.bytes l) l (j : Int) (ovV o)))]) ([(t, .inst 133 d), (d, .dct [])]) := by
  k_fill
  intro g HG t d l hl j o hn
  have H := HG.tk
  have hp := HG.hp
  have hK := HG.hK
  skip
  refine FnC.forget ?_
  refine' fn_intro (pn := [Str.ofString "self", Str.ofString "string"]) (lo0 := [some (.ref t), some (.bytes l), none, none]) (X := fun _ _ _ => False) ?ho ?hcd ?hb ?hpn ?hlo ?hloc ?hnd ?hcell leaves_never ?h ?c1 ?c2 ?c3
  case ho => rw [hK]; k_is
  case hcd => rw [hK]; k_is
  case hb => intro s' cas' X' hv'; obtain ⟨c1', c2', rfl, h1', h2'⟩ := VRs2 hv'; first | exact BindsTo.of_eq rfl | (rw [hK] at X'; exact binds_K X' rfl (by k_is) rfl rfl rfl)
  case hpn => decide
  case hlo => rfl
  case hloc => decide
  case hnd => decide
  case hcell => decide
  case h =>
    intro c ok hg henv hns hns' hcv hd hhq
    subst hg
    dsimp only at hns hns'
    have hh := hhq rfl
    skip
    refine fnq_G ?_
    intro TQ hTr hTn
    repeat' (first | ((with_reducible show Cal _ _ _ _ _ _ _); first | ((refine cal_E (by first | k_dflt (assumption) | fail) (by first | (k_dflt ((with_reducible repeat (first | exact Picks.nil | (apply Picks.cons; (focus (with_reducible repeat (first | exact Pick.head | apply Pick.tail))))))); done) | fail) (next_F (by assumption) (by first | k_dflt (assumption) | fail) (by first | (k_dflt (first | omega | exact Nat.zero_le _); done) | fail) (by first | (k_dflt (first | assumption | exact rfl | exact (rfl : (0 : Int) = ((0 : Nat) : Int))); done) | fail) (by first | k_dflt (assumption) | fail)) (by first | (k_dflt ((with_reducible repeat (first | exact App.nil | apply App.cons))); done) | fail) (by first | (k_dflt (((try dsimp only); omega)); done) | fail) (by first | (k_dflt (first | exact .inl rfl | exact .inr (by assumption)); done) | fail) ?_))) | ((with_reducible show Then _ _ _ _ _ _ _); first | ((with_reducible refine then_next ?_))) | ((with_reducible show W _ FR (execs _ _) _ _ _ _); first | ((with_reducible refine S_cons ?_)) | ((with_reducible refine S_nil ?_))) | ((with_reducible show W _ VR (eval (Expr.Name _ _) _) _ _ _ _); first | ((with_reducible refine W_local (by first | k_dflt (assumption) | fail) (by first | k_dflt (assumption) | fail) (by first | k_dflt (assumption) | fail) (by first | (k_dflt ((with_reducible repeat (first | exact Has.here | apply Has.there))); done) | fail) ?_)) | ((with_reducible refine W_bltT (by first | k_dflt (assumption) | fail) (by first | k_dflt (assumption) | fail) (by first | k_dflt (assumption) | fail) (by first | (k_dflt ((with_reducible repeat (first | exact InN.here | apply InN.there))); done) | fail) (by first | (k_dflt ((with_reducible_and_instances repeat (first | exact List.Mem.head _ | apply List.Mem.tail))); done) | fail) ?_))) | ((with_reducible show W _ VR (eval (Expr.Constant Const.none _ _) _) _ _ _ _); first | ((with_reducible refine W_none ?_))) | ((with_reducible show W _ VR (eval (Expr.Constant (Const.int _) _ _) _) _ _ _ _); first | ((with_reducible refine W_int ?_))) | ((with_reducible show W _ VR (eval (Expr.Constant (Const.str _) _ _) _) _ _ _ _); first | ((with_reducible refine W_str lit2 ?_))) | ((with_reducible show W _ VR (eval (Expr.Attribute _ _ _) _) _ _ _ _); first | (refine W_Attr ?_)) | ((with_reducible show W _ VR (eval (Expr.Call (Expr.Attribute _ _ _) _ _ _) _) _ _ _ _); first | (refine W_Method (by assumption) (by rfl) ?_)) | ((with_reducible show W _ VR (eval (Expr.Call _ _ _ _) _) _ _ _ _); first | (refine W_Call (by assumption) (by rfl) ?_)) | ((with_reducible show W _ FR (exec (Stmt.Assign [Expr.Name _ _] _ _) _) _ _ _ _); first | (refine S_Assign ?_)) | ((with_reducible show W _ FR (exec (Stmt.Assign [Expr.Attribute _ _ _] _ _) _) _ _ _ _); first | (refine S_AssignA ?_)) | ((with_reducible show W _ FR (exec (Stmt.If _ _ _ _) _) _ _ _ _); first | ((with_reducible refine S_If ?_))) | ((with_reducible show W _ FR (exec (Stmt.Expr _ _) _) _ _ _ _); first | (refine S_ExprV ?_ (inter (by assumption)))) | ((with_reducible show W _ BR (isTrue (Expr.UnaryOp UnaryOp.Not _ _) _ _) _ _ _ _); first | ((with_reducible refine T_Not ?_))) | ((with_reducible show W _ BR (isTrue _ _ _) _ _ _ _); first | (refine T_plain rfl ?_)) | ((with_reducible show Tru _ _ _ _ _ _); first | ((with_reducible refine tru_bool ?_))) | ((with_reducible show Cal _ _ _ _ _ _ _); first | ((with_reducible refine isi_bytes_str (by first | k_dflt (assumption) | fail) ?_)) | ((with_reducible refine str_latin1 (by first | (k_dflt ((first | assumption | omega | decide | (simp only [List.length_append, List.length_cons, List.length_nil, List.length_drop, List.length_take, List.length_map]; omega) | (simp only [List.length_append, List.length_cons, List.length_nil, List.length_drop, List.length_take, List.length_map] at *; omega))); done) | fail) ?_))) | ((with_reducible show Br false _ _); first | ((with_reducible refine br_f ?_))) | ((with_reducible show Br (! _) _ _); first | ((with_reducible refine br_not ?_))) | ((with_reducible show Args _ _ _ _ _ _); first | ((with_reducible refine args_cons' ?_)) | ((with_reducible refine args_nil' ?_))) | ((with_reducible show Kp _ _ ∧ _); first | ((with_reducible refine kp_and kp_blt ?_)) | ((with_reducible refine kp_and kp_type ?_)) | ((with_reducible refine kp_met (by first | k_dflt (assumption) | fail) (by first | (k_dflt ((with_reducible_and_instances repeat (first | exact List.Mem.head _ | apply List.Mem.tail))); done) | fail) ?_))) | ((with_reducible show plainV _ = true ∧ _); first | ((with_reducible refine plain_and rfl ?_))) | ((with_reducible show Sto _ _ _ _ _ _ _); first | ((with_reducible refine Sto_local (by first | k_dflt (assumption) | fail) (by first | k_dflt (assumption) | fail) (by first | k_dflt (assumption) | fail) (by first | (k_dflt ((with_reducible repeat (first | exact Put.here | apply Put.there))); done) | fail) ?_))) | ((with_reducible show GetM _ _ _ _ _ _ _); first | ((with_reducible refine getm_tk (by first | k_dflt (assumption) | fail) (by first | k_dflt (assumption) | fail) (by first | (k_dflt ((with_reducible_and_instances repeat (first | exact List.Mem.head _ | apply List.Mem.tail))); done) | fail) (by first | (k_dflt ((with_reducible_and_instances repeat (first | exact List.Mem.head _ | apply List.Mem.tail))); done) | fail) (by first | (k_dflt ((with_reducible_and_instances repeat (first | exact List.Mem.head _ | apply List.Mem.tail))); done) | fail) (by first | (k_dflt ((repeat (first | with_reducible exact NoEnt.nil | (with_reducible apply NoEnt.cons; (focus decide))))); done) | fail) ?_))) | ((with_reducible show GetA _ _ _ _ _ _ _); first | ((with_reducible refine geta_tk (by first | k_dflt (assumption) | fail) (by first | k_dflt (assumption) | fail) (by first | (k_dflt ((with_reducible_and_instances repeat (first | exact List.Mem.head _ | apply List.Mem.tail))); done) | fail) (by first | (k_dflt ((with_reducible_and_instances repeat (first | exact List.Mem.head _ | apply List.Mem.tail))); done) | fail) (by first | (k_dflt ((with_reducible_and_instances repeat (first | exact List.Mem.head _ | apply List.Mem.tail))); done) | fail) (by first | (k_dflt ((with_reducible repeat (first | exact Ent.here | (apply Ent.there; (focus decide))))); done) | fail) (by first | (k_dflt (first | exact rfl | exact handed_ovV _ | assumption); done) | fail) ?_))) | ((with_reducible show SetA _ _ _ _ _ _ _ _); first | ((with_reducible refine seta_tk (by first | k_dflt (assumption) | fail) (by first | k_dflt (assumption) | fail) (by first | (k_dflt ((with_reducible_and_instances repeat (first | exact List.Mem.head _ | apply List.Mem.tail))); done) | fail) (by first | (k_dflt ((with_reducible repeat (first | exact OUpd.head | apply OUpd.tail))); done) | fail) (by first | (k_dflt ((with_reducible_and_instances repeat (first | exact List.Mem.head _ | apply List.Mem.tail))); done) | fail) (by first | (k_dflt ((with_reducible repeat (first | exact EPut.here | exact EPut.nil | (apply EPut.there; (focus decide))))); done) | fail) (by first | (k_dflt (exact Nat.le_of_ble_eq_true rfl); done) | fail) ?_))) | fail)
    all_goals first | ((first | (refine' hTr (ob2 := [(t, .inst 133 d), (d, .dct _)]) ?fp ?fe0 ?fe1; (case fp => (with_reducible repeat (first | exact Picks.nil | (apply Picks.cons; (focus (with_reducible repeat (first | exact Pick.head | apply Pick.tail))))))); (case fe0 => rfl); (case fe1 => rfl)) | (refine' hTn (ob2 := [(t, .inst 133 d), (d, .dct _)]) ?fp ?fe0 ?fe1; (case fp => (with_reducible repeat (first | exact Picks.nil | (apply Picks.cons; (focus (with_reducible repeat (first | exact Pick.head | apply Pick.tail))))))); (case fe0 => rfl); (case fe1 => rfl))))
  case c1 => exact rfl
  case c2 => exact rfl
  case c3 => exact rfl
theorem new_B {c : Cx} (ok : c.Ok) (HG : GK c.g) {l : List Nat} (hl : l.length ≤ 1000) {j : Nat} {o : Option (List Nat)} (hn : nxt l 0 = some (j, o)) (hd : 3 ≤ c.d) (hh : c.B.handled = none) {Q : QT V} {X : QT Addr} {lo : Loc} {ob : Obs}
    (h : ∀ x dx, Q (.ref x) lo ((x, .inst 133 dx) :: (dx, .dct (tokE (.bool false) (.bytes l) l (j : Int) (ovV o))) :: ob)) : Cal c (.ref 133) [.bytes l] Q X lo ob :=
  cal_new (small := []) (oth := []) (ob2 := fun x dx => (x, .inst 133 dx) :: (dx, .dct (tokE (.bool false) (.bytes l) l (j : Int) (ovV o))) :: ob) ok HG.tk.mi HG.tk.ii HG.tk.isf (fun x dx => init_B HG hl hn) (fun x dx => .cons (.cons .nil)) (by omega) (.inr hh) h
theorem new_K {c : Cx} (ok : c.Ok) (HG : GK c.g) (kd : Bool) {l : List Nat} (hl : l.length ≤ 1000) {j : Nat} {o : Option (List Nat)} (hn : nxt l 0 = some (j, o)) (hd : 3 ≤ c.d) (hh : c.B.handled = none) {Q : QT V} {X : QT Addr} {lo : Loc} {ob : Obs}
    (h : ∀ x dx, Q (.ref x) lo ((x, .inst 133 dx) :: (dx, .dct (tokE (.bool kd) (ptV kd l) l (j : Int) (ovV o))) :: ob)) : Cal c (.ref 133) [ptV kd l] Q X lo ob := by
  cases kd
  · exact new_B ok HG hl hn hd hh h
  · exact new_S ok HG hl hn hd hh h
theorem seek_F : ∀ {g : G} (HG : GK g) {t d : Addr} {it st : V} {l : List Nat} {i0 kz : Int} {i : Nat} {nv : V} (hl : l.length ≤ 1000) (hi : i ≤ 2000) (hkz : kz = (i : Int)) {j : Nat} {o : Option (List Nat)} (hn : nxt l i = some (j, o)), FnE g 115 [.ref t, .int kz] 2 false (.none) ([(t, .inst 133 d), (d, .dct (tokE it st l (j : Int) (ovV o)))]) ([(t, .inst 133 d), (d, .dct (tokE it st l i0 nv))]) := by
  k_fill
  intro g HG t d it st l i0 kz i nv hl hi hkz j o hn
  have H := HG.tk
  have hp := HG.hp
  have hK := HG.hK
  skip
  refine FnC.forget ?_
  refine' fn_intro (pn := [Str.ofString "self", Str.ofString "index"]) (lo0 := [some (.ref t), some (.int kz)]) (X := fun _ _ _ => False) ?ho ?hcd ?hb ?hpn ?hlo ?hloc ?hnd ?hcell leaves_never ?h ?c1 ?c2 ?c3
  case ho => rw [hK]; k_is
  case hcd => rw [hK]; k_is
  case hb => intro s' cas' X' hv'; obtain ⟨c1', c2', rfl, h1', h2'⟩ := VRs2 hv'; first | exact BindsTo.of_eq rfl | (rw [hK] at X'; exact binds_K X' rfl (by k_is) rfl rfl rfl)
  case hpn => decide
  case hlo => rfl
  case hloc => decide
  case hnd => decide
  case hcell => decide
  case h =>
    intro c ok hg henv hns hns' hcv hd hhq
    subst hg
    dsimp only at hns hns'
    have hh := hhq rfl
    skip
    refine fnq_G ?_
    intro TQ hTr hTn
    repeat' (first | ((with_reducible show Cal _ _ _ _ _ _ _); first | ((refine cal_E (by first | k_dflt (assumption) | fail) (by first | (k_dflt ((with_reducible repeat (first | exact Picks.nil | (apply Picks.cons; (focus (with_reducible repeat (first | exact Pick.head | apply Pick.tail))))))); done) | fail) (next_F (by assumption) (by first | k_dflt (assumption) | fail) (by first | (k_dflt (first | omega | exact Nat.zero_le _); done) | fail) (by first | (k_dflt (first | assumption | exact rfl | exact (rfl : (0 : Int) = ((0 : Nat) : Int))); done) | fail) (by first | k_dflt (assumption) | fail)) (by first | (k_dflt ((with_reducible repeat (first | exact App.nil | apply App.cons))); done) | fail) (by first | (k_dflt (((try dsimp only); omega)); done) | fail) (by first | (k_dflt (first | exact .inl rfl | exact .inr (by assumption)); done) | fail) ?_))) | ((with_reducible show Then _ _ _ _ _ _ _); first | ((with_reducible refine then_next ?_))) | ((with_reducible show W _ FR (execs _ _) _ _ _ _); first | ((with_reducible refine S_cons ?_)) | ((with_reducible refine S_nil ?_))) | ((with_reducible show W _ VR (eval (Expr.Name _ _) _) _ _ _ _); first | ((with_reducible refine W_local (by first | k_dflt (assumption) | fail) (by first | k_dflt (assumption) | fail) (by first | k_dflt (assumption) | fail) (by first | (k_dflt ((with_reducible repeat (first | exact Has.here | apply Has.there))); done) | fail) ?_))) | ((with_reducible show W _ VR (eval (Expr.Call (Expr.Attribute _ _ _) _ _ _) _) _ _ _ _); first | (refine W_Method (by assumption) (by rfl) ?_)) | ((with_reducible show W _ FR (exec (Stmt.Assign [Expr.Attribute _ _ _] _ _) _) _ _ _ _); first | (refine S_AssignA ?_)) | ((with_reducible show W _ FR (exec (Stmt.Expr _ _) _) _ _ _ _); first | (refine S_ExprV ?_ (inter (by assumption)))) | ((with_reducible show Args _ _ _ _ _ _); first | ((with_reducible refine args_nil' ?_))) | ((with_reducible show Kp _ _ ∧ _); first | ((with_reducible refine kp_met (by first | k_dflt (assumption) | fail) (by first | (k_dflt ((with_reducible_and_instances repeat (first | exact List.Mem.head _ | apply List.Mem.tail))); done) | fail) ?_))) | ((with_reducible show plainV _ = true ∧ _); first | ((with_reducible refine plain_and rfl ?_))) | ((with_reducible show GetM _ _ _ _ _ _ _); first | ((with_reducible refine getm_tk (by first | k_dflt (assumption) | fail) (by first | k_dflt (assumption) | fail) (by first | (k_dflt ((with_reducible_and_instances repeat (first | exact List.Mem.head _ | apply List.Mem.tail))); done) | fail) (by first | (k_dflt ((with_reducible_and_instances repeat (first | exact List.Mem.head _ | apply List.Mem.tail))); done) | fail) (by first | (k_dflt ((with_reducible_and_instances repeat (first | exact List.Mem.head _ | apply List.Mem.tail))); done) | fail) (by first | (k_dflt ((repeat (first | with_reducible exact NoEnt.nil | (with_reducible apply NoEnt.cons; (focus decide))))); done) | fail) ?_))) | ((with_reducible show SetA _ _ _ _ _ _ _ _); first | ((with_reducible refine seta_tk (by first | k_dflt (assumption) | fail) (by first | k_dflt (assumption) | fail) (by first | (k_dflt ((with_reducible_and_instances repeat (first | exact List.Mem.head _ | apply List.Mem.tail))); done) | fail) (by first | (k_dflt ((with_reducible repeat (first | exact OUpd.head | apply OUpd.tail))); done) | fail) (by first | (k_dflt ((with_reducible_and_instances repeat (first | exact List.Mem.head _ | apply List.Mem.tail))); done) | fail) (by first | (k_dflt ((with_reducible repeat (first | exact EPut.here | exact EPut.nil | (apply EPut.there; (focus decide))))); done) | fail) (by first | (k_dflt (exact Nat.le_of_ble_eq_true rfl); done) | fail) ?_))) | fail)
    all_goals first | ((first | (refine' hTr (ob2 := [(t, .inst 133 d), (d, .dct _)]) ?fp ?fe0 ?fe1; (case fp => (with_reducible repeat (first | exact Picks.nil | (apply Picks.cons; (focus (with_reducible repeat (first | exact Pick.head | apply Pick.tail))))))); (case fe0 => rfl); (case fe1 => rfl)) | (refine' hTn (ob2 := [(t, .inst 133 d), (d, .dct _)]) ?fp ?fe0 ?fe1; (case fp => (with_reducible repeat (first | exact Picks.nil | (apply Picks.cons; (focus (with_reducible repeat (first | exact Pick.head | apply Pick.tail))))))); (case fe0 => rfl); (case fe1 => rfl))))
  case c1 => exact rfl
  case c2 => exact rfl
  case c3 => exact rfl
theorem tell_N : ∀ {g : G} (HG : GK g) {t d : Addr} {it st : V} {l : List Nat} {j p : Nat} (hn : nxt l p = some (j, none)), FnE g 108 [.ref t] 1 false (.int (p : Int)) ([(t, .inst 133 d), (d, .dct (tokE it st l (j : Int) .none))]) ([(t, .inst 133 d), (d, .dct (tokE it st l (j : Int) .none))]) := by
  k_fill
  intro g HG t d it st l j p hn
  have H := HG.tk
  have hp := HG.hp
  have hK := HG.hK
  skip
  refine FnC.forget ?_
  refine' fn_intro (pn := [Str.ofString "self"]) (lo0 := [some (.ref t), none]) (X := fun _ _ _ => False) ?ho ?hcd ?hb ?hpn ?hlo ?hloc ?hnd ?hcell leaves_never ?h ?c1 ?c2 ?c3
  case ho => rw [hK]; k_is
  case hcd => rw [hK]; k_is
  case hb => intro s' cas' X' hv'; obtain ⟨c1', rfl, h1'⟩ := VRs1 hv'; first | exact BindsTo.of_eq rfl | (rw [hK] at X'; exact binds_K X' rfl (by k_is) rfl rfl rfl)
  case hpn => decide
  case hlo => rfl
  case hloc => decide
  case hnd => decide
  case hcell => decide
  case h =>
    intro c ok hg henv hns hns' hcv hd hhq
    subst hg
    dsimp only at hns hns'
    have hh := hhq rfl
    skip
    refine fnq_G ?_
    intro TQ hTr hTn
    repeat' (first | ((with_reducible show Then _ _ _ _ _ _ _); first | ((with_reducible refine then_ret ?_))) | ((with_reducible show W _ FR (execs _ _) _ _ _ _); first | ((with_reducible refine S_cons ?_))) | ((with_reducible show W _ VR (eval (Expr.Name _ _) _) _ _ _ _); first | ((with_reducible refine W_local (by first | k_dflt (assumption) | fail) (by first | k_dflt (assumption) | fail) (by first | k_dflt (assumption) | fail) (by first | (k_dflt ((with_reducible repeat (first | exact Has.here | apply Has.there))); done) | fail) ?_)) | ((with_reducible refine W_bltT (by first | k_dflt (assumption) | fail) (by first | k_dflt (assumption) | fail) (by first | k_dflt (assumption) | fail) (by first | (k_dflt ((with_reducible repeat (first | exact InN.here | apply InN.there))); done) | fail) (by first | (k_dflt ((with_reducible_and_instances repeat (first | exact List.Mem.head _ | apply List.Mem.tail))); done) | fail) ?_))) | ((with_reducible show W _ VR (eval (Expr.Constant (Const.str _) _ _) _) _ _ _ _); first | ((with_reducible refine W_str lit0 ?_))) | ((with_reducible show W _ VR (eval (Expr.Attribute _ _ _) _) _ _ _ _); first | (refine W_Attr ?_)) | ((with_reducible show W _ VR (eval (Expr.Call _ _ _ _) _) _ _ _ _); first | (refine W_Call (by assumption) (by rfl) ?_)) | ((with_reducible show W _ VR (eval (Expr.BinOp _ _ _ _) _) _ _ _ _); first | ((with_reducible refine W_BinOp ?_))) | ((with_reducible show W _ VR (eval (Expr.BoolOp _ _ _) _) _ _ _ _); first | ((with_reducible refine W_BoolOp ?_))) | ((with_reducible show W _ FR (exec (Stmt.Return (some _) _) _) _ _ _ _); first | ((with_reducible refine S_Return ?_))) | ((with_reducible show Op2 _ _ _ _ _ _ _ _); first | ((with_reducible refine sub_ints ?_))) | ((with_reducible show Tru _ _ _ _ _ _); first | ((with_reducible refine tru_none ?_))) | ((with_reducible show Cal _ _ _ _ _ _ _); first | ((with_reducible refine len_str (by first | (k_dflt ((first | assumption | omega | decide | (simp only [List.length_append, List.length_cons, List.length_nil, List.length_drop, List.length_take, List.length_map]; omega) | (simp only [List.length_append, List.length_cons, List.length_nil, List.length_drop, List.length_take, List.length_map] at *; omega))); done) | fail) ?_))) | ((with_reducible show Br false _ _); first | ((with_reducible refine br_f ?_))) | ((with_reducible show Args _ _ _ _ _ _); first | ((with_reducible refine args_cons' ?_)) | ((with_reducible refine args_nil' ?_))) | ((with_reducible show ValAll _ _ _ _ _ _ _); first | ((with_reducible refine val_or ?_)) | ((with_reducible refine val_one ?_))) | ((with_reducible show Kp _ _ ∧ _); first | ((with_reducible refine kp_and kp_blt ?_))) | ((with_reducible show GetA _ _ _ _ _ _ _); first | ((with_reducible refine geta_tk (by first | k_dflt (assumption) | fail) (by first | k_dflt (assumption) | fail) (by first | (k_dflt ((with_reducible_and_instances repeat (first | exact List.Mem.head _ | apply List.Mem.tail))); done) | fail) (by first | (k_dflt ((with_reducible_and_instances repeat (first | exact List.Mem.head _ | apply List.Mem.tail))); done) | fail) (by first | (k_dflt ((with_reducible_and_instances repeat (first | exact List.Mem.head _ | apply List.Mem.tail))); done) | fail) (by first | (k_dflt ((with_reducible repeat (first | exact Ent.here | (apply Ent.there; (focus decide))))); done) | fail) (by first | (k_dflt (first | exact rfl | exact handed_ovV _ | assumption); done) | fail) ?_))) | fail)
    all_goals (rw [tell_none hn])
    all_goals first | ((first | (refine' hTr (ob2 := [(t, .inst 133 d), (d, .dct (tokE it st l (j : Int) _))]) ?fp ?fe0 ?fe1; (case fp => (with_reducible repeat (first | exact Picks.nil | (apply Picks.cons; (focus (with_reducible repeat (first | exact Pick.head | apply Pick.tail))))))); (case fe0 => rfl); (case fe1 => rfl)) | (refine' hTn (ob2 := [(t, .inst 133 d), (d, .dct (tokE it st l (j : Int) _))]) ?fp ?fe0 ?fe1; (case fp => (with_reducible repeat (first | exact Picks.nil | (apply Picks.cons; (focus (with_reducible repeat (first | exact Pick.head | apply Pick.tail))))))); (case fe0 => rfl); (case fe1 => rfl))))
  case c1 => exact rfl
  case c2 => exact rfl
  case c3 => exact rfl
theorem tell_S : ∀ {g : G} (HG : GK g) {t d : Addr} {it st : V} {l : List Nat} {j p : Nat} {s : List Nat} (hn : nxt l p = some (j, some s)), FnE g 108 [.ref t] 1 false (.int (p : Int)) ([(t, .inst 133 d), (d, .dct (tokE it st l (j : Int) (.str s)))]) ([(t, .inst 133 d), (d, .dct (tokE it st l (j : Int) (.str s)))]) := by
  k_fill
  intro g HG t d it st l j p s hn
  have H := HG.tk
  have hp := HG.hp
  have hK := HG.hK
  skip
  refine FnC.forget ?_
  refine' fn_intro (pn := [Str.ofString "self"]) (lo0 := [some (.ref t), none]) (X := fun _ _ _ => False) ?ho ?hcd ?hb ?hpn ?hlo ?hloc ?hnd ?hcell leaves_never ?h ?c1 ?c2 ?c3
  case ho => rw [hK]; k_is
  case hcd => rw [hK]; k_is
  case hb => intro s' cas' X' hv'; obtain ⟨c1', rfl, h1'⟩ := VRs1 hv'; first | exact BindsTo.of_eq rfl | (rw [hK] at X'; exact binds_K X' rfl (by k_is) rfl rfl rfl)
  case hpn => decide
  case hlo => rfl
  case hloc => decide
  case hnd => decide
  case hcell => decide
  case h =>
    intro c ok hg henv hns hns' hcv hd hhq
    subst hg
    dsimp only at hns hns'
    have hh := hhq rfl
    obtain ⟨g1, g2, g3, g4, g5, g6, g7⟩ := nxt_sign hn
    refine fnq_G ?_
    intro TQ hTr hTn
    repeat' (first | ((with_reducible show Then _ _ _ _ _ _ _); first | ((with_reducible refine then_ret ?_))) | ((with_reducible show W _ FR (execs _ _) _ _ _ _); first | ((with_reducible refine S_cons ?_))) | ((with_reducible show W _ VR (eval (Expr.Name _ _) _) _ _ _ _); first | ((with_reducible refine W_local (by first | k_dflt (assumption) | fail) (by first | k_dflt (assumption) | fail) (by first | k_dflt (assumption) | fail) (by first | (k_dflt ((with_reducible repeat (first | exact Has.here | apply Has.there))); done) | fail) ?_)) | ((with_reducible refine W_bltT (by first | k_dflt (assumption) | fail) (by first | k_dflt (assumption) | fail) (by first | k_dflt (assumption) | fail) (by first | (k_dflt ((with_reducible repeat (first | exact InN.here | apply InN.there))); done) | fail) (by first | (k_dflt ((with_reducible_and_instances repeat (first | exact List.Mem.head _ | apply List.Mem.tail))); done) | fail) ?_))) | ((with_reducible show W _ VR (eval (Expr.Attribute _ _ _) _) _ _ _ _); first | (refine W_Attr ?_)) | ((with_reducible show W _ VR (eval (Expr.Call _ _ _ _) _) _ _ _ _); first | (refine W_Call (by assumption) (by rfl) ?_)) | ((with_reducible show W _ VR (eval (Expr.BinOp _ _ _ _) _) _ _ _ _); first | ((with_reducible refine W_BinOp ?_))) | ((with_reducible show W _ VR (eval (Expr.BoolOp _ _ _) _) _ _ _ _); first | ((with_reducible refine W_BoolOp ?_))) | ((with_reducible show W _ FR (exec (Stmt.Return (some _) _) _) _ _ _ _); first | ((with_reducible refine S_Return ?_))) | ((with_reducible show Op2 _ _ _ _ _ _ _ _); first | ((with_reducible refine sub_ints ?_))) | ((with_reducible show Tru _ _ _ _ _ _); first | ((with_reducible refine tru_str (by first | (k_dflt ((first | assumption | omega | decide | (simp only [List.length_append, List.length_cons, List.length_nil, List.length_drop, List.length_take, List.length_map]; omega) | (simp only [List.length_append, List.length_cons, List.length_nil, List.length_drop, List.length_take, List.length_map] at *; omega))); done) | fail) ?_))) | ((with_reducible show Cal _ _ _ _ _ _ _); first | ((with_reducible refine len_str (by first | (k_dflt ((first | assumption | omega | decide | (simp only [List.length_append, List.length_cons, List.length_nil, List.length_drop, List.length_take, List.length_map]; omega) | (simp only [List.length_append, List.length_cons, List.length_nil, List.length_drop, List.length_take, List.length_map] at *; omega))); done) | fail) ?_))) | ((with_reducible show Br (decide _) _ _); first | ((with_reducible refine br_yes (by assumption) ?_))) | ((with_reducible show Args _ _ _ _ _ _); first | ((with_reducible refine args_cons' ?_)) | ((with_reducible refine args_nil' ?_))) | ((with_reducible show ValAll _ _ _ _ _ _ _); first | ((with_reducible refine val_or ?_))) | ((with_reducible show Kp _ _ ∧ _); first | ((with_reducible refine kp_and kp_blt ?_))) | ((with_reducible show GetA _ _ _ _ _ _ _); first | ((with_reducible refine geta_tk (by first | k_dflt (assumption) | fail) (by first | k_dflt (assumption) | fail) (by first | (k_dflt ((with_reducible_and_instances repeat (first | exact List.Mem.head _ | apply List.Mem.tail))); done) | fail) (by first | (k_dflt ((with_reducible_and_instances repeat (first | exact List.Mem.head _ | apply List.Mem.tail))); done) | fail) (by first | (k_dflt ((with_reducible_and_instances repeat (first | exact List.Mem.head _ | apply List.Mem.tail))); done) | fail) (by first | (k_dflt ((with_reducible repeat (first | exact Ent.here | (apply Ent.there; (focus decide))))); done) | fail) (by first | (k_dflt (first | exact rfl | exact handed_ovV _ | assumption); done) | fail) ?_))) | fail)
    all_goals (rw [tell_some hn])
    all_goals first | ((first | (refine' hTr (ob2 := [(t, .inst 133 d), (d, .dct (tokE it st l (j : Int) _))]) ?fp ?fe0 ?fe1; (case fp => (with_reducible repeat (first | exact Picks.nil | (apply Picks.cons; (focus (with_reducible repeat (first | exact Pick.head | apply Pick.tail))))))); (case fe0 => rfl); (case fe1 => rfl)) | (refine' hTn (ob2 := [(t, .inst 133 d), (d, .dct (tokE it st l (j : Int) _))]) ?fp ?fe0 ?fe1; (case fp => (with_reducible repeat (first | exact Picks.nil | (apply Picks.cons; (focus (with_reducible repeat (first | exact Pick.head | apply Pick.tail))))))); (case fe0 => rfl); (case fe1 => rfl))))
  case c1 => exact rfl
  case c2 => exact rfl
  case c3 => exact rfl
theorem tell_O {g : G} (HG : GK g) {t d : Addr} {it st : V} {l : List Nat} {j p : Nat} {o : Option (List Nat)} (hn : nxt l p = some (j, o)) : FnE g 108 [.ref t] 1 false (.int (p : Int)) ([(t, .inst 133 d), (d, .dct (tokE it st l (j : Int) (ovV o)))]) ([(t, .inst 133 d), (d, .dct (tokE it st l (j : Int) (ovV o)))]) := by
  cases o with
  | none => exact tell_N HG hn
  | some s => exact tell_S HG hn
theorem octets_F : ∀ {g : G} (HG : GK g) {l : List Nat} (hl : l.length ≤ 1000) (hc : ∀ k ∈ l, k < 256), FnE g 142 [.str l] 1 false (.bytes l) ([]) ([]) := by
  k_fill
  intro g HG l hl hc
  have H := HG.tk
  have hp := HG.hp
  have hK := HG.hK
  skip
  refine FnC.forget ?_
  refine' fn_intro (pn := [Str.ofString "text"]) (lo0 := [some (.str l), none]) (X := fun _ _ _ => False) ?ho ?hcd ?hb ?hpn ?hlo ?hloc ?hnd ?hcell leaves_never ?h ?c1 ?c2 ?c3
  case ho => rw [hK]; k_is
  case hcd => rw [hK]; k_is
  case hb => intro s' cas' X' hv'; obtain ⟨c1', rfl, h1'⟩ := VRs1 hv'; first | exact BindsTo.of_eq rfl | (rw [hK] at X'; exact binds_K X' rfl (by k_is) rfl rfl rfl)
  case hpn => decide
  case hlo => rfl
  case hloc => decide
  case hnd => decide
  case hcell => decide
  case h =>
    intro c ok hg henv hns hns' hcv hd hhq
    subst hg
    dsimp only at hns hns'
    have hh := hhq rfl
    skip
    refine fnq_G ?_
    intro TQ hTr hTn
    repeat' (first | ((with_reducible show W _ FR (execs _ _) _ _ _ _); first | ((with_reducible refine S_cons ?_))) | ((with_reducible show W _ VR (eval (Expr.Name _ _) _) _ _ _ _); first | ((with_reducible refine W_local (by first | k_dflt (assumption) | fail) (by first | k_dflt (assumption) | fail) (by first | k_dflt (assumption) | fail) (by first | (k_dflt ((with_reducible repeat (first | exact Has.here | apply Has.there))); done) | fail) ?_)) | ((with_reducible refine W_bltT (by first | k_dflt (assumption) | fail) (by first | k_dflt (assumption) | fail) (by first | k_dflt (assumption) | fail) (by first | (k_dflt ((with_reducible repeat (first | exact InN.here | apply InN.there))); done) | fail) (by first | (k_dflt ((with_reducible_and_instances repeat (first | exact List.Mem.head _ | apply List.Mem.tail))); done) | fail) ?_))) | ((with_reducible show W _ VR (eval (Expr.Call _ _ _ _) _) _ _ _ _); first | (refine W_Call (by assumption) (by rfl) ?_)) | ((with_reducible show W _ VR (eval (Expr.ListComp _ _ _ _) _) _ _ _ _); first | ((refine W_Comp0 (by first | k_dflt (assumption) | fail) (by first | (k_dflt (decide); done) | fail) (by first | (k_dflt (exact rfl); done) | fail) (by first | (k_dflt (decide); done) | fail) (by first | (k_dflt (exact rfl); done) | fail) (by first | (k_dflt (decide); done) | fail) (by first | (k_dflt (exact rfl); done) | fail) (by first | (k_dflt (decide); done) | fail) ?_))) | ((with_reducible show W _ FR (exec (Stmt.Return (some _) _) _) _ _ _ _); first | ((with_reducible refine S_Return ?_))) | ((with_reducible show Args _ _ _ _ _ _); first | ((with_reducible refine args_cons' ?_))) | ((with_reducible show Kp _ _ ∧ _); first | ((with_reducible refine kp_and kp_type ?_))) | ((with_reducible show CompF _ _ _ _ _ _ _ _ _); first | ((refine compF (Itr_str (by first | k_dflt (assumption) | fail)) (by first | (k_dflt ((first | assumption | omega | decide | (simp only [List.length_append, List.length_cons, List.length_nil, List.length_drop, List.length_take, List.length_map]; omega) | (simp only [List.length_append, List.length_cons, List.length_nil, List.length_drop, List.length_take, List.length_map] at *; omega))); done) | fail) ?_))) | fail)
    refine CompE.mapk (fun (k : Nat) => V.int (k : Int)) (fun k hk c2 ok2 hg2 hns2 hcv2 hd2 hB2 => ?_) ?_
    · have H2 : GK c2.g := by rw [hg2]; exact HG
      have H3 := H2.tk
      dsimp only at hns2
      repeat' (first | ((with_reducible show W _ VR (eval (Expr.Name _ _) _) _ _ _ _); first | ((with_reducible refine W_bltT (by first | k_dflt (assumption) | fail) (by first | k_dflt (assumption) | fail) (by first | k_dflt (assumption) | fail) (by first | (k_dflt ((with_reducible repeat (first | exact InN.here | apply InN.there))); done) | fail) (by first | (k_dflt ((with_reducible_and_instances repeat (first | exact List.Mem.head _ | apply List.Mem.tail))); done) | fail) ?_)) | ((with_reducible refine W_comp (by first | k_dflt (assumption) | fail) (by first | k_dflt (assumption) | fail) (by first | k_dflt (assumption) | fail) (by first | (k_dflt ((with_reducible repeat (first | exact InN.here | apply InN.there))); done) | fail) (by first | (k_dflt ((with_reducible_and_instances repeat (first | exact List.Mem.head _ | apply List.Mem.tail))); done) | fail) ?_))) | ((with_reducible show W _ VR (eval (Expr.Call _ _ _ _) _) _ _ _ _); first | (refine W_Call (by assumption) (by rfl) ?_)) | ((with_reducible show Cal _ _ _ _ _ _ _); first | ((with_reducible refine ord_1 ?_))) | ((with_reducible show Args _ _ _ _ _ _); first | ((with_reducible refine args_cons' ?_)) | ((with_reducible refine args_nil' ?_))) | ((with_reducible show Kp _ _ ∧ _); first | ((with_reducible refine kp_and kp_blt ?_))) | fail)
      all_goals exact ⟨rfl, rfl, rfl⟩
    · intro D
      repeat' (first | ((with_reducible show Args _ _ _ _ _ _); first | ((with_reducible refine args_nil' ?_))) | fail)
      refine' bytes_list ?oh ?om ?oc ?oz ?_
      case oh => assumption
      case om => exact .inl (by ((with_reducible_and_instances repeat (first | exact List.Mem.head _ | apply List.Mem.tail))))
      case oc => assumption
      case oz => omega
      repeat' (first | ((with_reducible show Then _ _ _ _ _ _ _); first | ((with_reducible refine then_ret ?_))) | fail)
      all_goals (first | (refine' hTr (ob2 := []) ?fp ?fe0 ?fe1; (case fp => (with_reducible repeat (first | exact Picks.nil | (apply Picks.cons; (focus (with_reducible repeat (first | exact Pick.head | apply Pick.tail))))))); (case fe0 => rfl); (case fe1 => rfl)) | (refine' hTn (ob2 := []) ?fp ?fe0 ?fe1; (case fp => (with_reducible repeat (first | exact Picks.nil | (apply Picks.cons; (focus (with_reducible repeat (first | exact Pick.head | apply Pick.tail))))))); (case fe0 => rfl); (case fe1 => rfl)))
  case c1 => exact rfl
  case c2 => exact rfl
  case c3 => exact rfl
theorem startsA_yes {l : List Nat} {k c : Nat} (hc : c = runAt l k) (h : ((c : Nat) : Int).fmod 2 = 0) : (startsTo l k).map (fun (k : Nat) => V.int (k : Int)) ++ [.int (0 + (k : Int))] = (startsTo l (k + 1)).map (fun (k : Nat) => V.int (k : Int)) := by
  rw [Int.fmod_eq_emod_of_nonneg _ (by decide)] at h
  rw [startsTo_yes (by omega), List.map_append, Int.zero_add]
  rfl
theorem startsA_no {l : List Nat} {k c : Nat} (hc : c = runAt l k) (h : ¬ ((c : Nat) : Int).fmod 2 = 0) : (startsTo l k).map (fun (k : Nat) => V.int (k : Int)) = (startsTo l (k + 1)).map (fun (k : Nat) => V.int (k : Int)) := by
  rw [Int.fmod_eq_emod_of_nonneg _ (by decide)] at h
  rw [startsTo_no (by omega)]
theorem bsA_no {d : Nat} (h : ¬ [d] = [92]) : (tx [d] == Str.ofString "\\") = false := by rw [bs_code] at h; simpa using h
theorem starts_F : ∀ {g : G} (HG : GK g) {l : List Nat} (hl : l.length ≤ 1000), FnN g 149 [.str l] 1 false (fun D => [(D, .list ((startsTo l l.length).map fun (k : Nat) => V.int (k : Int)))]) ([]) := by
  k_fill
  intro g HG l hl
  have H := HG.tk
  have hp := HG.hp
  have hK := HG.hK
  skip
  refine FnC.forget ?_
  refine' fn_intro (pn := [Str.ofString "text"]) (lo0 := [some (.str l), none, none, none, none, none]) (X := fun _ _ _ => False) ?ho ?hcd ?hb ?hpn ?hlo ?hloc ?hnd ?hcell leaves_never ?h ?c1 ?c2 ?c3
  case ho => rw [hK]; k_is
  case hcd => rw [hK]; k_is
  case hb => intro s' cas' X' hv'; obtain ⟨c1', rfl, h1'⟩ := VRs1 hv'; first | exact BindsTo.of_eq rfl | (rw [hK] at X'; exact binds_K X' rfl (by k_is) rfl rfl rfl)
  case hpn => decide
  case hlo => rfl
  case hloc => decide
  case hnd => decide
  case hcell => decide
  case h =>
    intro c ok hg henv hns hns' hcv hd hhq
    subst hg
    dsimp only at hns hns'
    have hh := hhq rfl
    skip
    repeat' (first | ((with_reducible show Then _ _ _ _ _ _ _); first | ((with_reducible refine then_next ?_))) | ((with_reducible show W _ FR (execs _ _) _ _ _ _); first | ((with_reducible refine S_cons ?_))) | ((with_reducible show W _ VR (eval (Expr.Name _ _) _) _ _ _ _); first | ((with_reducible refine W_local (by first | k_dflt (assumption) | fail) (by first | k_dflt (assumption) | fail) (by first | k_dflt (assumption) | fail) (by first | (k_dflt ((with_reducible repeat (first | exact Has.here | apply Has.there))); done) | fail) ?_)) | ((with_reducible refine W_bltT (by first | k_dflt (assumption) | fail) (by first | k_dflt (assumption) | fail) (by first | k_dflt (assumption) | fail) (by first | (k_dflt ((with_reducible repeat (first | exact InN.here | apply InN.there))); done) | fail) (by first | (k_dflt ((with_reducible_and_instances repeat (first | exact List.Mem.head _ | apply List.Mem.tail))); done) | fail) ?_))) | ((with_reducible show W _ VR (eval (Expr.Call _ _ _ _) _) _ _ _ _); first | (refine W_Call (by assumption) (by rfl) ?_)) | ((with_reducible show W _ VR (eval (Expr.List _ _) _) _ _ _ _); first | (refine W_List (by rfl) ?_)) | ((with_reducible show W _ FR (exec (Stmt.Assign [Expr.Name _ _] _ _) _) _ _ _ _); first | (refine S_Assign ?_)) | ((with_reducible show W _ FR (exec (Stmt.For _ _ _ _ _) _) _ _ _ _); first | (refine S_For ?_)) | ((with_reducible show Cal _ _ _ _ _ _ _); first | ((with_reducible refine len_str (by first | (k_dflt ((first | assumption | omega | decide | (simp only [List.length_append, List.length_cons, List.length_nil, List.length_drop, List.length_take, List.length_map]; omega) | (simp only [List.length_append, List.length_cons, List.length_nil, List.length_drop, List.length_take, List.length_map] at *; omega))); done) | fail) ?_)) | ((with_reducible refine range_1 ?_); intro _)) | ((with_reducible show Args _ _ _ _ _ _); first | ((with_reducible refine args_cons' ?_)) | ((with_reducible refine args_nil' ?_))) | ((with_reducible show Kp _ _ ∧ _); first | ((with_reducible refine kp_and kp_blt ?_)) | ((with_reducible refine kp_and kp_type ?_))) | ((with_reducible show _ ≤ _ ∧ _); first | ((with_reducible refine disp (by first | (k_dflt ((first | assumption | omega | decide | (simp only [List.length_append, List.length_cons, List.length_nil, List.length_drop, List.length_take, List.length_map]; omega) | (simp only [List.length_append, List.length_cons, List.length_nil, List.length_drop, List.length_take, List.length_map] at *; omega))); done) | fail) ?_); intro _)) | ((with_reducible show Sto _ _ _ _ _ _ _); first | ((with_reducible refine Sto_local (by first | k_dflt (assumption) | fail) (by first | k_dflt (assumption) | fail) (by first | k_dflt (assumption) | fail) (by first | (k_dflt ((with_reducible repeat (first | exact Put.here | apply Put.there))); done) | fail) ?_))) | fail)
    rename_i D R
    refine' For_range (n := l.length) ?rh ?rE ?rp ?rs ?rn ?_
    case rh => assumption
    case rE => exact passes_never
    case rp => (with_reducible repeat (first | exact Picks.nil | (apply Picks.cons; (focus (with_reducible repeat (first | exact Pick.head | apply Pick.tail))))))
    case rs => exact small_one (by omega) (by omega) (by omega) (by omega)
    case rn => exact rangeSize_nat _ _
    refine Wkn.of (forW_inv (fun k lo ob => ∃ pv rv, lo = [some (.str l), some (.ref D), pv, rv, none, none] ∧ ob = [(D, .list ((startsTo l k).map fun (k : Nat) => V.int (k : Int)))]) (fun k v lo ob hv hI => ?_) (fun lo ob hI => ?_) ⟨_, _, rfl, rfl⟩)
    · obtain ⟨pv, rv, rfl, rfl⟩ := hI
      obtain ⟨hk, rfl⟩ : k < l.length ∧ V.int (0 + (k : Int)) = v := by
        rw [List.getElem?_map] at hv
        by_cases hk : k < l.length
        · rw [List.getElem?_range hk] at hv
          exact ⟨hk, by simpa using hv⟩
        · rw [List.getElem?_eq_none (by simpa using hk)] at hv
          cases hv
      have hfew : ((startsTo l k).map fun (k : Nat) => V.int (k : Int)).length ≤ 100000 := by
        rw [List.length_map]
        have := startsTo_length l k
        omega
      repeat' (first | ((with_reducible show Then _ _ _ _ _ _ _); first | ((with_reducible refine then_next ?_))) | ((with_reducible show W _ FR (execs _ _) _ _ _ _); first | ((with_reducible refine S_cons ?_))) | ((with_reducible show W _ VR (eval (Expr.Constant (Const.int _) _ _) _) _ _ _ _); first | ((with_reducible refine W_int ?_))) | ((with_reducible show W _ FR (exec (Stmt.Assign [Expr.Name _ _] _ _) _) _ _ _ _); first | (refine S_Assign ?_)) | ((with_reducible show Asg _ _ _ _ _ _ _); first | ((with_reducible refine asg_name ?_))) | ((with_reducible show Sto _ _ _ _ _ _ _); first | ((with_reducible refine Sto_local (by first | k_dflt (assumption) | fail) (by first | k_dflt (assumption) | fail) (by first | k_dflt (assumption) | fail) (by first | (k_dflt ((with_reducible repeat (first | exact Put.here | apply Put.there))); done) | fail) ?_))) | fail)
      refine' S_While (fun n lo ob => ∃ cc : Nat, cc ≤ k ∧ cc + runAt l (k - cc) = runAt l k ∧ n = k - cc ∧ lo = [some (.str l), some (.ref D), some (.int (0 + (k : Int))), some (.int (cc : Int)), none, none] ∧ ob = [(D, .list ((startsTo l k).map fun (k : Nat) => V.int (k : Int)))]) passes_never (Wkn.of ⟨k, 0, Nat.zero_le _, by simp, rfl, rfl, rfl⟩) ?_
      rintro n lo ob ⟨cc, hc1, hc2, rfl, rfl, rfl⟩
      repeat' (first | ((with_reducible show Then _ _ _ _ _ _ _); first | ((with_reducible refine then_next ?_))) | ((with_reducible show W _ FR (execs _ _) _ _ _ _); first | ((with_reducible refine S_cons ?_)) | ((with_reducible refine S_nil ?_))) | ((with_reducible show W _ VR (eval (Expr.Name _ _) _) _ _ _ _); first | ((with_reducible refine W_local (by first | k_dflt (assumption) | fail) (by first | k_dflt (assumption) | fail) (by first | k_dflt (assumption) | fail) (by first | (k_dflt ((with_reducible repeat (first | exact Has.here | apply Has.there))); done) | fail) ?_))) | ((with_reducible show W _ VR (eval (Expr.Constant (Const.int _) _ _) _) _ _ _ _); first | ((with_reducible refine W_int ?_))) | ((with_reducible show W _ VR (eval (Expr.Constant (Const.str _) _ _) _) _ _ _ _); first | ((with_reducible refine W_str lit1 ?_))) | ((with_reducible show W _ VR (eval (Expr.Call (Expr.Attribute _ _ _) _ _ _) _) _ _ _ _); first | (refine W_Method (by assumption) (by rfl) ?_)) | ((with_reducible show W _ VR (eval (Expr.BinOp _ _ _ _) _) _ _ _ _); first | ((with_reducible refine W_BinOp ?_))) | ((with_reducible show W _ VR (eval (Expr.Subscript _ _ _) _) _ _ _ _); first | (refine W_Sub ?_)) | ((with_reducible show W _ FR (exec (Stmt.If _ _ _ _) _) _ _ _ _); first | ((with_reducible refine S_If ?_))) | ((with_reducible show W _ FR (exec (Stmt.Expr _ _) _) _ _ _ _); first | (refine S_ExprV ?_ (inter (by assumption)))) | ((with_reducible show W _ FR (exec (Stmt.AugAssign (Expr.Name _ _) _ _ _) _) _ _ _ _); first | ((with_reducible refine S_Aug (by first | k_dflt (assumption) | fail) (by first | k_dflt (assumption) | fail) (by first | k_dflt (assumption) | fail) (by first | (k_dflt ((with_reducible repeat (first | exact Has.here | apply Has.there))); done) | fail) ?_))) | ((with_reducible show W _ BR (isTrue (Expr.BoolOp _ _ _) _ _) _ _ _ _); first | ((with_reducible refine T_BoolOp ?_))) | ((with_reducible show W _ BR (isTrue (Expr.Compare _ _ _ _) _ _) _ _ _ _); first | (refine T_Compare ?_)) | ((with_reducible show Op2 _ _ _ _ _ _ _ _); first | ((with_reducible refine sub_ints ?_)) | ((with_reducible refine iadd_ints ?_)) | ((with_reducible refine lt_ints ?_)) | ((with_reducible refine eq_ints ?_)) | ((with_reducible refine eq_strs ?_)) | ((with_reducible refine mod_ints (by first | (k_dflt ((first | assumption | omega | decide | (simp only [List.length_append, List.length_cons, List.length_nil, List.length_drop, List.length_take, List.length_map]; omega) | (simp only [List.length_append, List.length_cons, List.length_nil, List.length_drop, List.length_take, List.length_map] at *; omega))); done) | fail) ?_))) | ((with_reducible show Tru _ _ _ _ _ _); first | ((with_reducible refine tru_bool ?_))) | ((with_reducible show Cal _ _ _ _ _ _ _); first | ((with_reducible refine cal_app ?_)) | ((with_reducible refine append_list (by first | (k_dflt ((with_reducible repeat (first | exact OUpd.head | apply OUpd.tail))); done) | fail) (by first | (k_dflt ((first | assumption | omega | decide | (simp only [List.length_append, List.length_cons, List.length_nil, List.length_drop, List.length_take, List.length_map]; omega) | (simp only [List.length_append, List.length_cons, List.length_nil, List.length_drop, List.length_take, List.length_map] at *; omega))); done) | fail) ?_))) | ((with_reducible show Br true _ _); first | ((with_reducible refine br_t ?_))) | ((with_reducible show Br false _ _); first | ((with_reducible refine br_f ?_))) | ((with_reducible show Br (decide _) _ _); first | (with_reducible refine br_dec ?_ ?_ <;> intro _)) | ((with_reducible show Args _ _ _ _ _ _); first | ((with_reducible refine args_cons' ?_)) | ((with_reducible refine args_nil' ?_))) | ((with_reducible show TstAll _ _ _ _ _ _ _); first | ((with_reducible refine tst_and ?_)) | ((with_reducible refine tst_and_nil ?_))) | ((with_reducible show TurnQ _ _ _ _ _); first | ((with_reducible refine turn_next ?_))) | ((with_reducible show WhileQ _ _ _ _ _ _ _); first | ((with_reducible refine whileq_next ?_))) | ((with_reducible show Kp _ _ ∧ _); first | ((with_reducible refine kp_and kp_blt ?_))) | ((with_reducible show plainV _ = true ∧ _); first | ((with_reducible refine plain_and rfl ?_))) | ((with_reducible show Sto _ _ _ _ _ _ _); first | ((with_reducible refine Sto_local (by first | k_dflt (assumption) | fail) (by first | k_dflt (assumption) | fail) (by first | k_dflt (assumption) | fail) (by first | (k_dflt ((with_reducible repeat (first | exact Put.here | apply Put.there))); done) | fail) ?_))) | ((with_reducible show GetM _ _ _ _ _ _ _); first | ((with_reducible refine getm_list (by first | (k_dflt ((with_reducible_and_instances repeat (first | exact List.Mem.head _ | apply List.Mem.tail))); done) | fail) PySem.F.slot_list_append PySem.F.type_list_append ?_))) | ((with_reducible show Sub2 _ _ _ _ _ _ _ _ _); first | ((refine sub_str (by assumption) (by omega) (by omega) ?_ ?_); (focus (intro _ _)); rotate_left; (focus (intro _; first | (exfalso; exact stepA_bad (by assumption) (by assumption) (by assumption) (by assumption)) | (exfalso; exact run_outA (by assumption) (by assumption)) | intro _)); rotate_right)) | fail)
      all_goals first
        | (obtain ⟨⟨s1, s2⟩, s3⟩ := run_step (by assumption) (by assumption) (bs_code.mp (by assumption)) hc2; exact Wkn.of ⟨_, s3, cc + 1, s1, s2, rfl, rfl, rfl⟩)
        | exact Wkn.of ⟨_, _, rfl, by rw [startsA_yes (run_full (by assumption) hc1 hc2) (by assumption)]⟩
        | exact Wkn.of ⟨_, _, rfl, by rw [← startsA_no (run_full (by assumption) hc1 hc2) (by assumption)]⟩
        | exact Wkn.of ⟨_, _, rfl, by rw [startsA_yes (run_stop (by assumption) (by assumption) (bsA_no (by assumption)) hc2) (by assumption)]⟩
        | exact Wkn.of ⟨_, _, rfl, by rw [← startsA_no (run_stop (by assumption) (by assumption) (bsA_no (by assumption)) hc2) (by assumption)]⟩
    · obtain ⟨pv, rv, rfl, rfl⟩ := hI
      rw [List.length_map, List.length_range]
      repeat' (first | ((with_reducible show Then _ _ _ _ _ _ _); first | ((with_reducible refine then_next ?_)) | ((with_reducible refine then_ret ?_))) | ((with_reducible show W _ FR (execs _ _) _ _ _ _); first | ((with_reducible refine S_cons ?_))) | ((with_reducible show W _ VR (eval (Expr.Name _ _) _) _ _ _ _); first | ((with_reducible refine W_local (by first | k_dflt (assumption) | fail) (by first | k_dflt (assumption) | fail) (by first | k_dflt (assumption) | fail) (by first | (k_dflt ((with_reducible repeat (first | exact Has.here | apply Has.there))); done) | fail) ?_))) | ((with_reducible show W _ FR (exec (Stmt.Return (some _) _) _) _ _ _ _); first | ((with_reducible refine S_Return ?_))) | ((with_reducible show FnQ _ _ _ _); first | ((with_reducible refine fnq_ret ?_))) | fail)
      all_goals (refine' frg_intro (ob2 := [(D, .list _)]) ?fp ⟨D, ?fe1, ?fe2⟩; (case fp => (with_reducible repeat (first | exact Picks.nil | (apply Picks.cons; (focus (with_reducible repeat (first | exact Pick.head | apply Pick.tail))))))); (case fe1 => rfl); (case fe2 => rfl))
  case c1 => exact rfl
  case c2 => exact rfl
  case c3 => exact rfl
theorem nxt_none_inv {l : List Nat} {i : Nat} (h : nxt l i = none) : l[((i : Nat) : Int).toNat]? = some 92 ∧ l[((i : Nat) + 1 : Int).toNat]? = none := by
  unfold nxt at h
  have e1 : ((i : Nat) : Int).toNat = i := by omega
  have e2 : ((i : Nat) + 1 : Int).toNat = i + 1 := by omega
  rw [e1, e2]
  cases h1 : l[i]? with
  | none => rw [h1] at h; cases h
  | some c =>
    rw [h1] at h
    dsimp only at h
    by_cases hc : c = 92
    · rw [if_pos hc] at h
      cases h2 : l[i + 1]? with
      | none => exact ⟨by rw [hc], rfl⟩
      | some d => rw [h2] at h; cases h
    · rw [if_neg hc] at h; cases h
theorem zbad_1 {l : List Nat} {i : Nat} (h : nxt l i = none) (h1 : l[((i : Nat) : Int).toNat]? = none) : False := by rw [(nxt_none_inv h).1] at h1; cases h1
theorem zbad_2 {l : List Nat} {i k : Nat} (h : nxt l i = none) (h1 : l[((i : Nat) : Int).toNat]? = some k) (h2 : ¬ [k] = [92]) : False := by rw [(nxt_none_inv h).1] at h1; cases h1; exact h2 rfl
theorem zbad_3 {l : List Nat} {i k : Nat} (h : nxt l i = none) (h1 : l[((i : Nat) + 1 : Int).toNat]? = some k) : False := by rw [(nxt_none_inv h).2] at h1; cases h1
theorem next_ZS : ∀ {g : G} (HG : GK g) {t d : Addr} {it : V} {l : List Nat} {iz : Int} {i : Nat} {nv : V} (hl : l.length ≤ 1000) (hi : i ≤ 2000) (hiz : iz = (i : Int)) (hn : nxt l i = none), FnZ g 65 [.ref t] 4 false 41 [98, 97, 100, 32, 101, 115, 99, 97, 112, 101, 32, 40, 101, 110, 100, 32, 111, 102, 32, 112, 97, 116, 116, 101, 114, 110, 41] l (.str l) ((l.length : Int) - 1) [(t, .inst 133 d), (d, .dct (tokE it (.str l) l iz nv))] [(t, .inst 133 d), (d, .dct (tokE it (.str l) l iz nv))] := by
  k_fill
  intro g HG t d it l iz i nv hl hi hiz hn
  have H := HG.tk
  have hp := HG.hp
  have hK := HG.hK
  have HP := HG.px
  refine FnC.forgetX ?_
  refine' fn_intro (pn := [Str.ofString "self"]) (lo0 := [some (.ref t), none, none, none, none, none]) (X := fun a _ ob => FrgX (ZX 41 [98, 97, 100, 32, 101, 115, 99, 97, 112, 101, 32, 40, 101, 110, 100, 32, 111, 102, 32, 112, 97, 116, 116, 101, 114, 110, 41] l (.str l) ((l.length : Int) - 1) [(t, .inst 133 d), (d, .dct (tokE it (.str l) l iz nv))]) a ob) ?ho ?hcd ?hb ?hpn ?hlo ?hloc ?hnd ?hcell leaves_any ?h ?c1 ?c2 ?c3
  case ho => rw [hK]; k_is
  case hcd => rw [hK]; k_is
  case hb => intro s' cas' X' hv'; obtain ⟨c1', rfl, h1'⟩ := VRs1 hv'; first | exact BindsTo.of_eq rfl | (rw [hK] at X'; exact binds_K X' rfl (by k_is) rfl rfl rfl)
  case hpn => decide
  case hlo => rfl
  case hloc => decide
  case hnd => decide
  case hcell => decide
  case h =>
    intro c ok hg henv hns hns' hcv hd hhq
    subst hg
    dsimp only at hns hns'
    have hh := hhq rfl
    subst hiz
    refine fnx_any ?_
    intro TQ hTQ XV hXV
    repeat' (first | ((with_reducible show Cal _ _ _ _ _ _ _); first | ((refine cal_pe (by first | k_dflt (assumption) | fail) (by first | (k_dflt (exact GK.px (by assumption)); done) | fail) (by first | (k_dflt (first | exact pei_S (by assumption) (by (first | assumption | omega | decide | (simp only [List.length_append, List.length_cons, List.length_nil, List.length_drop, List.length_take, List.length_map]; omega) | (simp only [List.length_append, List.length_cons, List.length_nil, List.length_drop, List.length_take, List.length_map] at *; omega))) (by (first | assumption | omega | decide | (simp only [List.length_append, List.length_cons, List.length_nil, List.length_drop, List.length_take, List.length_map]; omega) | (simp only [List.length_append, List.length_cons, List.length_nil, List.length_drop, List.length_take, List.length_map] at *; omega))) (by (first | assumption | omega | decide | (simp only [List.length_append, List.length_cons, List.length_nil, List.length_drop, List.length_take, List.length_map]; omega) | (simp only [List.length_append, List.length_cons, List.length_nil, List.length_drop, List.length_take, List.length_map] at *; omega))) | exact pei_B (by assumption) (by (first | assumption | omega | decide | (simp only [List.length_append, List.length_cons, List.length_nil, List.length_drop, List.length_take, List.length_map]; omega) | (simp only [List.length_append, List.length_cons, List.length_nil, List.length_drop, List.length_take, List.length_map] at *; omega))) (by (first | assumption | omega | decide | (simp only [List.length_append, List.length_cons, List.length_nil, List.length_drop, List.length_take, List.length_map]; omega) | (simp only [List.length_append, List.length_cons, List.length_nil, List.length_drop, List.length_take, List.length_map] at *; omega))) (by (first | assumption | omega | decide | (simp only [List.length_append, List.length_cons, List.length_nil, List.length_drop, List.length_take, List.length_map]; omega) | (simp only [List.length_append, List.length_cons, List.length_nil, List.length_drop, List.length_take, List.length_map] at *; omega)))); done) | fail) (by first | (k_dflt (((try dsimp only); omega)); done) | fail) (by first | (k_dflt ((first | exact Or.inl (by assumption) | (apply hdv_mk rfl; ((with_reducible_and_instances repeat (first | exact List.Mem.head _ | apply List.Mem.tail))); done) | with_reducible repeat (first | assumption | apply HdV.cons))); done) | fail) ?_); intro _ _ _)) | ((with_reducible show Exists (fun _ => Exists _)); first | ((with_reducible refine raise_go (by first | (k_dflt ((with_reducible repeat (first | exact OUpd.head | apply OUpd.tail))); done) | fail) (by first | (k_dflt ((with_reducible_and_instances repeat (first | exact List.Mem.head _ | apply List.Mem.tail))); done) | fail) ?_))) | ((with_reducible show W _ FR (exec (Stmt.Raise (some _) (some (Expr.Constant Const.none _ _)) _) _) _ _ _ _); first | ((refine S_RaiseFrom (cls := .type "IndexError") (by first | k_dflt (assumption) | fail) (by first | (k_dflt (exact PxF.P (by assumption)); done) | fail) (by first | (k_dflt (exact PxF.Y (by assumption)); done) | fail) (by first | (k_dflt (rfl); done) | fail) ?_))) | ((with_reducible show Then _ _ _ _ _ _ _); first | ((with_reducible refine then_next ?_)) | ((with_reducible refine then_ret ?_))) | ((with_reducible show W _ FR (execs _ _) _ _ _ _); first | ((with_reducible refine S_cons ?_)) | ((with_reducible refine S_nil ?_))) | ((with_reducible show W _ VR (eval (Expr.Name _ _) _) _ _ _ _); first | ((with_reducible refine W_local (by first | k_dflt (assumption) | fail) (by first | k_dflt (assumption) | fail) (by first | k_dflt (assumption) | fail) (by first | (k_dflt ((with_reducible repeat (first | exact Has.here | apply Has.there))); done) | fail) ?_)) | ((with_reducible refine W_globT (by first | k_dflt (assumption) | fail) (by first | k_dflt (assumption) | fail) (by first | k_dflt (assumption) | fail) (by first | (k_dflt ((with_reducible repeat (first | exact InN.here | apply InN.there))); done) | fail) (by first | (k_dflt ((with_reducible_and_instances repeat (first | exact List.Mem.head _ | apply List.Mem.tail))); done) | fail) ?_)) | ((with_reducible refine W_bltT (by first | k_dflt (assumption) | fail) (by first | k_dflt (assumption) | fail) (by first | k_dflt (assumption) | fail) (by first | (k_dflt ((with_reducible repeat (first | exact InN.here | apply InN.there))); done) | fail) (by first | (k_dflt ((with_reducible_and_instances repeat (first | exact List.Mem.head _ | apply List.Mem.tail))); done) | fail) ?_))) | ((with_reducible show W _ VR (eval (Expr.Constant Const.none _ _) _) _ _ _ _); first | ((with_reducible refine W_none ?_))) | ((with_reducible show W _ VR (eval (Expr.Constant (Const.int _) _ _) _) _ _ _ _); first | ((with_reducible refine W_int ?_))) | ((with_reducible show W _ VR (eval (Expr.Constant (Const.str _) _ _) _) _ _ _ _); first | ((with_reducible refine W_str lit1 ?_)) | ((with_reducible refine W_str lit10 ?_))) | ((with_reducible show W _ VR (eval (Expr.Attribute _ _ _) _) _ _ _ _); first | (refine W_Attr ?_)) | ((with_reducible show W _ VR (eval (Expr.Call _ _ _ _) _) _ _ _ _); first | (refine W_Call (by assumption) (by rfl) ?_)) | ((with_reducible show W _ VR (eval (Expr.BinOp _ _ _ _) _) _ _ _ _); first | ((with_reducible refine W_BinOp ?_))) | ((with_reducible show W _ VR (eval (Expr.Subscript _ _ _) _) _ _ _ _); first | (refine W_Sub ?_)) | ((with_reducible show W _ FR (exec (Stmt.Assign [Expr.Name _ _] _ _) _) _ _ _ _); first | (refine S_Assign ?_)) | ((with_reducible show W _ FR (exec (Stmt.Assign [Expr.Attribute _ _ _] _ _) _) _ _ _ _); first | (refine S_AssignA ?_)) | ((with_reducible show W _ FR (exec (Stmt.If _ _ _ _) _) _ _ _ _); first | ((with_reducible refine S_If ?_))) | ((with_reducible show W _ FR (exec (Stmt.Return none _) _) _ _ _ _); first | ((with_reducible refine S_Return0 ?_))) | ((with_reducible show W _ FR (exec (Stmt.AugAssign (Expr.Name _ _) _ _ _) _) _ _ _ _); first | ((with_reducible refine S_Aug (by first | k_dflt (assumption) | fail) (by first | k_dflt (assumption) | fail) (by first | k_dflt (assumption) | fail) (by first | (k_dflt ((with_reducible repeat (first | exact Has.here | apply Has.there))); done) | fail) ?_))) | ((with_reducible show W _ FR (exec (Stmt.Try _ _ _ _ _) _) _ _ _ _); first | (refine S_Try (by assumption) (by assumption) ?_)) | ((with_reducible show W _ BR (isTrue (Expr.Compare _ _ _ _) _ _) _ _ _ _); first | (refine T_Compare ?_)) | ((with_reducible show Op2 _ _ _ _ _ _ _ _); first | ((with_reducible refine add_ints ?_)) | ((with_reducible refine sub_ints ?_)) | ((with_reducible refine iadd_ints ?_)) | ((with_reducible refine eq_strs ?_)) | ((with_reducible refine iadd_strs (by first | (k_dflt ((first | assumption | omega | decide | (simp only [List.length_append, List.length_cons, List.length_nil, List.length_drop, List.length_take, List.length_map]; omega) | (simp only [List.length_append, List.length_cons, List.length_nil, List.length_drop, List.length_take, List.length_map] at *; omega))); done) | fail) ?_))) | ((with_reducible show Tru _ _ _ _ _ _); first | ((with_reducible refine tru_bool ?_))) | ((with_reducible show Cal _ _ _ _ _ _ _); first | ((with_reducible refine len_str (by first | (k_dflt ((first | assumption | omega | decide | (simp only [List.length_append, List.length_cons, List.length_nil, List.length_drop, List.length_take, List.length_map]; omega) | (simp only [List.length_append, List.length_cons, List.length_nil, List.length_drop, List.length_take, List.length_map] at *; omega))); done) | fail) ?_))) | ((with_reducible show Br (decide _) _ _); first | (with_reducible refine br_dec ?_ ?_ <;> intro _)) | ((with_reducible show Args _ _ _ _ _ _); first | ((with_reducible refine args_cons' ?_)) | ((with_reducible refine args_nil' ?_))) | ((with_reducible show Kp _ _ ∧ _); first | ((with_reducible refine kp_and kp_blt ?_)) | ((with_reducible refine kp_fun (by first | k_dflt (assumption) | fail) (by first | (k_dflt ((with_reducible_and_instances repeat (first | exact List.Mem.head _ | apply List.Mem.tail))); done) | fail) ?_))) | ((with_reducible show Sto _ _ _ _ _ _ _); first | ((with_reducible refine Sto_local (by first | k_dflt (assumption) | fail) (by first | k_dflt (assumption) | fail) (by first | k_dflt (assumption) | fail) (by first | (k_dflt ((with_reducible repeat (first | exact Put.here | apply Put.there))); done) | fail) ?_))) | ((with_reducible show GetA _ _ _ _ _ _ _); first | ((with_reducible refine geta_tk (by first | k_dflt (assumption) | fail) (by first | k_dflt (assumption) | fail) (by first | (k_dflt ((with_reducible_and_instances repeat (first | exact List.Mem.head _ | apply List.Mem.tail))); done) | fail) (by first | (k_dflt ((with_reducible_and_instances repeat (first | exact List.Mem.head _ | apply List.Mem.tail))); done) | fail) (by first | (k_dflt ((with_reducible_and_instances repeat (first | exact List.Mem.head _ | apply List.Mem.tail))); done) | fail) (by first | (k_dflt ((with_reducible repeat (first | exact Ent.here | (apply Ent.there; (focus decide))))); done) | fail) (by first | (k_dflt (first | exact rfl | exact handed_ovV _ | assumption); done) | fail) ?_))) | ((with_reducible show SetA _ _ _ _ _ _ _ _); first | ((with_reducible refine seta_tk (by first | k_dflt (assumption) | fail) (by first | k_dflt (assumption) | fail) (by first | (k_dflt ((with_reducible_and_instances repeat (first | exact List.Mem.head _ | apply List.Mem.tail))); done) | fail) (by first | (k_dflt ((with_reducible repeat (first | exact OUpd.head | apply OUpd.tail))); done) | fail) (by first | (k_dflt ((with_reducible_and_instances repeat (first | exact List.Mem.head _ | apply List.Mem.tail))); done) | fail) (by first | (k_dflt ((with_reducible repeat (first | exact EPut.here | exact EPut.nil | (apply EPut.there; (focus decide))))); done) | fail) (by first | (k_dflt (exact Nat.le_of_ble_eq_true rfl); done) | fail) ?_))) | ((with_reducible show Hdl _ _ _ _ _ _ _ _); first | ((with_reducible refine hdl_bltT (by first | k_dflt (assumption) | fail) (by first | k_dflt (assumption) | fail) (by first | (k_dflt ((with_reducible_and_instances repeat (first | exact List.Mem.head _ | apply List.Mem.tail))); done) | fail) (by first | k_dflt (assumption) | fail) (by first | (k_dflt ((with_reducible repeat (first | exact InN.here | apply InN.there))); done) | fail) (by first | (k_dflt ((with_reducible_and_instances repeat (first | exact List.Mem.head _ | apply List.Mem.tail))); done) | fail) (by first | (k_dflt (first | exact GK.ex0 (by assumption) | exact GK.ex1 (by assumption) | exact GK.ex2 (by assumption) | exact GK.ex3 (by assumption)); done) | fail) ?_); intro _)) | ((with_reducible show Sub2 _ _ _ _ _ _ _ _ _); first | ((refine sub_str (by assumption) (by omega) (by omega) ?_ ?_); (focus (intro _ _)); rotate_left; (focus (intro _; first | (exfalso; exact stepA_bad (by assumption) (by assumption) (by assumption) (by assumption)) | (exfalso; exact run_outA (by assumption) (by assumption)) | intro _)); rotate_right)) | fail)
    all_goals (try (first | refine hTQ _ _ _ ?_ | refine hXV _ _ _ ?_))
    all_goals (try (first | refine fnq_ret ?_ | refine fnq_next ?_))
    all_goals first
      | (exfalso; exact zbad_1 hn (by assumption))
      | (exfalso; exact zbad_2 hn (by assumption) (by assumption))
      | (exfalso; exact zbad_3 hn (by assumption))
      | (refine' zx_intro ?fz; (case fz => (with_reducible repeat (first | exact Picks.all | (apply Picks.cons; (focus (with_reducible repeat (first | exact Pick.head | apply Pick.tail)))) | apply Picks.drop))))
  case c1 => exact rfl
  case c2 => exact rfl
  case c3 => exact rfl
theorem next_ZB : ∀ {g : G} (HG : GK g) {t d : Addr} {it : V} {l : List Nat} {iz : Int} {i : Nat} {nv : V} (hl : l.length ≤ 1000) (hi : i ≤ 2000) (hiz : iz = (i : Int)) (hn : nxt l i = none), FnZ g 65 [.ref t] 4 false 41 [98, 97, 100, 32, 101, 115, 99, 97, 112, 101, 32, 40, 101, 110, 100, 32, 111, 102, 32, 112, 97, 116, 116, 101, 114, 110, 41] l (.bytes l) ((l.length : Int) - 1) [(t, .inst 133 d), (d, .dct (tokE it (.bytes l) l iz nv))] [(t, .inst 133 d), (d, .dct (tokE it (.bytes l) l iz nv))] := by
  k_fill
  intro g HG t d it l iz i nv hl hi hiz hn
  have H := HG.tk
  have hp := HG.hp
  have hK := HG.hK
  have HP := HG.px
  refine FnC.forgetX ?_
  refine' fn_intro (pn := [Str.ofString "self"]) (lo0 := [some (.ref t), none, none, none, none, none]) (X := fun a _ ob => FrgX (ZX 41 [98, 97, 100, 32, 101, 115, 99, 97, 112, 101, 32, 40, 101, 110, 100, 32, 111, 102, 32, 112, 97, 116, 116, 101, 114, 110, 41] l (.bytes l) ((l.length : Int) - 1) [(t, .inst 133 d), (d, .dct (tokE it (.bytes l) l iz nv))]) a ob) ?ho ?hcd ?hb ?hpn ?hlo ?hloc ?hnd ?hcell leaves_any ?h ?c1 ?c2 ?c3
  case ho => rw [hK]; k_is
  case hcd => rw [hK]; k_is
  case hb => intro s' cas' X' hv'; obtain ⟨c1', rfl, h1'⟩ := VRs1 hv'; first | exact BindsTo.of_eq rfl | (rw [hK] at X'; exact binds_K X' rfl (by k_is) rfl rfl rfl)
  case hpn => decide
  case hlo => rfl
  case hloc => decide
  case hnd => decide
  case hcell => decide
  case h =>
    intro c ok hg henv hns hns' hcv hd hhq
    subst hg
    dsimp only at hns hns'
    have hh := hhq rfl
    subst hiz
    refine fnx_any ?_
    intro TQ hTQ XV hXV
    repeat' (first | ((with_reducible show Cal _ _ _ _ _ _ _); first | ((refine cal_pe (by first | k_dflt (assumption) | fail) (by first | (k_dflt (exact GK.px (by assumption)); done) | fail) (by first | (k_dflt (first | exact pei_S (by assumption) (by (first | assumption | omega | decide | (simp only [List.length_append, List.length_cons, List.length_nil, List.length_drop, List.length_take, List.length_map]; omega) | (simp only [List.length_append, List.length_cons, List.length_nil, List.length_drop, List.length_take, List.length_map] at *; omega))) (by (first | assumption | omega | decide | (simp only [List.length_append, List.length_cons, List.length_nil, List.length_drop, List.length_take, List.length_map]; omega) | (simp only [List.length_append, List.length_cons, List.length_nil, List.length_drop, List.length_take, List.length_map] at *; omega))) (by (first | assumption | omega | decide | (simp only [List.length_append, List.length_cons, List.length_nil, List.length_drop, List.length_take, List.length_map]; omega) | (simp only [List.length_append, List.length_cons, List.length_nil, List.length_drop, List.length_take, List.length_map] at *; omega))) | exact pei_B (by assumption) (by (first | assumption | omega | decide | (simp only [List.length_append, List.length_cons, List.length_nil, List.length_drop, List.length_take, List.length_map]; omega) | (simp only [List.length_append, List.length_cons, List.length_nil, List.length_drop, List.length_take, List.length_map] at *; omega))) (by (first | assumption | omega | decide | (simp only [List.length_append, List.length_cons, List.length_nil, List.length_drop, List.length_take, List.length_map]; omega) | (simp only [List.length_append, List.length_cons, List.length_nil, List.length_drop, List.length_take, List.length_map] at *; omega))) (by (first | assumption | omega | decide | (simp only [List.length_append, List.length_cons, List.length_nil, List.length_drop, List.length_take, List.length_map]; omega) | (simp only [List.length_append, List.length_cons, List.length_nil, List.length_drop, List.length_take, List.length_map] at *; omega)))); done) | fail) (by first | (k_dflt (((try dsimp only); omega)); done) | fail) (by first | (k_dflt ((first | exact Or.inl (by assumption) | (apply hdv_mk rfl; ((with_reducible_and_instances repeat (first | exact List.Mem.head _ | apply List.Mem.tail))); done) | with_reducible repeat (first | assumption | apply HdV.cons))); done) | fail) ?_); intro _ _ _)) | ((with_reducible show Exists (fun _ => Exists _)); first | ((with_reducible refine raise_go (by first | (k_dflt ((with_reducible repeat (first | exact OUpd.head | apply OUpd.tail))); done) | fail) (by first | (k_dflt ((with_reducible_and_instances repeat (first | exact List.Mem.head _ | apply List.Mem.tail))); done) | fail) ?_))) | ((with_reducible show W _ FR (exec (Stmt.Raise (some _) (some (Expr.Constant Const.none _ _)) _) _) _ _ _ _); first | ((refine S_RaiseFrom (cls := .type "IndexError") (by first | k_dflt (assumption) | fail) (by first | (k_dflt (exact PxF.P (by assumption)); done) | fail) (by first | (k_dflt (exact PxF.Y (by assumption)); done) | fail) (by first | (k_dflt (rfl); done) | fail) ?_))) | ((with_reducible show Then _ _ _ _ _ _ _); first | ((with_reducible refine then_next ?_)) | ((with_reducible refine then_ret ?_))) | ((with_reducible show W _ FR (execs _ _) _ _ _ _); first | ((with_reducible refine S_cons ?_)) | ((with_reducible refine S_nil ?_))) | ((with_reducible show W _ VR (eval (Expr.Name _ _) _) _ _ _ _); first | ((with_reducible refine W_local (by first | k_dflt (assumption) | fail) (by first | k_dflt (assumption) | fail) (by first | k_dflt (assumption) | fail) (by first | (k_dflt ((with_reducible repeat (first | exact Has.here | apply Has.there))); done) | fail) ?_)) | ((with_reducible refine W_globT (by first | k_dflt (assumption) | fail) (by first | k_dflt (assumption) | fail) (by first | k_dflt (assumption) | fail) (by first | (k_dflt ((with_reducible repeat (first | exact InN.here | apply InN.there))); done) | fail) (by first | (k_dflt ((with_reducible_and_instances repeat (first | exact List.Mem.head _ | apply List.Mem.tail))); done) | fail) ?_)) | ((with_reducible refine W_bltT (by first | k_dflt (assumption) | fail) (by first | k_dflt (assumption) | fail) (by first | k_dflt (assumption) | fail) (by first | (k_dflt ((with_reducible repeat (first | exact InN.here | apply InN.there))); done) | fail) (by first | (k_dflt ((with_reducible_and_instances repeat (first | exact List.Mem.head _ | apply List.Mem.tail))); done) | fail) ?_))) | ((with_reducible show W _ VR (eval (Expr.Constant Const.none _ _) _) _ _ _ _); first | ((with_reducible refine W_none ?_))) | ((with_reducible show W _ VR (eval (Expr.Constant (Const.int _) _ _) _) _ _ _ _); first | ((with_reducible refine W_int ?_))) | ((with_reducible show W _ VR (eval (Expr.Constant (Const.str _) _ _) _) _ _ _ _); first | ((with_reducible refine W_str lit1 ?_)) | ((with_reducible refine W_str lit10 ?_))) | ((with_reducible show W _ VR (eval (Expr.Attribute _ _ _) _) _ _ _ _); first | (refine W_Attr ?_)) | ((with_reducible show W _ VR (eval (Expr.Call _ _ _ _) _) _ _ _ _); first | (refine W_Call (by assumption) (by rfl) ?_)) | ((with_reducible show W _ VR (eval (Expr.BinOp _ _ _ _) _) _ _ _ _); first | ((with_reducible refine W_BinOp ?_))) | ((with_reducible show W _ VR (eval (Expr.Subscript _ _ _) _) _ _ _ _); first | (refine W_Sub ?_)) | ((with_reducible show W _ FR (exec (Stmt.Assign [Expr.Name _ _] _ _) _) _ _ _ _); first | (refine S_Assign ?_)) | ((with_reducible show W _ FR (exec (Stmt.Assign [Expr.Attribute _ _ _] _ _) _) _ _ _ _); first | (refine S_AssignA ?_)) | ((with_reducible show W _ FR (exec (Stmt.If _ _ _ _) _) _ _ _ _); first | ((with_reducible refine S_If ?_))) | ((with_reducible show W _ FR (exec (Stmt.Return none _) _) _ _ _ _); first | ((with_reducible refine S_Return0 ?_))) | ((with_reducible show W _ FR (exec (Stmt.AugAssign (Expr.Name _ _) _ _ _) _) _ _ _ _); first | ((with_reducible refine S_Aug (by first | k_dflt (assumption) | fail) (by first | k_dflt (assumption) | fail) (by first | k_dflt (assumption) | fail) (by first | (k_dflt ((with_reducible repeat (first | exact Has.here | apply Has.there))); done) | fail) ?_))) | ((with_reducible show W _ FR (exec (Stmt.Try _ _ _ _ _) _) _ _ _ _); first | (refine S_Try (by assumption) (by assumption) ?_)) | ((with_reducible show W _ BR (isTrue (Expr.Compare _ _ _ _) _ _) _ _ _ _); first | (refine T_Compare ?_)) | ((with_reducible show Op2 _ _ _ _ _ _ _ _); first | ((with_reducible refine add_ints ?_)) | ((with_reducible refine sub_ints ?_)) | ((with_reducible refine iadd_ints ?_)) | ((with_reducible refine eq_strs ?_)) | ((with_reducible refine iadd_strs (by first | (k_dflt ((first | assumption | omega | decide | (simp only [List.length_append, List.length_cons, List.length_nil, List.length_drop, List.length_take, List.length_map]; omega) | (simp only [List.length_append, List.length_cons, List.length_nil, List.length_drop, List.length_take, List.length_map] at *; omega))); done) | fail) ?_))) | ((with_reducible show Tru _ _ _ _ _ _); first | ((with_reducible refine tru_bool ?_))) | ((with_reducible show Cal _ _ _ _ _ _ _); first | ((with_reducible refine len_bytes' (by first | (k_dflt ((first | assumption | omega | decide | (simp only [List.length_append, List.length_cons, List.length_nil, List.length_drop, List.length_take, List.length_map]; omega) | (simp only [List.length_append, List.length_cons, List.length_nil, List.length_drop, List.length_take, List.length_map] at *; omega))); done) | fail) ?_))) | ((with_reducible show Br (decide _) _ _); first | (with_reducible refine br_dec ?_ ?_ <;> intro _)) | ((with_reducible show Args _ _ _ _ _ _); first | ((with_reducible refine args_cons' ?_)) | ((with_reducible refine args_nil' ?_))) | ((with_reducible show Kp _ _ ∧ _); first | ((with_reducible refine kp_and kp_blt ?_)) | ((with_reducible refine kp_fun (by first | k_dflt (assumption) | fail) (by first | (k_dflt ((with_reducible_and_instances repeat (first | exact List.Mem.head _ | apply List.Mem.tail))); done) | fail) ?_))) | ((with_reducible show Sto _ _ _ _ _ _ _); first | ((with_reducible refine Sto_local (by first | k_dflt (assumption) | fail) (by first | k_dflt (assumption) | fail) (by first | k_dflt (assumption) | fail) (by first | (k_dflt ((with_reducible repeat (first | exact Put.here | apply Put.there))); done) | fail) ?_))) | ((with_reducible show GetA _ _ _ _ _ _ _); first | ((with_reducible refine geta_tk (by first | k_dflt (assumption) | fail) (by first | k_dflt (assumption) | fail) (by first | (k_dflt ((with_reducible_and_instances repeat (first | exact List.Mem.head _ | apply List.Mem.tail))); done) | fail) (by first | (k_dflt ((with_reducible_and_instances repeat (first | exact List.Mem.head _ | apply List.Mem.tail))); done) | fail) (by first | (k_dflt ((with_reducible_and_instances repeat (first | exact List.Mem.head _ | apply List.Mem.tail))); done) | fail) (by first | (k_dflt ((with_reducible repeat (first | exact Ent.here | (apply Ent.there; (focus decide))))); done) | fail) (by first | (k_dflt (first | exact rfl | exact handed_ovV _ | assumption); done) | fail) ?_))) | ((with_reducible show SetA _ _ _ _ _ _ _ _); first | ((with_reducible refine seta_tk (by first | k_dflt (assumption) | fail) (by first | k_dflt (assumption) | fail) (by first | (k_dflt ((with_reducible_and_instances repeat (first | exact List.Mem.head _ | apply List.Mem.tail))); done) | fail) (by first | (k_dflt ((with_reducible repeat (first | exact OUpd.head | apply OUpd.tail))); done) | fail) (by first | (k_dflt ((with_reducible_and_instances repeat (first | exact List.Mem.head _ | apply List.Mem.tail))); done) | fail) (by first | (k_dflt ((with_reducible repeat (first | exact EPut.here | exact EPut.nil | (apply EPut.there; (focus decide))))); done) | fail) (by first | (k_dflt (exact Nat.le_of_ble_eq_true rfl); done) | fail) ?_))) | ((with_reducible show Hdl _ _ _ _ _ _ _ _); first | ((with_reducible refine hdl_bltT (by first | k_dflt (assumption) | fail) (by first | k_dflt (assumption) | fail) (by first | (k_dflt ((with_reducible_and_instances repeat (first | exact List.Mem.head _ | apply List.Mem.tail))); done) | fail) (by first | k_dflt (assumption) | fail) (by first | (k_dflt ((with_reducible repeat (first | exact InN.here | apply InN.there))); done) | fail) (by first | (k_dflt ((with_reducible_and_instances repeat (first | exact List.Mem.head _ | apply List.Mem.tail))); done) | fail) (by first | (k_dflt (first | exact GK.ex0 (by assumption) | exact GK.ex1 (by assumption) | exact GK.ex2 (by assumption) | exact GK.ex3 (by assumption)); done) | fail) ?_); intro _)) | ((with_reducible show Sub2 _ _ _ _ _ _ _ _ _); first | ((refine sub_str (by assumption) (by omega) (by omega) ?_ ?_); (focus (intro _ _)); rotate_left; (focus (intro _; first | (exfalso; exact stepA_bad (by assumption) (by assumption) (by assumption) (by assumption)) | (exfalso; exact run_outA (by assumption) (by assumption)) | intro _)); rotate_right)) | fail)
    all_goals (try (first | refine hTQ _ _ _ ?_ | refine hXV _ _ _ ?_))
    all_goals (try (first | refine fnq_ret ?_ | refine fnq_next ?_))
    all_goals first
      | (exfalso; exact zbad_1 hn (by assumption))
      | (exfalso; exact zbad_2 hn (by assumption) (by assumption))
      | (exfalso; exact zbad_3 hn (by assumption))
      | (refine' zx_intro ?fz; (case fz => (with_reducible repeat (first | exact Picks.all | (apply Picks.cons; (focus (with_reducible repeat (first | exact Pick.head | apply Pick.tail)))) | apply Picks.drop))))
  case c1 => exact rfl
  case c2 => exact rfl
  case c3 => exact rfl
theorem next_ZK {g : G} (HG : GK g) {kd : Bool} {t d : Addr} {it : V} {l : List Nat} {iz : Int} {i : Nat} {nv : V} (hl : l.length ≤ 1000) (hi : i ≤ 2000) (hiz : iz = (i : Int)) (hn : nxt l i = none) : FnZ g 65 [.ref t] 4 false 41 [98, 97, 100, 32, 101, 115, 99, 97, 112, 101, 32, 40, 101, 110, 100, 32, 111, 102, 32, 112, 97, 116, 116, 101, 114, 110, 41] l (ptV kd l) ((l.length : Int) - 1) [(t, .inst 133 d), (d, .dct (tokE it (ptV kd l) l iz nv))] [(t, .inst 133 d), (d, .dct (tokE it (ptV kd l) l iz nv))] := by
  cases kd
  · exact next_ZB HG hl hi hiz hn
  · exact next_ZS HG hl hi hiz hn
end Mine
end
section
open PySem PySem.W PyProof.Rows PySem.Spec PySem.Calls
set_option pp.maxSteps 600
namespace Mine
set_option maxHeartbeats 4000000
theorem gw_A : ∀ {g : G} (HG : GK g) {kd : Bool} {t d : Addr} {it : V} {l : List Nat} {r : List (List Nat)} {e : Bool} {nz : Int} {i p : Nat} {o : Option (List Nat)} {held : List Nat} (hl : l.length ≤ 1000) (hnz : nz ≤ 1000) (hnz0 : -1000 ≤ nz) (H0 : TkZ l r e i o p), FnC g 86 [.ref t, .int nz, .str held] 5 false (GwQ true l r e nz.toNat (gwM (inS held) nz.toNat r) (fun i o => [(t, .inst 133 d), (d, .dct (tokE it (ptV kd l) l ((i : Nat) : Int) (ovV o)))])) (GwX true 41 l (ptV kd l) r e nz.toNat (gwM (inS held) nz.toNat r) (fun i o => [(t, .inst 133 d), (d, .dct (tokE it (ptV kd l) l ((i : Nat) : Int) (ovV o)))])) ((fun i o => [(t, .inst 133 d), (d, .dct (tokE it (ptV kd l) l ((i : Nat) : Int) (ovV o)))]) i o) := by
  k_fill
  intro g HG kd t d it l r e nz i p o held hl hnz hnz0 H0
  have H := HG.tk
  have hp := HG.hp
  have hK := HG.hK
  have HP := HG.px
  refine FnC.forgetX ?_
  refine' fn_intro (pn := [Str.ofString "self", Str.ofString "n", Str.ofString "charset"]) (lo0 := [some (.ref t), some (.int nz), some (.str held), none, none, none, none]) (X := fun a _ ob => FrgX (GwX true 41 l (ptV kd l) r e nz.toNat (gwM (inS held) nz.toNat r) (fun i o => [(t, .inst 133 d), (d, .dct (tokE it (ptV kd l) l ((i : Nat) : Int) (ovV o)))])) a ob) ?ho ?hcd ?hb ?hpn ?hlo ?hloc ?hnd ?hcell leaves_any ?h ?c1 ?c2 ?c3
  case ho => rw [hK]; k_is
  case hcd => rw [hK]; k_is
  case hb => intro s' cas' X' hv'; obtain ⟨c1', c2', c3', rfl, h1', h2', h3'⟩ := VRs3 hv'; first | exact BindsTo.of_eq rfl | (rw [hK] at X'; exact binds_K X' rfl (by k_is) rfl rfl rfl)
  case hpn => decide
  case hlo => rfl
  case hloc => decide
  case hnd => decide
  case hcell => decide
  case h =>
    intro c ok hg henv hns hns' hcv hd hhq
    subst hg
    dsimp only at hns hns'
    have hh := hhq rfl
    skip
    refine fnx_any ?_
    intro TQ hTQ XV hXV
    repeat' (first | ((with_reducible show Then _ _ _ _ _ _ _); first | ((with_reducible refine then_next ?_))) | ((with_reducible show W _ FR (execs _ _) _ _ _ _); first | ((with_reducible refine S_cons ?_))) | ((with_reducible show W _ VR (eval (Expr.Name _ _) _) _ _ _ _); first | ((with_reducible refine W_local (by first | k_dflt (assumption) | fail) (by first | k_dflt (assumption) | fail) (by first | k_dflt (assumption) | fail) (by first | (k_dflt ((with_reducible repeat (first | exact Has.here | apply Has.there))); done) | fail) ?_)) | ((with_reducible refine W_bltT (by first | k_dflt (assumption) | fail) (by first | k_dflt (assumption) | fail) (by first | k_dflt (assumption) | fail) (by first | (k_dflt ((with_reducible repeat (first | exact InN.here | apply InN.there))); done) | fail) (by first | (k_dflt ((with_reducible_and_instances repeat (first | exact List.Mem.head _ | apply List.Mem.tail))); done) | fail) ?_))) | ((with_reducible show W _ VR (eval (Expr.Constant (Const.str _) _ _) _) _ _ _ _); first | ((with_reducible refine W_str lit0 ?_))) | ((with_reducible show W _ VR (eval (Expr.Call _ _ _ _) _) _ _ _ _); first | (refine W_Call (by assumption) (by rfl) ?_)) | ((with_reducible show W _ FR (exec (Stmt.Assign [Expr.Name _ _] _ _) _) _ _ _ _); first | (refine S_Assign ?_)) | ((with_reducible show W _ FR (exec (Stmt.For _ _ _ _ _) _) _ _ _ _); first | (refine S_For ?_)) | ((with_reducible show Cal _ _ _ _ _ _ _); first | ((with_reducible refine range_1 ?_); intro _)) | ((with_reducible show Args _ _ _ _ _ _); first | ((with_reducible refine args_cons' ?_)) | ((with_reducible refine args_nil' ?_))) | ((with_reducible show Kp _ _ ∧ _); first | ((with_reducible refine kp_and kp_type ?_))) | ((with_reducible show Sto _ _ _ _ _ _ _); first | ((with_reducible refine Sto_local (by first | k_dflt (assumption) | fail) (by first | k_dflt (assumption) | fail) (by first | k_dflt (assumption) | fail) (by first | (k_dflt ((with_reducible repeat (first | exact Put.here | apply Put.there))); done) | fail) ?_))) | fail)
    refine' For_range (n := nz.toNat) ?rh ?rE ?rp ?rs ?rn ?_
    case rh => assumption
    case rE => exact passes_all ok hcv _
    case rp => (with_reducible repeat (first | exact Picks.nil | (apply Picks.cons; (focus (with_reducible repeat (first | exact Pick.head | apply Pick.tail))))))
    case rs => exact small_one (by omega) (by omega) (by omega) (by omega)
    case rn => exact rsize0 _
    refine Wkn.of (forW_inv (fun k lo ob => ∃ pv cv ik oo pk, (TkZ l (r.drop k) e ik oo pk ∧ k ≤ nz.toNat ∧ k ≤ r.length ∧ ∀ s ∈ r.take k, (inS held) s = true) ∧ lo = [some (.ref t), some (.int nz), some (.str held), some (.str (r.take k).flatten), pv, cv, none] ∧ ob = [(t, .inst 133 d), (d, .dct (tokE it (ptV kd l) l ((ik : Nat) : Int) (ovV oo)))]) (fun k v lo ob hv hI => ?_) (fun lo ob hI => ?_) ⟨_, _, i, o, p, ⟨H0, Nat.zero_le _, Nat.zero_le _, (fun _ h => nomatch h)⟩, rfl, rfl⟩)
    · obtain ⟨pv, cv, ik, oo, pk, ⟨Hk, hk1, hk2, hk3⟩, rfl, rfl⟩ := hI
      obtain ⟨hkn, rfl⟩ : k < nz.toNat ∧ V.int (0 + (k : Int)) = v := by
        rw [List.getElem?_map] at hv
        by_cases hk : k < nz.toNat
        · rw [List.getElem?_range hk] at hv
          exact ⟨hk, Option.some.inj hv⟩
        · rw [List.getElem?_eq_none (by simpa using hk)] at hv
          cases hv
      clear hv
      rw [Int.zero_add]
      have hik := Nat.le_trans (tkz_le Hk) (Nat.le_trans hl (by decide : 1000 ≤ 2000))
      have hfl := Nat.le_trans (tkz_flat H0 k) hl
      cases hdk : r.drop k with
      | nil =>
        have hrk : r.length ≤ k := List.drop_eq_nil_iff.mp hdk
        have hek : k = r.length := Nat.le_antisymm hk2 hrk
        have hm : gwM (inS held) nz.toNat r = k := gwM_stop hk1 hk2 hk3 (.inr fun s' r' e => by rw [hdk] at e; cases e)
        have Hk' := Hk
        rw [hdk] at Hk'
        obtain ⟨he, rfl, _, _⟩ := tkz_nil Hk'
        clear Hk'
        rw [show ovV none = V.none from rfl]
        repeat' (first | ((with_reducible show Op2 _ _ _ _ _ _ _ _); first | ((with_reducible refine notin_none_str (by assumption) ?_); intro _)) | ((with_reducible show Then _ _ _ _ _ _ _); first | ((with_reducible refine then_next ?_))) | ((with_reducible show W _ FR (execs _ _) _ _ _ _); first | ((with_reducible refine S_cons ?_))) | ((with_reducible show W _ VR (eval (Expr.Name _ _) _) _ _ _ _); first | ((with_reducible refine W_local (by first | k_dflt (assumption) | fail) (by first | k_dflt (assumption) | fail) (by first | k_dflt (assumption) | fail) (by first | (k_dflt ((with_reducible repeat (first | exact Has.here | apply Has.there))); done) | fail) ?_))) | ((with_reducible show W _ VR (eval (Expr.Attribute _ _ _) _) _ _ _ _); first | (refine W_Attr ?_)) | ((with_reducible show W _ FR (exec (Stmt.Assign [Expr.Name _ _] _ _) _) _ _ _ _); first | (refine S_Assign ?_)) | ((with_reducible show W _ FR (exec (Stmt.If _ _ _ _) _) _ _ _ _); first | ((with_reducible refine S_If ?_))) | ((with_reducible show W _ BR (isTrue (Expr.Compare _ _ _ _) _ _) _ _ _ _); first | (refine T_Compare ?_)) | ((with_reducible show Asg _ _ _ _ _ _ _); first | ((with_reducible refine asg_name ?_))) | ((with_reducible show Sto _ _ _ _ _ _ _); first | ((with_reducible refine Sto_local (by first | k_dflt (assumption) | fail) (by first | k_dflt (assumption) | fail) (by first | k_dflt (assumption) | fail) (by first | (k_dflt ((with_reducible repeat (first | exact Put.here | apply Put.there))); done) | fail) ?_))) | ((with_reducible show GetA _ _ _ _ _ _ _); first | ((with_reducible refine geta_tk (by first | k_dflt (assumption) | fail) (by first | k_dflt (assumption) | fail) (by first | (k_dflt ((with_reducible_and_instances repeat (first | exact List.Mem.head _ | apply List.Mem.tail))); done) | fail) (by first | (k_dflt ((with_reducible_and_instances repeat (first | exact List.Mem.head _ | apply List.Mem.tail))); done) | fail) (by first | (k_dflt ((with_reducible_and_instances repeat (first | exact List.Mem.head _ | apply List.Mem.tail))); done) | fail) (by first | (k_dflt ((with_reducible repeat (first | exact Ent.here | (apply Ent.there; (focus decide))))); done) | fail) (by first | (k_dflt (first | exact rfl | exact handed_ovV _ | assumption); done) | fail) ?_))) | fail)
        all_goals first
          | (rw [show V.none = ovV none from rfl]; refine hXV _ _ _ ?_; refine' gwx_t (i2 := ik) (o2 := none) ?fp (by rw [hm]; exact Hk) he (by rw [hm]; exact hek) (by rw [hm]; exact hkn) rfl; (case fp => (with_reducible repeat (first | exact Picks.all | (apply Picks.cons; (focus (with_reducible repeat (first | exact Pick.head | apply Pick.tail)))) | apply Picks.drop))))
      | cons s r' =>
        have Hk' := Hk
        rw [hdk] at Hk'
        obtain ⟨rfl, hip, hil, hsg, hnx⟩ := tkz_cons Hk'
        rw [show ovV (some s) = V.str s from rfl]
        have hs2 := hsg.pos.2
        have hs0 : s ≠ [] := by intro e; rw [e] at hsg; exact absurd hsg.pos.1 (by decide)
        have hkr : k < r.length := (take_step hdk).1
        cases hin : (inS held) s with
        | false =>
          have hm : gwM (inS held) nz.toNat r = k := gwM_stop hk1 hk2 hk3 (.inr fun s' r'' e => by rw [hdk] at e; injection e with e _; rw [← e]; exact hin)
          clear hnx
          repeat' (first | ((with_reducible show Op2 _ _ _ _ _ _ _ _); first | ((with_reducible refine notin_subE (by first | k_dflt (assumption) | fail) (by first | k_dflt (assumption) | fail) ?_))) | ((with_reducible show Then _ _ _ _ _ _ _); first | ((with_reducible refine then_next ?_)) | ((with_reducible refine then_ret ?_)) | ((with_reducible refine then_brk ?_))) | ((with_reducible show W _ FR (execs _ _) _ _ _ _); first | ((with_reducible refine S_cons ?_))) | ((with_reducible show W _ VR (eval (Expr.Name _ _) _) _ _ _ _); first | ((with_reducible refine W_local (by first | k_dflt (assumption) | fail) (by first | k_dflt (assumption) | fail) (by first | k_dflt (assumption) | fail) (by first | (k_dflt ((with_reducible repeat (first | exact Has.here | apply Has.there))); done) | fail) ?_))) | ((with_reducible show W _ VR (eval (Expr.Attribute _ _ _) _) _ _ _ _); first | (refine W_Attr ?_)) | ((with_reducible show W _ FR (exec (Stmt.Assign [Expr.Name _ _] _ _) _) _ _ _ _); first | (refine S_Assign ?_)) | ((with_reducible show W _ FR (exec (Stmt.If _ _ _ _) _) _ _ _ _); first | ((with_reducible refine S_If ?_))) | ((with_reducible show W _ FR (exec (Stmt.Return (some _) _) _) _ _ _ _); first | ((with_reducible refine S_Return ?_))) | ((with_reducible show W _ FR (exec (Stmt.Break _) _) _ _ _ _); first | ((with_reducible refine S_Break ?_))) | ((with_reducible show W _ BR (isTrue (Expr.Compare _ _ _ _) _ _) _ _ _ _); first | (refine T_Compare ?_)) | ((with_reducible show Tru _ _ _ _ _ _); first | ((with_reducible refine tru_bool ?_))) | ((with_reducible show Br false _ _); first | ((with_reducible refine br_f ?_))) | ((with_reducible show Br (! _) _ _); first | ((with_reducible refine br_not ?_))) | ((with_reducible show TurnQ _ _ _ _ _); first | ((with_reducible refine turn_brk ?_))) | ((with_reducible show Asg _ _ _ _ _ _ _); first | ((with_reducible refine asg_name ?_))) | ((with_reducible show Sto _ _ _ _ _ _ _); first | ((with_reducible refine Sto_local (by first | k_dflt (assumption) | fail) (by first | k_dflt (assumption) | fail) (by first | k_dflt (assumption) | fail) (by first | (k_dflt ((with_reducible repeat (first | exact Put.here | apply Put.there))); done) | fail) ?_))) | ((with_reducible show GetA _ _ _ _ _ _ _); first | ((with_reducible refine geta_tk (by first | k_dflt (assumption) | fail) (by first | k_dflt (assumption) | fail) (by first | (k_dflt ((with_reducible_and_instances repeat (first | exact List.Mem.head _ | apply List.Mem.tail))); done) | fail) (by first | (k_dflt ((with_reducible_and_instances repeat (first | exact List.Mem.head _ | apply List.Mem.tail))); done) | fail) (by first | (k_dflt ((with_reducible_and_instances repeat (first | exact List.Mem.head _ | apply List.Mem.tail))); done) | fail) (by first | (k_dflt ((with_reducible repeat (first | exact Ent.here | (apply Ent.there; (focus decide))))); done) | fail) (by first | (k_dflt (first | exact rfl | exact handed_ovV _ | assumption); done) | fail) ?_))) | fail)
          all_goals first
            | (rw [show V.str s = ovV (some s) from rfl]; refine hTQ _ _ _ (fnq_ret ?_); refine' gwq_intro (i2 := ik) (o2 := some s) ?fp (by rw [hm]; exact Hk) (.inl (by rw [hm]; exact hkr)) (by rw [hm]); (case fp => (with_reducible repeat (first | exact Picks.nil | (apply Picks.cons; (focus (with_reducible repeat (first | exact Pick.head | apply Pick.tail))))))))
        | true =>
          obtain ⟨⟨g1, g2, g3⟩, g4⟩ := tkz_step hdk hk3 hin
          have hz9 : (r.take k).flatten.length + s.length ≤ 1000000 := by omega
          rcases hnx with ⟨he, hr', hnz⟩ | ⟨i', o', hn', Hn⟩
          · have hm : gwM (inS held) nz.toNat r = k + 1 := by
              have hrl : r.length = k + 1 := by
                have := congrArg List.length hdk
                rw [hr', List.length_drop] at this
                simp at this
                omega
              exact Nat.le_antisymm (hrl ▸ gwM_le.2) (gwM_ge hkn g1 g4)
            have hrl : k + 1 = r.length := by
              have := congrArg List.length hdk
              rw [hr', List.length_drop] at this
              simp at this
              omega
            repeat' (first | ((with_reducible show Op2 _ _ _ _ _ _ _ _); first | ((with_reducible refine notin_subE (by first | k_dflt (assumption) | fail) (by first | k_dflt (assumption) | fail) ?_))) | ((with_reducible show Cal _ _ _ _ _ _ _); first | ((refine cal_Z (by first | k_dflt (assumption) | fail) (by first | (k_dflt ((with_reducible repeat (first | exact Picks.nil | (apply Picks.cons; (focus (with_reducible repeat (first | exact Pick.head | apply Pick.tail))))))); done) | fail) (next_ZK (by assumption) (by first | k_dflt (assumption) | fail) (by first | (k_dflt (first | omega | exact Nat.zero_le _); done) | fail) (by first | (k_dflt (first | assumption | exact rfl | exact (rfl : (0 : Int) = ((0 : Nat) : Int))); done) | fail) (by first | k_dflt (assumption) | fail)) (by first | (k_dflt ((with_reducible repeat (first | exact App.nil | apply App.cons))); done) | fail) (by first | (k_dflt (((try dsimp only); omega)); done) | fail) (by first | (k_dflt (first | exact .inl rfl | exact .inr (by assumption)); done) | fail) ?_); intro _ _ _)) | ((with_reducible show Then _ _ _ _ _ _ _); first | ((with_reducible refine then_next ?_))) | ((with_reducible show W _ FR (execs _ _) _ _ _ _); first | ((with_reducible refine S_cons ?_)) | ((with_reducible refine S_nil ?_))) | ((with_reducible show W _ VR (eval (Expr.Name _ _) _) _ _ _ _); first | ((with_reducible refine W_local (by first | k_dflt (assumption) | fail) (by first | k_dflt (assumption) | fail) (by first | k_dflt (assumption) | fail) (by first | (k_dflt ((with_reducible repeat (first | exact Has.here | apply Has.there))); done) | fail) ?_))) | ((with_reducible show W _ VR (eval (Expr.Attribute _ _ _) _) _ _ _ _); first | (refine W_Attr ?_)) | ((with_reducible show W _ VR (eval (Expr.Call (Expr.Attribute _ _ _) _ _ _) _) _ _ _ _); first | (refine W_Method (by assumption) (by rfl) ?_)) | ((with_reducible show W _ FR (exec (Stmt.Assign [Expr.Name _ _] _ _) _) _ _ _ _); first | (refine S_Assign ?_)) | ((with_reducible show W _ FR (exec (Stmt.If _ _ _ _) _) _ _ _ _); first | ((with_reducible refine S_If ?_))) | ((with_reducible show W _ FR (exec (Stmt.Expr _ _) _) _ _ _ _); first | (refine S_ExprV ?_ (inter (by assumption)))) | ((with_reducible show W _ FR (exec (Stmt.AugAssign (Expr.Name _ _) _ _ _) _) _ _ _ _); first | ((with_reducible refine S_Aug (by first | k_dflt (assumption) | fail) (by first | k_dflt (assumption) | fail) (by first | k_dflt (assumption) | fail) (by first | (k_dflt ((with_reducible repeat (first | exact Has.here | apply Has.there))); done) | fail) ?_))) | ((with_reducible show W _ BR (isTrue (Expr.Compare _ _ _ _) _ _) _ _ _ _); first | (refine T_Compare ?_)) | ((with_reducible show Op2 _ _ _ _ _ _ _ _); first | ((with_reducible refine iadd_strs (by first | (k_dflt ((first | assumption | omega | decide | (simp only [List.length_append, List.length_cons, List.length_nil, List.length_drop, List.length_take, List.length_map]; omega) | (simp only [List.length_append, List.length_cons, List.length_nil, List.length_drop, List.length_take, List.length_map] at *; omega))); done) | fail) ?_))) | ((with_reducible show Tru _ _ _ _ _ _); first | ((with_reducible refine tru_bool ?_))) | ((with_reducible show Br true _ _); first | ((with_reducible refine br_t ?_))) | ((with_reducible show Br (! _) _ _); first | ((with_reducible refine br_not ?_))) | ((with_reducible show Args _ _ _ _ _ _); first | ((with_reducible refine args_nil' ?_))) | ((with_reducible show Kp _ _ ∧ _); first | ((with_reducible refine kp_met (by first | k_dflt (assumption) | fail) (by first | (k_dflt ((with_reducible_and_instances repeat (first | exact List.Mem.head _ | apply List.Mem.tail))); done) | fail) ?_))) | ((with_reducible show Asg _ _ _ _ _ _ _); first | ((with_reducible refine asg_name ?_))) | ((with_reducible show Sto _ _ _ _ _ _ _); first | ((with_reducible refine Sto_local (by first | k_dflt (assumption) | fail) (by first | k_dflt (assumption) | fail) (by first | k_dflt (assumption) | fail) (by first | (k_dflt ((with_reducible repeat (first | exact Put.here | apply Put.there))); done) | fail) ?_))) | ((with_reducible show GetM _ _ _ _ _ _ _); first | ((with_reducible refine getm_tk (by first | k_dflt (assumption) | fail) (by first | k_dflt (assumption) | fail) (by first | (k_dflt ((with_reducible_and_instances repeat (first | exact List.Mem.head _ | apply List.Mem.tail))); done) | fail) (by first | (k_dflt ((with_reducible_and_instances repeat (first | exact List.Mem.head _ | apply List.Mem.tail))); done) | fail) (by first | (k_dflt ((with_reducible_and_instances repeat (first | exact List.Mem.head _ | apply List.Mem.tail))); done) | fail) (by first | (k_dflt ((repeat (first | with_reducible exact NoEnt.nil | (with_reducible apply NoEnt.cons; (focus decide))))); done) | fail) ?_))) | ((with_reducible show GetA _ _ _ _ _ _ _); first | ((with_reducible refine geta_tk (by first | k_dflt (assumption) | fail) (by first | k_dflt (assumption) | fail) (by first | (k_dflt ((with_reducible_and_instances repeat (first | exact List.Mem.head _ | apply List.Mem.tail))); done) | fail) (by first | (k_dflt ((with_reducible_and_instances repeat (first | exact List.Mem.head _ | apply List.Mem.tail))); done) | fail) (by first | (k_dflt ((with_reducible_and_instances repeat (first | exact List.Mem.head _ | apply List.Mem.tail))); done) | fail) (by first | (k_dflt ((with_reducible repeat (first | exact Ent.here | (apply Ent.there; (focus decide))))); done) | fail) (by first | (k_dflt (first | exact rfl | exact handed_ovV _ | assumption); done) | fail) ?_))) | fail)
            all_goals first
              | (rw [show V.str s = ovV (some s) from rfl]; refine hXV _ _ _ ?_; refine' gwx_z (i2 := ik) (o2 := some s) ?fp (by rw [hm]; exact Hk) he (by rw [hm]; exact hrl); (case fp => (with_reducible repeat (first | exact Picks.all | (apply Picks.cons; (focus (with_reducible repeat (first | exact Pick.head | apply Pick.tail)))) | apply Picks.drop))))
          · rw [← g3] at Hn
            repeat' (first | ((with_reducible show Op2 _ _ _ _ _ _ _ _); first | ((with_reducible refine notin_subE (by first | k_dflt (assumption) | fail) (by first | k_dflt (assumption) | fail) ?_))) | ((with_reducible show Cal _ _ _ _ _ _ _); first | ((refine cal_E (by first | k_dflt (assumption) | fail) (by first | (k_dflt ((with_reducible repeat (first | exact Picks.nil | (apply Picks.cons; (focus (with_reducible repeat (first | exact Pick.head | apply Pick.tail))))))); done) | fail) (next_F (by assumption) (by first | k_dflt (assumption) | fail) (by first | (k_dflt (first | omega | exact Nat.zero_le _); done) | fail) (by first | (k_dflt (first | assumption | exact rfl | exact (rfl : (0 : Int) = ((0 : Nat) : Int))); done) | fail) (by first | k_dflt (assumption) | fail)) (by first | (k_dflt ((with_reducible repeat (first | exact App.nil | apply App.cons))); done) | fail) (by first | (k_dflt (((try dsimp only); omega)); done) | fail) (by first | (k_dflt (first | exact .inl rfl | exact .inr (by assumption)); done) | fail) ?_))) | ((with_reducible show Then _ _ _ _ _ _ _); first | ((with_reducible refine then_next ?_))) | ((with_reducible show W _ FR (execs _ _) _ _ _ _); first | ((with_reducible refine S_cons ?_)) | ((with_reducible refine S_nil ?_))) | ((with_reducible show W _ VR (eval (Expr.Name _ _) _) _ _ _ _); first | ((with_reducible refine W_local (by first | k_dflt (assumption) | fail) (by first | k_dflt (assumption) | fail) (by first | k_dflt (assumption) | fail) (by first | (k_dflt ((with_reducible repeat (first | exact Has.here | apply Has.there))); done) | fail) ?_))) | ((with_reducible show W _ VR (eval (Expr.Attribute _ _ _) _) _ _ _ _); first | (refine W_Attr ?_)) | ((with_reducible show W _ VR (eval (Expr.Call (Expr.Attribute _ _ _) _ _ _) _) _ _ _ _); first | (refine W_Method (by assumption) (by rfl) ?_)) | ((with_reducible show W _ FR (exec (Stmt.Assign [Expr.Name _ _] _ _) _) _ _ _ _); first | (refine S_Assign ?_)) | ((with_reducible show W _ FR (exec (Stmt.If _ _ _ _) _) _ _ _ _); first | ((with_reducible refine S_If ?_))) | ((with_reducible show W _ FR (exec (Stmt.Expr _ _) _) _ _ _ _); first | (refine S_ExprV ?_ (inter (by assumption)))) | ((with_reducible show W _ FR (exec (Stmt.AugAssign (Expr.Name _ _) _ _ _) _) _ _ _ _); first | ((with_reducible refine S_Aug (by first | k_dflt (assumption) | fail) (by first | k_dflt (assumption) | fail) (by first | k_dflt (assumption) | fail) (by first | (k_dflt ((with_reducible repeat (first | exact Has.here | apply Has.there))); done) | fail) ?_))) | ((with_reducible show W _ BR (isTrue (Expr.Compare _ _ _ _) _ _) _ _ _ _); first | (refine T_Compare ?_)) | ((with_reducible show Op2 _ _ _ _ _ _ _ _); first | ((with_reducible refine iadd_strs (by first | (k_dflt ((first | assumption | omega | decide | (simp only [List.length_append, List.length_cons, List.length_nil, List.length_drop, List.length_take, List.length_map]; omega) | (simp only [List.length_append, List.length_cons, List.length_nil, List.length_drop, List.length_take, List.length_map] at *; omega))); done) | fail) ?_))) | ((with_reducible show Tru _ _ _ _ _ _); first | ((with_reducible refine tru_bool ?_))) | ((with_reducible show Br true _ _); first | ((with_reducible refine br_t ?_))) | ((with_reducible show Br (! _) _ _); first | ((with_reducible refine br_not ?_))) | ((with_reducible show Args _ _ _ _ _ _); first | ((with_reducible refine args_nil' ?_))) | ((with_reducible show TurnQ _ _ _ _ _); first | ((with_reducible refine turn_next ?_))) | ((with_reducible show Kp _ _ ∧ _); first | ((with_reducible refine kp_met (by first | k_dflt (assumption) | fail) (by first | (k_dflt ((with_reducible_and_instances repeat (first | exact List.Mem.head _ | apply List.Mem.tail))); done) | fail) ?_))) | ((with_reducible show plainV _ = true ∧ _); first | ((with_reducible refine plain_and rfl ?_))) | ((with_reducible show Asg _ _ _ _ _ _ _); first | ((with_reducible refine asg_name ?_))) | ((with_reducible show Sto _ _ _ _ _ _ _); first | ((with_reducible refine Sto_local (by first | k_dflt (assumption) | fail) (by first | k_dflt (assumption) | fail) (by first | k_dflt (assumption) | fail) (by first | (k_dflt ((with_reducible repeat (first | exact Put.here | apply Put.there))); done) | fail) ?_))) | ((with_reducible show GetM _ _ _ _ _ _ _); first | ((with_reducible refine getm_tk (by first | k_dflt (assumption) | fail) (by first | k_dflt (assumption) | fail) (by first | (k_dflt ((with_reducible_and_instances repeat (first | exact List.Mem.head _ | apply List.Mem.tail))); done) | fail) (by first | (k_dflt ((with_reducible_and_instances repeat (first | exact List.Mem.head _ | apply List.Mem.tail))); done) | fail) (by first | (k_dflt ((with_reducible_and_instances repeat (first | exact List.Mem.head _ | apply List.Mem.tail))); done) | fail) (by first | (k_dflt ((repeat (first | with_reducible exact NoEnt.nil | (with_reducible apply NoEnt.cons; (focus decide))))); done) | fail) ?_))) | ((with_reducible show GetA _ _ _ _ _ _ _); first | ((with_reducible refine geta_tk (by first | k_dflt (assumption) | fail) (by first | k_dflt (assumption) | fail) (by first | (k_dflt ((with_reducible_and_instances repeat (first | exact List.Mem.head _ | apply List.Mem.tail))); done) | fail) (by first | (k_dflt ((with_reducible_and_instances repeat (first | exact List.Mem.head _ | apply List.Mem.tail))); done) | fail) (by first | (k_dflt ((with_reducible_and_instances repeat (first | exact List.Mem.head _ | apply List.Mem.tail))); done) | fail) (by first | (k_dflt ((with_reducible repeat (first | exact Ent.here | (apply Ent.there; (focus decide))))); done) | fail) (by first | (k_dflt (first | exact rfl | exact handed_ovV _ | assumption); done) | fail) ?_))) | fail)
            all_goals first
              | exact Wkn.of ⟨_, _, i', o', _, ⟨Hn, hkn, g1, g4⟩, by rw [g2], rfl⟩
    · obtain ⟨pv, cv, ik, oo, pk, ⟨Hk, hk1, hk2, hk3⟩, rfl, rfl⟩ := hI
      rw [List.length_map, List.length_range] at Hk hk1 hk2 hk3 ⊢
      have hm : gwM (inS held) nz.toNat r = nz.toNat := gwM_stop hk1 hk2 hk3 (.inl rfl)
      have hb : gwM (inS held) nz.toNat r < r.length ∨ e = false ∧ (true = true → nz.toNat ≤ gwM (inS held) nz.toNat r) := by
        rw [hm]
        rcases Nat.lt_or_eq_of_le hk2 with h | h
        · exact .inl h
        · refine .inr ⟨?_, fun _ => Nat.le_refl _⟩
          cases e with
          | false => rfl
          | true => exact absurd (List.drop_eq_nil_iff.mpr (Nat.le_of_eq h.symm)) (Hk.ne rfl)
      repeat' (first | ((with_reducible show Then _ _ _ _ _ _ _); first | ((with_reducible refine then_next ?_)) | ((with_reducible refine then_ret ?_))) | ((with_reducible show W _ FR (execs _ _) _ _ _ _); first | ((with_reducible refine S_cons ?_))) | ((with_reducible show W _ VR (eval (Expr.Name _ _) _) _ _ _ _); first | ((with_reducible refine W_local (by first | k_dflt (assumption) | fail) (by first | k_dflt (assumption) | fail) (by first | k_dflt (assumption) | fail) (by first | (k_dflt ((with_reducible repeat (first | exact Has.here | apply Has.there))); done) | fail) ?_))) | ((with_reducible show W _ FR (exec (Stmt.Return (some _) _) _) _ _ _ _); first | ((with_reducible refine S_Return ?_))) | fail)
      all_goals first
        | (refine hTQ _ _ _ (fnq_ret ?_); refine' gwq_intro (i2 := ik) (o2 := oo) ?fp (by rw [hm]; exact Hk) hb (by rw [hm]); (case fp => (with_reducible repeat (first | exact Picks.nil | (apply Picks.cons; (focus (with_reducible repeat (first | exact Pick.head | apply Pick.tail))))))))
    all_goals (try (first | refine hTQ _ _ _ ?_ | refine hXV _ _ _ ?_))
    all_goals (try (first | refine fnq_ret ?_ | refine fnq_next ?_))
    
  case c1 => exact rfl
  case c2 => exact rfl
  case c3 => exact rfl
theorem told_F : ∀ {g : G} (HG : GK g) {x dd T : Addr} {m l w : List Nat} {st : V} {p : Int} (hst : handedV st = true), FnN g 163 [.ref x] 2 true (fun D => (D, .list [.str m, st, .int p, .int (lnN l p), .int (coN l p), .str w]) :: [(x, .exc (.ref 41) (some dd) (some (.ref T))), (dd, .dct (peD m l p st)), (T, .tup [.str w])]) ([(x, .exc (.ref 41) (some dd) (some (.ref T))), (dd, .dct (peD m l p st)), (T, .tup [.str w])]) := by
  k_fill
  intro g HG x dd T m l w st p hst
  have H := HG.tk
  have hp := HG.hp
  have hK := HG.hK
  have HP := HG.px
  refine FnC.forget ?_
  refine' fn_intro (pn := [Str.ofString "e"]) (lo0 := [some (.ref x), none]) (X := fun _ _ _ => False) ?ho ?hcd ?hb ?hpn ?hlo ?hloc ?hnd ?hcell leaves_never ?h ?c1 ?c2 ?c3
  case ho => rw [hK]; k_is
  case hcd => rw [hK]; k_is
  case hb => intro s' cas' X' hv'; obtain ⟨c1', rfl, h1'⟩ := VRs1 hv'; first | exact BindsTo.of_eq rfl | (rw [hK] at X'; exact binds_K X' rfl (by k_is) rfl rfl rfl)
  case hpn => decide
  case hlo => rfl
  case hloc => decide
  case hnd => decide
  case hcell => decide
  case h =>
    intro c ok hg henv hns hns' hcv hd hhq
    subst hg
    dsimp only at hns hns'
    skip
    skip
    repeat' (first | ((with_reducible show Cal _ _ _ _ _ _ _); first | ((with_reducible refine str_exc (by first | k_dflt (assumption) | fail) (by first | (k_dflt (exact PxF.P (by assumption)); done) | fail) (by first | (k_dflt (exact PxF.st (by assumption)); done) | fail) (by first | (k_dflt ((with_reducible_and_instances repeat (first | exact List.Mem.head _ | apply List.Mem.tail))); done) | fail) (by first | (k_dflt ((with_reducible_and_instances repeat (first | exact List.Mem.head _ | apply List.Mem.tail))); done) | fail) ?_))) | ((with_reducible show GetA _ _ _ _ _ _ _); first | ((with_reducible refine geta_x (by first | k_dflt (assumption) | fail) (by first | (k_dflt (exact PxF.P (by assumption)); done) | fail) (by first | (k_dflt (first | (apply Or.inl; apply Exists.intro; ((with_reducible_and_instances repeat (first | exact List.Mem.head _ | apply List.Mem.tail))); done) | (apply Or.inr; apply Exists.intro; ((with_reducible_and_instances repeat (first | exact List.Mem.head _ | apply List.Mem.tail)); done) | fail)); done) | fail) (by first | (k_dflt ((with_reducible_and_instances repeat (first | exact List.Mem.head _ | apply List.Mem.tail))); done) | fail) (by first | (k_dflt ((with_reducible_and_instances repeat (first | exact List.Mem.head _ | apply List.Mem.tail))); done) | fail) (by first | (k_dflt ((with_reducible repeat (first | exact Ent.here | (apply Ent.there; (focus decide))))); done) | fail) (by first | (k_dflt (first | exact rfl | assumption); done) | fail) ?_))) | ((with_reducible show Then _ _ _ _ _ _ _); first | ((with_reducible refine then_ret ?_))) | ((with_reducible show W _ FR (execs _ _) _ _ _ _); first | ((with_reducible refine S_cons ?_))) | ((with_reducible show W _ VR (eval (Expr.Name _ _) _) _ _ _ _); first | ((with_reducible refine W_local (by first | k_dflt (assumption) | fail) (by first | k_dflt (assumption) | fail) (by first | k_dflt (assumption) | fail) (by first | (k_dflt ((with_reducible repeat (first | exact Has.here | apply Has.there))); done) | fail) ?_)) | ((with_reducible refine W_bltT (by first | k_dflt (assumption) | fail) (by first | k_dflt (assumption) | fail) (by first | k_dflt (assumption) | fail) (by first | (k_dflt ((with_reducible repeat (first | exact InN.here | apply InN.there))); done) | fail) (by first | (k_dflt ((with_reducible_and_instances repeat (first | exact List.Mem.head _ | apply List.Mem.tail))); done) | fail) ?_))) | ((with_reducible show W _ VR (eval (Expr.Attribute _ _ _) _) _ _ _ _); first | (refine W_Attr ?_)) | ((with_reducible show W _ VR (eval (Expr.Call _ _ _ _) _) _ _ _ _); first | (refine W_Call (by assumption) (by rfl) ?_)) | ((with_reducible show W _ VR (eval (Expr.List _ _) _) _ _ _ _); first | (refine W_List (by rfl) ?_)) | ((with_reducible show W _ FR (exec (Stmt.Return (some _) _) _) _ _ _ _); first | ((with_reducible refine S_Return ?_))) | ((with_reducible show Args _ _ _ _ _ _); first | ((with_reducible refine args_cons' ?_)) | ((with_reducible refine args_nil' ?_))) | ((with_reducible show FnQ _ _ _ _); first | ((with_reducible refine fnq_ret ?_))) | ((with_reducible show Kp _ _ ∧ _); first | ((with_reducible refine kp_and kp_type ?_))) | ((with_reducible show _ ≤ _ ∧ _); first | ((with_reducible refine disp (by first | (k_dflt ((first | assumption | omega | decide | (simp only [List.length_append, List.length_cons, List.length_nil, List.length_drop, List.length_take, List.length_map]; omega) | (simp only [List.length_append, List.length_cons, List.length_nil, List.length_drop, List.length_take, List.length_map] at *; omega))); done) | fail) ?_); intro _)) | fail)
    all_goals first | ((refine' frg_intro (ob2 := (_, .list _) :: [(x, .exc (.ref 41) (some dd) (some (.ref T))), (dd, .dct (peD m l p st)), (T, .tup [.str w])]) ?fp ⟨_, ?fe1, ?fe2⟩; (case fp => (with_reducible repeat (first | exact Picks.nil | (apply Picks.cons; (focus (with_reducible repeat (first | exact Pick.head | apply Pick.tail))))))); (case fe1 => rfl); (case fe2 => rfl)))
  case c1 => exact rfl
  case c2 => exact rfl
  case c3 => exact rfl
theorem words_S : ∀ {g : G} (HG : GK g) {l m : List Nat} {p : Int} (hl : l.length ≤ 1000) (hm : m.length ≤ 1000) (hpp : p.natAbs < 10 ^ 9), FnN g 156 [.str l, .str m, .int p] 1 false (fun D => [(D, .list [.str m, .str l, .int p, .int (lnN l p), .int (coN l p), .str (wordsN m l p)])]) ([]) := by
  k_fill
  intro g HG l m p hl hm hpp
  have H := HG.tk
  have hp := HG.hp
  have hK := HG.hK
  skip
  refine FnC.forget ?_
  refine' fn_intro (pn := [Str.ofString "pattern", Str.ofString "msg", Str.ofString "pos"]) (lo0 := [some (.str l), some (.str m), some (.int p), none, none, none, none, none, none, none, none, none]) (X := fun _ _ _ => False) ?ho ?hcd ?hb ?hpn ?hlo ?hloc ?hnd ?hcell leaves_never ?h ?c1 ?c2 ?c3
  case ho => rw [hK]; k_is
  case hcd => rw [hK]; k_is
  case hb => intro s' cas' X' hv'; obtain ⟨c1', c2', c3', rfl, h1', h2', h3'⟩ := VRs3 hv'; first | exact BindsTo.of_eq rfl | (rw [hK] at X'; exact binds_K X' rfl (by k_is) rfl rfl rfl)
  case hpn => decide
  case hlo => rfl
  case hloc => decide
  case hnd => decide
  case hcell => decide
  case h =>
    intro c ok hg henv hns hns' hcv hd hhq
    subst hg
    dsimp only at hns hns'
    have hh := hhq rfl
    skip
    repeat' (first | ((with_reducible show GetM _ _ _ _ _ _ _); first | (with_reducible refine getm_str F.slot_str_split F.type_str_split ?_)) | ((with_reducible show Cal _ _ _ _ _ _ _); first | ((with_reducible refine str_int' (by first | (k_dflt ((first | assumption | omega | decide | (simp only [List.length_append, List.length_cons, List.length_nil, List.length_drop, List.length_take, List.length_map]; omega) | (simp only [List.length_append, List.length_cons, List.length_nil, List.length_drop, List.length_take, List.length_map] at *; omega))); done) | fail) ?_); intro _)) | ((with_reducible show Cut _ _ _ _ _ _ _ _ _ _); first | ((refine cut_str_nz (by first | (k_dflt ((first | assumption | omega | decide | (simp only [List.length_append, List.length_cons, List.length_nil, List.length_drop, List.length_take, List.length_map]; omega) | (simp only [List.length_append, List.length_cons, List.length_nil, List.length_drop, List.length_take, List.length_map] at *; omega))); done) | fail) ?_))) | ((with_reducible show Sub2 _ _ _ _ _ _ _ _ _); first | ((refine sub_last (by first | (k_dflt ((with_reducible_and_instances repeat (first | exact List.Mem.head _ | apply List.Mem.tail))); done) | fail) ?_))) | ((with_reducible show Cal _ _ _ _ _ _ _); first | ((with_reducible refine split_nl' (by first | (k_dflt ((first | assumption | omega | decide | (simp only [List.length_append, List.length_cons, List.length_nil, List.length_drop, List.length_take, List.length_map]; omega) | (simp only [List.length_append, List.length_cons, List.length_nil, List.length_drop, List.length_take, List.length_map] at *; omega))); done) | fail) ?_); intro _ _ _ _ _ _ _)) | ((with_reducible show Then _ _ _ _ _ _ _); first | ((with_reducible refine then_next ?_)) | ((with_reducible refine then_ret ?_))) | ((with_reducible show W _ FR (execs _ _) _ _ _ _); first | ((with_reducible refine S_cons ?_)) | ((with_reducible refine S_nil ?_))) | ((with_reducible show W _ VR (eval (Expr.Name _ _) _) _ _ _ _); first | ((with_reducible refine W_local (by first | k_dflt (assumption) | fail) (by first | k_dflt (assumption) | fail) (by first | k_dflt (assumption) | fail) (by first | (k_dflt ((with_reducible repeat (first | exact Has.here | apply Has.there))); done) | fail) ?_)) | ((with_reducible refine W_bltT (by first | k_dflt (assumption) | fail) (by first | k_dflt (assumption) | fail) (by first | k_dflt (assumption) | fail) (by first | (k_dflt ((with_reducible repeat (first | exact InN.here | apply InN.there))); done) | fail) (by first | (k_dflt ((with_reducible_and_instances repeat (first | exact List.Mem.head _ | apply List.Mem.tail))); done) | fail) ?_))) | ((with_reducible show W _ VR (eval (Expr.Constant (Const.int _) _ _) _) _ _ _ _); first | ((with_reducible refine W_int ?_))) | ((with_reducible show W _ VR (eval (Expr.Constant (Const.str _) _ _) _) _ _ _ _); first | ((with_reducible refine W_str lit3 ?_)) | ((with_reducible refine W_str lit6 ?_)) | ((with_reducible refine W_str lit7 ?_)) | ((with_reducible refine W_str lit8 ?_)) | ((with_reducible refine W_str lit9 ?_))) | ((with_reducible show W _ VR (eval (Expr.Call (Expr.Attribute _ _ _) _ _ _) _) _ _ _ _); first | (refine W_Method (by assumption) (by rfl) ?_)) | ((with_reducible show W _ VR (eval (Expr.Call _ _ _ _) _) _ _ _ _); first | (refine W_Call (by assumption) (by rfl) ?_)) | ((with_reducible show W _ VR (eval (Expr.BinOp _ _ _ _) _) _ _ _ _); first | ((with_reducible refine W_BinOp ?_))) | ((with_reducible show W _ VR (eval (Expr.UnaryOp _ _ _) _) _ _ _ _); first | ((with_reducible refine W_Unary ?_))) | ((with_reducible show W _ VR (eval (Expr.IfExp _ _ _ _) _) _ _ _ _); first | ((with_reducible refine W_IfExp ?_))) | ((with_reducible show W _ VR (eval (Expr.Subscript _ (Expr.Slice _ _ none _) _) _) _ _ _ _); first | (refine W_Slice ?_)) | ((with_reducible show W _ VR (eval (Expr.Subscript _ _ _) _) _ _ _ _); first | (refine W_Sub ?_)) | ((with_reducible show W _ VR (eval (Expr.List _ _) _) _ _ _ _); first | (refine W_List (by rfl) ?_)) | ((with_reducible show W _ FR (exec (Stmt.Assign [Expr.Name _ _] _ _) _) _ _ _ _); first | (refine S_Assign ?_)) | ((with_reducible show W _ FR (exec (Stmt.If _ _ _ _) _) _ _ _ _); first | ((with_reducible refine S_If ?_))) | ((with_reducible show W _ FR (exec (Stmt.Return (some _) _) _) _ _ _ _); first | ((with_reducible refine S_Return ?_))) | ((with_reducible show W _ FR (exec (Stmt.AugAssign (Expr.Name _ _) _ _ _) _) _ _ _ _); first | ((with_reducible refine S_Aug (by first | k_dflt (assumption) | fail) (by first | k_dflt (assumption) | fail) (by first | k_dflt (assumption) | fail) (by first | (k_dflt ((with_reducible repeat (first | exact Has.here | apply Has.there))); done) | fail) ?_))) | ((with_reducible show W _ BR (isTrue (Expr.Compare _ _ _ _) _ _) _ _ _ _); first | (refine T_Compare ?_)) | ((with_reducible show W _ BR (isTrue _ _ _) _ _ _ _); first | (refine T_plain rfl ?_)) | ((with_reducible show Op2 _ _ _ _ _ _ _ _); first | ((with_reducible refine add_ints ?_)) | ((with_reducible refine sub_ints ?_)) | ((with_reducible refine gt_ints ?_)) | ((with_reducible refine add_strs (by first | (k_dflt ((first | assumption | omega | decide | (simp only [List.length_append, List.length_cons, List.length_nil, List.length_drop, List.length_take, List.length_map]; omega) | (simp only [List.length_append, List.length_cons, List.length_nil, List.length_drop, List.length_take, List.length_map] at *; omega))); done) | fail) ?_)) | ((with_reducible refine iadd_strs (by first | (k_dflt ((first | assumption | omega | decide | (simp only [List.length_append, List.length_cons, List.length_nil, List.length_drop, List.length_take, List.length_map]; omega) | (simp only [List.length_append, List.length_cons, List.length_nil, List.length_drop, List.length_take, List.length_map] at *; omega))); done) | fail) ?_))) | ((with_reducible show Op1 _ _ _ _ _ _ _); first | ((with_reducible refine Mine.neg_int ?_))) | ((with_reducible show Tru _ _ _ _ _ _); first | ((with_reducible refine tru_bool ?_))) | ((with_reducible show Cal _ _ _ _ _ _ _); first | ((with_reducible refine cal_app ?_)) | ((with_reducible refine len_str (by first | (k_dflt ((first | assumption | omega | decide | (simp only [List.length_append, List.length_cons, List.length_nil, List.length_drop, List.length_take, List.length_map]; omega) | (simp only [List.length_append, List.length_cons, List.length_nil, List.length_drop, List.length_take, List.length_map] at *; omega))); done) | fail) ?_)) | ((with_reducible refine len_list (by first | (k_dflt ((with_reducible_and_instances repeat (first | exact List.Mem.head _ | apply List.Mem.tail))); done) | fail) (by first | (k_dflt ((first | assumption | omega | decide | (simp only [List.length_append, List.length_cons, List.length_nil, List.length_drop, List.length_take, List.length_map]; omega) | (simp only [List.length_append, List.length_cons, List.length_nil, List.length_drop, List.length_take, List.length_map] at *; omega))); done) | fail) ?_)) | ((with_reducible refine isi_str_str ?_))) | ((with_reducible show Br true _ _); first | ((with_reducible refine br_t ?_))) | ((with_reducible show Br (decide _) _ _); first | (with_reducible refine br_dec ?_ ?_ <;> intro _)) | ((with_reducible show Args _ _ _ _ _ _); first | ((with_reducible refine args_cons' ?_)) | ((with_reducible refine args_nil' ?_))) | ((with_reducible show FnQ _ _ _ _); first | ((with_reducible refine fnq_ret ?_))) | ((with_reducible show Kp _ _ ∧ _); first | ((with_reducible refine kp_and kp_blt ?_)) | ((with_reducible refine kp_and kp_type ?_))) | ((with_reducible show _ ≤ _ ∧ _); first | ((with_reducible refine disp (by first | (k_dflt ((first | assumption | omega | decide | (simp only [List.length_append, List.length_cons, List.length_nil, List.length_drop, List.length_take, List.length_map]; omega) | (simp only [List.length_append, List.length_cons, List.length_nil, List.length_drop, List.length_take, List.length_map] at *; omega))); done) | fail) ?_); intro _)) | ((with_reducible show Sto _ _ _ _ _ _ _); first | ((with_reducible refine Sto_local (by first | k_dflt (assumption) | fail) (by first | k_dflt (assumption) | fail) (by first | k_dflt (assumption) | fail) (by first | (k_dflt ((with_reducible repeat (first | exact Put.here | apply Put.there))); done) | fail) ?_))) | ((with_reducible show Part _ _ _ _ _ _); first | ((with_reducible refine part_none ?_)) | ((with_reducible refine part_some ?_))) | ((with_reducible show ∃ _, V.int _ = V.int _ ∧ _); first | ((with_reducible refine int_ex ?_))) | fail)
    all_goals first
      | (refine' frg_intro (ob2 := [(_, .list _)]) ?fp ⟨_, rfl, ?fq⟩; (case fp => (with_reducible repeat (first | exact Picks.nil | (apply Picks.cons; (focus (with_reducible repeat (first | exact Pick.head | apply Pick.tail))))))); (case fq => exact congrArg (fun q => [(_, Ob.list q)]) (words_fy (by assumption) (by assumption) (by assumption) (by assumption))))
      | (refine' frg_intro (ob2 := [(_, .list _)]) ?fp ⟨_, rfl, ?fq⟩; (case fp => (with_reducible repeat (first | exact Picks.nil | (apply Picks.cons; (focus (with_reducible repeat (first | exact Pick.head | apply Pick.tail))))))); (case fq => exact congrArg (fun q => [(_, Ob.list q)]) (words_fn (by assumption) (by assumption) (by assumption) (by assumption))))
  case c1 => exact rfl
  case c2 => exact rfl
  case c3 => exact rfl
theorem len_last {ws : List V} (a b : V) : (ws ++ [a]).length = (ws ++ [b]).length := by rw [List.length_append, List.length_append]; rfl
theorem words_bb {m : List Nat} {p : Int} {l m' : List Nat} {t t' : List V} (h : V.str m :: .str l :: t = V.str m' :: .str l :: t') : V.str m :: .bytes l :: t = V.str m' :: .bytes l :: t' := by
  injection h with h1 h
  injection h with _ h
  rw [h1, h]
theorem words_fyB {l m x x2 : List Nat} {p : Int} {ws ws2 : List V} (h1 : ws.length = nls (l.take (hiN l.length p))) (h2 : x.length = tl (l.take (hiN l.length p))) (h3 : ws2.length = nls l) (hb : 1 < ((ws2 ++ [V.bytes x2]).length : Int)) :
    [V.str m, .bytes l, .int p, .int ((ws ++ [V.bytes x]).length : Int), .int (p - ((l.take (hiN l.length p)).length : Int) + (x.length : Int) + 1), .str (m ++ [32, 97, 116, 32, 112, 111, 115, 105, 116, 105, 111, 110, 32] ++ decs p ++
      ([32, 40, 108, 105, 110, 101, 32] ++ decs ((ws ++ [V.bytes x]).length : Int) ++ [44, 32, 99, 111, 108, 117, 109, 110, 32] ++ decs (p - ((l.take (hiN l.length p)).length : Int) + (x.length : Int) + 1) ++ [41]))] =
    [.str m, .bytes l, .int p, .int (lnN l p), .int (coN l p), .str (wordsN m l p)] := by
  rw [len_last (V.bytes x) (V.str x)]
  exact words_bb (p := p) (words_fy h1 h2 h3 (by rw [len_last (V.str x2) (V.bytes x2)]; exact hb))
theorem words_fnB {l m x x2 : List Nat} {p : Int} {ws ws2 : List V} (h1 : ws.length = nls (l.take (hiN l.length p))) (h2 : x.length = tl (l.take (hiN l.length p))) (h3 : ws2.length = nls l) (hb : ¬ 1 < ((ws2 ++ [V.bytes x2]).length : Int)) :
    [V.str m, .bytes l, .int p, .int ((ws ++ [V.bytes x]).length : Int), .int (p - ((l.take (hiN l.length p)).length : Int) + (x.length : Int) + 1), .str (m ++ [32, 97, 116, 32, 112, 111, 115, 105, 116, 105, 111, 110, 32] ++ decs p)] =
    [.str m, .bytes l, .int p, .int (lnN l p), .int (coN l p), .str (wordsN m l p)] := by
  rw [len_last (V.bytes x) (V.str x)]
  exact words_bb (p := p) (words_fn h1 h2 h3 (fun q => hb (by rw [len_last (V.bytes x2) (V.str x2)]; exact q)))
theorem words_B : ∀ {g : G} (HG : GK g) {l m : List Nat} {p : Int} (hl : l.length ≤ 1000) (hm : m.length ≤ 1000) (hpp : p.natAbs < 10 ^ 9), FnN g 156 [.bytes l, .str m, .int p] 1 false (fun D => [(D, .list [.str m, .bytes l, .int p, .int (lnN l p), .int (coN l p), .str (wordsN m l p)])]) ([]) := by
  k_fill
  intro g HG l m p hl hm hpp
  have H := HG.tk
  have hp := HG.hp
  have hK := HG.hK
  skip
  refine FnC.forget ?_
  refine' fn_intro (pn := [Str.ofString "pattern", Str.ofString "msg", Str.ofString "pos"]) (lo0 := [some (.bytes l), some (.str m), some (.int p), none, none, none, none, none, none, none, none, none]) (X := fun _ _ _ => False) ?ho ?hcd ?hb ?hpn ?hlo ?hloc ?hnd ?hcell leaves_never ?h ?c1 ?c2 ?c3
  case ho => rw [hK]; k_is
  case hcd => rw [hK]; k_is
  case hb => intro s' cas' X' hv'; obtain ⟨c1', c2', c3', rfl, h1', h2', h3'⟩ := VRs3 hv'; first | exact BindsTo.of_eq rfl | (rw [hK] at X'; exact binds_K X' rfl (by k_is) rfl rfl rfl)
  case hpn => decide
  case hlo => rfl
  case hloc => decide
  case hnd => decide
  case hcell => decide
  case h =>
    intro c ok hg henv hns hns' hcv hd hhq
    subst hg
    dsimp only at hns hns'
    have hh := hhq rfl
    skip
    repeat' (first | ((with_reducible show W _ VR (eval (Expr.Constant (Const.bytes [10]) _ _) _) _ _ _ _); first | ((with_reducible refine W_b10 ?_))) | ((with_reducible show GetM _ _ _ _ _ _ _); first | (with_reducible refine getm_bytes FX.slot_bytes_split FX.type_bytes_split ?_)) | ((with_reducible show Cut _ _ _ _ _ _ _ _ _ _); first | ((refine cut_bytes_nz (by first | (k_dflt ((first | assumption | omega | decide | (simp only [List.length_append, List.length_cons, List.length_nil, List.length_drop, List.length_take, List.length_map]; omega) | (simp only [List.length_append, List.length_cons, List.length_nil, List.length_drop, List.length_take, List.length_map] at *; omega))); done) | fail) ?_))) | ((with_reducible show Cal _ _ _ _ _ _ _); first | ((with_reducible refine split_nlb (by first | (k_dflt ((first | assumption | omega | decide | (simp only [List.length_append, List.length_cons, List.length_nil, List.length_drop, List.length_take, List.length_map]; omega) | (simp only [List.length_append, List.length_cons, List.length_nil, List.length_drop, List.length_take, List.length_map] at *; omega))); done) | fail) ?_); intro _ _ _ _ _ _ _)) | ((with_reducible show Cal _ _ _ _ _ _ _); first | ((with_reducible refine str_int' (by first | (k_dflt ((first | assumption | omega | decide | (simp only [List.length_append, List.length_cons, List.length_nil, List.length_drop, List.length_take, List.length_map]; omega) | (simp only [List.length_append, List.length_cons, List.length_nil, List.length_drop, List.length_take, List.length_map] at *; omega))); done) | fail) ?_); intro _)) | ((with_reducible show Sub2 _ _ _ _ _ _ _ _ _); first | ((refine sub_last (by first | (k_dflt ((with_reducible_and_instances repeat (first | exact List.Mem.head _ | apply List.Mem.tail))); done) | fail) ?_))) | ((with_reducible show Then _ _ _ _ _ _ _); first | ((with_reducible refine then_next ?_)) | ((with_reducible refine then_ret ?_))) | ((with_reducible show W _ FR (execs _ _) _ _ _ _); first | ((with_reducible refine S_cons ?_)) | ((with_reducible refine S_nil ?_))) | ((with_reducible show W _ VR (eval (Expr.Name _ _) _) _ _ _ _); first | ((with_reducible refine W_local (by first | k_dflt (assumption) | fail) (by first | k_dflt (assumption) | fail) (by first | k_dflt (assumption) | fail) (by first | (k_dflt ((with_reducible repeat (first | exact Has.here | apply Has.there))); done) | fail) ?_)) | ((with_reducible refine W_bltT (by first | k_dflt (assumption) | fail) (by first | k_dflt (assumption) | fail) (by first | k_dflt (assumption) | fail) (by first | (k_dflt ((with_reducible repeat (first | exact InN.here | apply InN.there))); done) | fail) (by first | (k_dflt ((with_reducible_and_instances repeat (first | exact List.Mem.head _ | apply List.Mem.tail))); done) | fail) ?_))) | ((with_reducible show W _ VR (eval (Expr.Constant (Const.int _) _ _) _) _ _ _ _); first | ((with_reducible refine W_int ?_))) | ((with_reducible show W _ VR (eval (Expr.Constant (Const.str _) _ _) _) _ _ _ _); first | ((with_reducible refine W_str lit6 ?_)) | ((with_reducible refine W_str lit7 ?_)) | ((with_reducible refine W_str lit8 ?_)) | ((with_reducible refine W_str lit9 ?_))) | ((with_reducible show W _ VR (eval (Expr.Call (Expr.Attribute _ _ _) _ _ _) _) _ _ _ _); first | (refine W_Method (by assumption) (by rfl) ?_)) | ((with_reducible show W _ VR (eval (Expr.Call _ _ _ _) _) _ _ _ _); first | (refine W_Call (by assumption) (by rfl) ?_)) | ((with_reducible show W _ VR (eval (Expr.BinOp _ _ _ _) _) _ _ _ _); first | ((with_reducible refine W_BinOp ?_))) | ((with_reducible show W _ VR (eval (Expr.UnaryOp _ _ _) _) _ _ _ _); first | ((with_reducible refine W_Unary ?_))) | ((with_reducible show W _ VR (eval (Expr.IfExp _ _ _ _) _) _ _ _ _); first | ((with_reducible refine W_IfExp ?_))) | ((with_reducible show W _ VR (eval (Expr.Subscript _ (Expr.Slice _ _ none _) _) _) _ _ _ _); first | (refine W_Slice ?_)) | ((with_reducible show W _ VR (eval (Expr.Subscript _ _ _) _) _ _ _ _); first | (refine W_Sub ?_)) | ((with_reducible show W _ VR (eval (Expr.List _ _) _) _ _ _ _); first | (refine W_List (by rfl) ?_)) | ((with_reducible show W _ FR (exec (Stmt.Assign [Expr.Name _ _] _ _) _) _ _ _ _); first | (refine S_Assign ?_)) | ((with_reducible show W _ FR (exec (Stmt.If _ _ _ _) _) _ _ _ _); first | ((with_reducible refine S_If ?_))) | ((with_reducible show W _ FR (exec (Stmt.Return (some _) _) _) _ _ _ _); first | ((with_reducible refine S_Return ?_))) | ((with_reducible show W _ FR (exec (Stmt.AugAssign (Expr.Name _ _) _ _ _) _) _ _ _ _); first | ((with_reducible refine S_Aug (by first | k_dflt (assumption) | fail) (by first | k_dflt (assumption) | fail) (by first | k_dflt (assumption) | fail) (by first | (k_dflt ((with_reducible repeat (first | exact Has.here | apply Has.there))); done) | fail) ?_))) | ((with_reducible show W _ BR (isTrue (Expr.Compare _ _ _ _) _ _) _ _ _ _); first | (refine T_Compare ?_)) | ((with_reducible show W _ BR (isTrue _ _ _) _ _ _ _); first | (refine T_plain rfl ?_)) | ((with_reducible show Op2 _ _ _ _ _ _ _ _); first | ((with_reducible refine add_ints ?_)) | ((with_reducible refine sub_ints ?_)) | ((with_reducible refine gt_ints ?_)) | ((with_reducible refine add_strs (by first | (k_dflt ((first | assumption | omega | decide | (simp only [List.length_append, List.length_cons, List.length_nil, List.length_drop, List.length_take, List.length_map]; omega) | (simp only [List.length_append, List.length_cons, List.length_nil, List.length_drop, List.length_take, List.length_map] at *; omega))); done) | fail) ?_)) | ((with_reducible refine iadd_strs (by first | (k_dflt ((first | assumption | omega | decide | (simp only [List.length_append, List.length_cons, List.length_nil, List.length_drop, List.length_take, List.length_map]; omega) | (simp only [List.length_append, List.length_cons, List.length_nil, List.length_drop, List.length_take, List.length_map] at *; omega))); done) | fail) ?_))) | ((with_reducible show Op1 _ _ _ _ _ _ _); first | ((with_reducible refine Mine.neg_int ?_))) | ((with_reducible show Tru _ _ _ _ _ _); first | ((with_reducible refine tru_bool ?_))) | ((with_reducible show Cal _ _ _ _ _ _ _); first | ((with_reducible refine cal_app ?_)) | ((with_reducible refine len_list (by first | (k_dflt ((with_reducible_and_instances repeat (first | exact List.Mem.head _ | apply List.Mem.tail))); done) | fail) (by first | (k_dflt ((first | assumption | omega | decide | (simp only [List.length_append, List.length_cons, List.length_nil, List.length_drop, List.length_take, List.length_map]; omega) | (simp only [List.length_append, List.length_cons, List.length_nil, List.length_drop, List.length_take, List.length_map] at *; omega))); done) | fail) ?_)) | ((with_reducible refine len_bytes' (by first | (k_dflt ((first | assumption | omega | decide | (simp only [List.length_append, List.length_cons, List.length_nil, List.length_drop, List.length_take, List.length_map]; omega) | (simp only [List.length_append, List.length_cons, List.length_nil, List.length_drop, List.length_take, List.length_map] at *; omega))); done) | fail) ?_)) | ((with_reducible refine isi_bytes_str (by first | k_dflt (assumption) | fail) ?_))) | ((with_reducible show Br false _ _); first | ((with_reducible refine br_f ?_))) | ((with_reducible show Br (decide _) _ _); first | (with_reducible refine br_dec ?_ ?_ <;> intro _)) | ((with_reducible show Args _ _ _ _ _ _); first | ((with_reducible refine args_cons' ?_)) | ((with_reducible refine args_nil' ?_))) | ((with_reducible show FnQ _ _ _ _); first | ((with_reducible refine fnq_ret ?_))) | ((with_reducible show Kp _ _ ∧ _); first | ((with_reducible refine kp_and kp_blt ?_)) | ((with_reducible refine kp_and kp_type ?_))) | ((with_reducible show _ ≤ _ ∧ _); first | ((with_reducible refine disp (by first | (k_dflt ((first | assumption | omega | decide | (simp only [List.length_append, List.length_cons, List.length_nil, List.length_drop, List.length_take, List.length_map]; omega) | (simp only [List.length_append, List.length_cons, List.length_nil, List.length_drop, List.length_take, List.length_map] at *; omega))); done) | fail) ?_); intro _)) | ((with_reducible show Sto _ _ _ _ _ _ _); first | ((with_reducible refine Sto_local (by first | k_dflt (assumption) | fail) (by first | k_dflt (assumption) | fail) (by first | k_dflt (assumption) | fail) (by first | (k_dflt ((with_reducible repeat (first | exact Put.here | apply Put.there))); done) | fail) ?_))) | ((with_reducible show Part _ _ _ _ _ _); first | ((with_reducible refine part_none ?_)) | ((with_reducible refine part_some ?_))) | ((with_reducible show ∃ _, V.int _ = V.int _ ∧ _); first | ((with_reducible refine int_ex ?_))) | fail)
    all_goals first
      | (refine' frg_intro (ob2 := [(_, .list _)]) ?fp ⟨_, rfl, ?fq⟩; (case fp => (with_reducible repeat (first | exact Picks.nil | (apply Picks.cons; (focus (with_reducible repeat (first | exact Pick.head | apply Pick.tail))))))); (case fq => exact congrArg (fun q => [(_, Ob.list q)]) (words_fyB (by assumption) (by assumption) (by assumption) (by assumption))))
      | (refine' frg_intro (ob2 := [(_, .list _)]) ?fp ⟨_, rfl, ?fq⟩; (case fp => (with_reducible repeat (first | exact Picks.nil | (apply Picks.cons; (focus (with_reducible repeat (first | exact Pick.head | apply Pick.tail))))))); (case fq => exact congrArg (fun q => [(_, Ob.list q)]) (words_fnB (by assumption) (by assumption) (by assumption) (by assumption))))
  case c1 => exact rfl
  case c2 => exact rfl
  case c3 => exact rfl
theorem words_K {g : G} (HG : GK g) {kd : Bool} {l m : List Nat} {p : Int} (hl : l.length ≤ 1000) (hm : m.length ≤ 1000) (hpp : p.natAbs < 10 ^ 9) : FnN g 156 [ptV kd l, .str m, .int p] 1 false (fun D => [(D, .list [.str m, ptV kd l, .int p, .int (lnN l p), .int (coN l p), .str (wordsN m l p)])]) [] := by
  cases kd with
  | true => exact words_S HG hl hm hpp
  | false => exact words_B HG hl hm hpp
noncomputable def pl (n : Int) : Nat := (([97, 98, 10, 92, 92, 92] : List Nat)[(n.fmod 6).toNat]?).getD 97
theorem pl_in (n : Int) : pl n ∈ ([97, 98, 10, 92, 92, 92] : List Nat) := by
  unfold pl
  cases h : ([97, 98, 10, 92, 92, 92] : List Nat)[(n.fmod 6).toNat]? with
  | none => decide
  | some k => exact List.mem_of_getElem? h
noncomputable def plL (n : Int) : Nat := (([97, 98, 92] : List Nat)[(n.fmod 3).toNat]?).getD 97
theorem plL_in (n : Int) : plL n ∈ ([97, 98, 92] : List Nat) := by
  unfold plL
  cases h : ([97, 98, 92] : List Nat)[(n.fmod 3).toNat]? with
  | none => decide
  | some k => exact List.mem_of_getElem? h
theorem pl_at {n : Int} {k : Nat} (h : ([97, 98, 10, 92, 92, 92] : List Nat)[(n.fmod 6).toNat]? = some k) : pl n = k := by unfold pl; rw [h]; rfl
theorem plL_at {n : Int} {k : Nat} (h : ([97, 98, 92] : List Nat)[(n.fmod 3).toNat]? = some k) : plL n = k := by unfold plL; rw [h]; rfl
noncomputable def ptx (k : Nat) (ns : List Int) : List Nat := (ns.take k).map pl ++ [plL ns.sum]
theorem ptx_len {k : Nat} {ns : List Int} : (ptx k ns).length ≤ k + 1 := by
  unfold ptx
  rw [List.length_append, List.length_map]
  exact Nat.succ_le_succ (List.length_take_le k ns)
theorem ptx_low {k : Nat} {ns : List Int} : ∀ c ∈ ptx k ns, c < 256 := by
  intro c hc
  unfold ptx at hc
  rcases List.mem_append.mp hc with h | h
  · obtain ⟨n, _, rfl⟩ := List.mem_map.mp h
    exact (by decide : ∀ c ∈ ([97, 98, 10, 92, 92, 92] : List Nat), c < 256) _ (pl_in n)
  · rw [List.mem_singleton.mp h]
    exact (by decide : ∀ c ∈ ([97, 98, 92] : List Nat), c < 256) _ (plL_in _)
theorem ptx_no {k : Nat} {ns : List Int} (hk : 0 < k) : ptx k ns ≠ [92] := by
  intro e
  unfold ptx at e
  cases ns with
  | nil => rw [List.take_nil] at e; exact absurd e (by decide)
  | cons n r =>
    cases k with
    | zero => exact absurd hk (Nat.lt_irrefl 0)
    | succ k =>
      have := congrArg List.length e
      simp at this
theorem pat_F : ∀ {g : G} (HG : GK g) {D : Addr} {ns : List Int} (hB : ∃ cs, g.hb.IsList D cs.toArray ∧ VRs (ns.map V.int) cs) (hns : ns.length ≤ 100), FnE g 168 [.ref D, .int 7] 1 false (.str (ptx 7 ns)) ([]) ([]) := by
  k_fill
  intro g HG D ns hB hns
  have H := HG.tk
  have hp := HG.hp
  have hK := HG.hK
  skip
  refine FnC.forget ?_
  refine' fn_intro (pn := [Str.ofString "script", Str.ofString "most"]) (lo0 := [some (.ref D), some (.int 7), none, none]) (X := fun _ _ _ => False) ?ho ?hcd ?hb ?hpn ?hlo ?hloc ?hnd ?hcell leaves_never ?h ?c1 ?c2 ?c3
  case ho => rw [hK]; k_is
  case hcd => rw [hK]; k_is
  case hb => intro s' cas' X' hv'; obtain ⟨c1', c2', rfl, h1', h2'⟩ := VRs2 hv'; first | exact BindsTo.of_eq rfl | (rw [hK] at X'; exact binds_K X' rfl (by k_is) rfl rfl rfl)
  case hpn => decide
  case hlo => rfl
  case hloc => decide
  case hnd => decide
  case hcell => decide
  case h =>
    intro c ok hg henv hns hns' hcv hd hhq
    subst hg
    dsimp only at hns hns'
    have hh := hhq rfl
    have hbase : BaseL c D (ns.map V.int) := hB
    refine fnq_G ?_
    intro TQ hTr hTn
    have ecut : cut (ns.map V.int) none (some 7) = (ns.take 7).map V.int := cut_ns_map (k := 7)
    repeat' (first | ((with_reducible show W _ FR (execs _ _) _ _ _ _); first | ((with_reducible refine S_cons ?_))) | ((with_reducible show W _ VR (eval (Expr.Name _ _) _) _ _ _ _); first | ((with_reducible refine W_local (by first | k_dflt (assumption) | fail) (by first | k_dflt (assumption) | fail) (by first | k_dflt (assumption) | fail) (by first | (k_dflt ((with_reducible repeat (first | exact Has.here | apply Has.there))); done) | fail) ?_))) | ((with_reducible show W _ VR (eval (Expr.Constant (Const.str _) _ _) _) _ _ _ _); first | ((with_reducible refine W_str lit0 ?_))) | ((with_reducible show W _ VR (eval (Expr.Call (Expr.Attribute _ _ _) _ _ _) _) _ _ _ _); first | (refine W_Method (by assumption) (by rfl) ?_)) | ((with_reducible show W _ VR (eval (Expr.Subscript _ (Expr.Slice _ _ none _) _) _) _ _ _ _); first | (refine W_Slice ?_)) | ((with_reducible show W _ VR (eval (Expr.ListComp _ _ _ _) _) _ _ _ _); first | ((refine W_Comp0 (by first | k_dflt (assumption) | fail) (by first | (k_dflt (decide); done) | fail) (by first | (k_dflt (exact rfl); done) | fail) (by first | (k_dflt (decide); done) | fail) (by first | (k_dflt (exact rfl); done) | fail) (by first | (k_dflt (decide); done) | fail) (by first | (k_dflt (exact rfl); done) | fail) (by first | (k_dflt (decide); done) | fail) ?_))) | ((with_reducible show W _ FR (exec (Stmt.Assign [Expr.Name _ _] _ _) _) _ _ _ _); first | (refine S_Assign ?_)) | ((with_reducible show Args _ _ _ _ _ _); first | ((with_reducible refine args_cons' ?_))) | ((with_reducible show Kp _ _ ∧ _); first | ((with_reducible refine kp_and kp_blt ?_))) | ((with_reducible show Part _ _ _ _ _ _); first | ((with_reducible refine part_none ?_)) | ((with_reducible refine part_some ?_))) | ((with_reducible show ∃ _, V.int _ = V.int _ ∧ _); first | ((with_reducible refine int_ex ?_))) | ((with_reducible show Cut _ _ _ _ _ _ _ _ _ _); first | ((refine cut_list (by first | (k_dflt ((first | (refine' Or.inl ?lm; (case lm => (with_reducible_and_instances repeat (first | exact List.Mem.head _ | apply List.Mem.tail)))) | exact LA.base (by assumption))); done) | fail) (by first | (k_dflt ((first | assumption | omega | decide | (simp only [List.length_append, List.length_cons, List.length_nil, List.length_drop, List.length_take, List.length_map]; omega) | (simp only [List.length_append, List.length_cons, List.length_nil, List.length_drop, List.length_take, List.length_map] at *; omega))); done) | fail) ?_); intro _)) | ((with_reducible show GetM _ _ _ _ _ _ _); first | (with_reducible refine getm_str PySem.F.slot_str_join PySem.F.type_str_join ?_)) | fail)
    rw [ecut]
    repeat' (first | ((with_reducible show CompF _ _ _ _ _ _ _ _ _); first | ((refine compF (Itr_list (by first | k_dflt (assumption) | fail) (by first | (k_dflt ((with_reducible repeat (first | exact Picks.nil | (apply Picks.cons; (focus (with_reducible repeat (first | exact Pick.head | apply Pick.tail))))))); done) | fail)) (by first | (k_dflt ((first | assumption | omega | decide | (simp only [List.length_append, List.length_cons, List.length_nil, List.length_drop, List.length_take, List.length_map]; omega) | (simp only [List.length_append, List.length_cons, List.length_nil, List.length_drop, List.length_take, List.length_map] at *; omega))); done) | fail) ?_))) | fail)
    refine CompE.mapkF (fun n => V.str [pl n]) (fun n hn c2 ok2 hg2 hn2 hcv2 hd2 hB2 hfe2 => ?_) ?_
    · have H2 : GK c2.g := by rw [hg2]; exact HG
      have H3 := H2.tk
      have hh2 : c2.B.handled = none := by rw [hB2]; exact hh
      have h1 := fmod_lo n (n := 6) (by decide)
      have h2 := fmod_hi n (n := 6) (by decide)
      try dsimp only at hn2
      repeat' (first | ((with_reducible show W _ VR (eval (Expr.Name _ _) _) _ _ _ _); first | ((with_reducible refine W_comp (by first | k_dflt (assumption) | fail) (by first | k_dflt (assumption) | fail) (by first | k_dflt (assumption) | fail) (by first | (k_dflt ((with_reducible repeat (first | exact InN.here | apply InN.there))); done) | fail) (by first | (k_dflt ((with_reducible_and_instances repeat (first | exact List.Mem.head _ | apply List.Mem.tail))); done) | fail) ?_))) | ((with_reducible show W _ VR (eval (Expr.Constant (Const.int _) _ _) _) _ _ _ _); first | ((with_reducible refine W_int ?_))) | ((with_reducible show W _ VR (eval (Expr.Constant (Const.str _) _ _) _) _ _ _ _); first | ((with_reducible refine W_str lit1 ?_)) | ((with_reducible refine W_str lit11 ?_))) | ((with_reducible show W _ VR (eval (Expr.BinOp _ _ _ _) _) _ _ _ _); first | ((with_reducible refine W_BinOp ?_))) | ((with_reducible show W _ VR (eval (Expr.Subscript _ _ _) _) _ _ _ _); first | (refine W_Sub ?_)) | ((with_reducible show Op2 _ _ _ _ _ _ _ _); first | ((with_reducible refine mod_ints (by first | (k_dflt ((first | assumption | omega | decide | (simp only [List.length_append, List.length_cons, List.length_nil, List.length_drop, List.length_take, List.length_map]; omega) | (simp only [List.length_append, List.length_cons, List.length_nil, List.length_drop, List.length_take, List.length_map] at *; omega))); done) | fail) ?_)) | ((with_reducible refine add_strs (by first | (k_dflt ((first | assumption | omega | decide | (simp only [List.length_append, List.length_cons, List.length_nil, List.length_drop, List.length_take, List.length_map]; omega) | (simp only [List.length_append, List.length_cons, List.length_nil, List.length_drop, List.length_take, List.length_map] at *; omega))); done) | fail) ?_)) | ((with_reducible refine mul_int_str (by first | (k_dflt ((first | assumption | omega | decide | (simp only [List.length_append, List.length_cons, List.length_nil, List.length_drop, List.length_take, List.length_map]; omega) | (simp only [List.length_append, List.length_cons, List.length_nil, List.length_drop, List.length_take, List.length_map] at *; omega))); done) | fail) (by first | (k_dflt ((first | assumption | omega | decide | (simp only [List.length_append, List.length_cons, List.length_nil, List.length_drop, List.length_take, List.length_map]; omega) | (simp only [List.length_append, List.length_cons, List.length_nil, List.length_drop, List.length_take, List.length_map] at *; omega))); done) | fail) (by first | (k_dflt ((first | assumption | omega | decide | (simp only [List.length_append, List.length_cons, List.length_nil, List.length_drop, List.length_take, List.length_map]; omega) | (simp only [List.length_append, List.length_cons, List.length_nil, List.length_drop, List.length_take, List.length_map] at *; omega))); done) | fail) ?_))) | ((with_reducible show Sub2 _ _ _ _ _ _ _ _ _); first | ((refine sub_str (by assumption) (by omega) (by omega) ?_ ?_); (focus (intro _ _)); rotate_left; (focus (intro _; first | (exfalso; exact stepA_bad (by assumption) (by assumption) (by assumption) (by assumption)) | (exfalso; exact run_outA (by assumption) (by assumption)) | intro _)); rotate_right)) | fail)
      all_goals first
        | (refine ⟨?_, rfl, rfl⟩
           with_reducible rename getElem? _ _ = some _ => hk
           rw [pl_at hk])
        | (with_reducible rename getElem? _ _ = none => hk
           rw [List.getElem?_eq_none_iff] at hk
           have hk' : ([97, 98, 10, 92, 92, 92] : List Nat).length ≤ (n.fmod 6).toNat := hk
           simp only [List.length_cons, List.length_nil] at hk'
           omega)
    · have e2 : (ns.take 7).map (fun n => V.str [pl n]) = ((ns.take 7).map pl).map fun k => V.str [k] := by rw [List.map_map]; rfl
      rw [e2]
      have hl0 : ((ns.take 7).map pl).length ≤ 7 := by rw [List.length_map]; exact List.length_take_le _ _
      have e3 : (ns.take 7).map pl ++ [plL ns.sum] = ptx 7 ns := rfl
      generalize (ns.take 7).map pl = l0 at *
      clear e2 ecut
      intro Dc
      try dsimp only [List.cons_append, List.nil_append]
      have h1 := fmod_lo ns.sum (n := 3) (by decide)
      have h2 := fmod_hi ns.sum (n := 3) (by decide)
      repeat' (first | ((with_reducible show Then _ _ _ _ _ _ _); first | ((with_reducible refine then_next ?_)) | ((with_reducible refine then_ret ?_))) | ((with_reducible show W _ FR (execs _ _) _ _ _ _); first | ((with_reducible refine S_cons ?_))) | ((with_reducible show W _ VR (eval (Expr.Name _ _) _) _ _ _ _); first | ((with_reducible refine W_local (by first | k_dflt (assumption) | fail) (by first | k_dflt (assumption) | fail) (by first | k_dflt (assumption) | fail) (by first | (k_dflt ((with_reducible repeat (first | exact Has.here | apply Has.there))); done) | fail) ?_)) | ((with_reducible refine W_bltT (by first | k_dflt (assumption) | fail) (by first | k_dflt (assumption) | fail) (by first | k_dflt (assumption) | fail) (by first | (k_dflt ((with_reducible repeat (first | exact InN.here | apply InN.there))); done) | fail) (by first | (k_dflt ((with_reducible_and_instances repeat (first | exact List.Mem.head _ | apply List.Mem.tail))); done) | fail) ?_))) | ((with_reducible show W _ VR (eval (Expr.Constant (Const.int _) _ _) _) _ _ _ _); first | ((with_reducible refine W_int ?_))) | ((with_reducible show W _ VR (eval (Expr.Constant (Const.str _) _ _) _) _ _ _ _); first | ((with_reducible refine W_str lit12 ?_))) | ((with_reducible show W _ VR (eval (Expr.Call _ _ _ _) _) _ _ _ _); first | (refine W_Call (by assumption) (by rfl) ?_)) | ((with_reducible show W _ VR (eval (Expr.BinOp _ _ _ _) _) _ _ _ _); first | ((with_reducible refine W_BinOp ?_))) | ((with_reducible show W _ VR (eval (Expr.Subscript _ _ _) _) _ _ _ _); first | (refine W_Sub ?_)) | ((with_reducible show W _ FR (exec (Stmt.Return (some _) _) _) _ _ _ _); first | ((with_reducible refine S_Return ?_))) | ((with_reducible show Op2 _ _ _ _ _ _ _ _); first | ((with_reducible refine mod_ints (by first | (k_dflt ((first | assumption | omega | decide | (simp only [List.length_append, List.length_cons, List.length_nil, List.length_drop, List.length_take, List.length_map]; omega) | (simp only [List.length_append, List.length_cons, List.length_nil, List.length_drop, List.length_take, List.length_map] at *; omega))); done) | fail) ?_)) | ((with_reducible refine add_strs (by first | (k_dflt ((first | assumption | omega | decide | (simp only [List.length_append, List.length_cons, List.length_nil, List.length_drop, List.length_take, List.length_map]; omega) | (simp only [List.length_append, List.length_cons, List.length_nil, List.length_drop, List.length_take, List.length_map] at *; omega))); done) | fail) ?_))) | ((with_reducible show Cal _ _ _ _ _ _ _); first | ((with_reducible refine join_signs' (by first | (k_dflt ((first | (refine' Or.inl ?lm; (case lm => (with_reducible_and_instances repeat (first | exact List.Mem.head _ | apply List.Mem.tail)))) | exact LA.base (by assumption))); done) | fail) (by first | (k_dflt ((first | assumption | omega | decide | (simp only [List.length_append, List.length_cons, List.length_nil, List.length_drop, List.length_take, List.length_map]; omega) | (simp only [List.length_append, List.length_cons, List.length_nil, List.length_drop, List.length_take, List.length_map] at *; omega))); done) | fail) ?_)) | ((with_reducible refine sum_list (by first | k_dflt (assumption) | fail) (by first | (k_dflt ((first | (refine' Or.inl ?lm; (case lm => (with_reducible_and_instances repeat (first | exact List.Mem.head _ | apply List.Mem.tail)))) | exact LA.base (by assumption))); done) | fail) ?_))) | ((with_reducible show Args _ _ _ _ _ _); first | ((with_reducible refine args_cons' ?_)) | ((with_reducible refine args_nil' ?_))) | ((with_reducible show Kp _ _ ∧ _); first | ((with_reducible refine kp_and kp_blt ?_))) | ((with_reducible show Sto _ _ _ _ _ _ _); first | ((with_reducible refine Sto_local (by first | k_dflt (assumption) | fail) (by first | k_dflt (assumption) | fail) (by first | k_dflt (assumption) | fail) (by first | (k_dflt ((with_reducible repeat (first | exact Put.here | apply Put.there))); done) | fail) ?_))) | ((with_reducible show Sub2 _ _ _ _ _ _ _ _ _); first | ((refine sub_str (by assumption) (by omega) (by omega) ?_ ?_); (focus (intro _ _)); rotate_left; (focus (intro _; first | (exfalso; exact stepA_bad (by assumption) (by assumption) (by assumption) (by assumption)) | (exfalso; exact run_outA (by assumption) (by assumption)) | intro _)); rotate_right)) | fail)
      all_goals first
        | (with_reducible rename getElem? _ _ = some _ => hk
           rw [plL_at hk] at e3
           rw [e3]
           first
             | (refine' hTr (ob2 := []) ?fp ?fe0 ?fe1; (case fp => (with_reducible repeat (first | exact Picks.nil | (apply Picks.cons; (focus (with_reducible repeat (first | exact Pick.head | apply Pick.tail))))))); (case fe0 => rfl); (case fe1 => rfl))
            )
        | (with_reducible rename getElem? _ _ = none => hk
           rw [List.getElem?_eq_none_iff] at hk
           simp only [List.length_cons, List.length_nil] at hk
           omega)
    
  case c1 => exact rfl
  case c2 => exact rfl
  case c3 => exact rfl
theorem within_F : ∀ {g : G} (HG : GK g) {sg held : List Nat} (hz : sg.length ≤ 1000) (hz2 : held.length ≤ 1000), FnE g 180 [.str sg, .str held] 2 false (.bool (inS held sg)) [] [] := by
  k_fill
  intro g HG sg held hz hz2
  have H := HG.tk
  have hp := HG.hp
  have hK := HG.hK
  refine FnC.forget ?_
  refine' fn_introCC (x1 := Str.ofString "sign") (x2 := Str.ofString "held") (gl := [Str.ofString "any", Str.ofString "range", Str.ofString "len"]) (lo0 := [none, none, none, none, none]) (X := fun _ _ _ => False) ?ho ?hcd ?hb ?hsn ?hlo ?hnd leaves_never ?h ?c1 ?c2 ?c3
  case ho => rw [hK]; k_is
  case hcd => rw [hK]; k_is
  case hb => intro s' cas' X' hv'; obtain ⟨c1', c2', rfl, h1', h2'⟩ := VRs2 hv'; rfl
  case hsn => rfl
  case hlo => rfl
  case hnd => decide
  case h =>
    intro c C1 C2 ok hg hfc hns hns' hcv hd hhq
    subst hg
    dsimp only at hns hns'
    have hh := hhq rfl
    refine fnq_G ?_
    intro TQ hTr hTn
    repeat' (first | ((with_reducible show W _ VR (eval (Expr.ListComp _ _ _ _) _) _ _ _ _); first | ((refine W_CompK (by first | k_dflt (assumption) | fail) (by first | k_dflt (assumption) | fail) (by first | k_dflt (assumption) | fail) (by first | (k_dflt ((repeat (first | with_reducible exact Closes.nil | with_reducible apply Closes.loc | with_reducible apply Closes.glob | (apply Closes.cell (by (with_reducible repeat (first | exact InN.here | apply InN.there))) (by rfl))))); done) | fail) (by first | (k_dflt (decide); done) | fail) (by first | (k_dflt (exact rfl); done) | fail) (by first | (k_dflt (decide); done) | fail) (by first | (k_dflt (exact rfl); done) | fail) (by first | (k_dflt (decide); done) | fail) ?_))) | ((with_reducible show W _ VR (eval (Expr.Name _ _) _) _ _ _ _); first | ((refine W_cellv (by first | k_dflt (assumption) | fail) (by first | k_dflt (assumption) | fail) (by first | (k_dflt ((with_reducible repeat (first | exact InN.here | apply InN.there))); done) | fail) (by first | k_dflt (assumption) | fail) (by first | (k_dflt (exact rfl); done) | fail) (by first | (k_dflt ((with_reducible_and_instances repeat (first | exact List.Mem.head _ | apply List.Mem.tail))); done) | fail) ?_))) | ((with_reducible show W _ FR (execs _ _) _ _ _ _); first | ((with_reducible refine S_cons ?_))) | ((with_reducible show W _ VR (eval (Expr.Name _ _) _) _ _ _ _); first | ((with_reducible refine W_bltT (by first | k_dflt (assumption) | fail) (by first | k_dflt (assumption) | fail) (by first | k_dflt (assumption) | fail) (by first | (k_dflt ((with_reducible repeat (first | exact InN.here | apply InN.there))); done) | fail) (by first | (k_dflt ((with_reducible_and_instances repeat (first | exact List.Mem.head _ | apply List.Mem.tail))); done) | fail) ?_))) | ((with_reducible show W _ VR (eval (Expr.Call _ _ _ _) _) _ _ _ _); first | (refine W_Call (by assumption) (by rfl) ?_)) | ((with_reducible show W _ FR (exec (Stmt.Return (some _) _) _) _ _ _ _); first | ((with_reducible refine S_Return ?_))) | ((with_reducible show Cal _ _ _ _ _ _ _); first | ((with_reducible refine len_str (by first | (k_dflt ((first | assumption | omega | decide | (simp only [List.length_append, List.length_cons, List.length_nil, List.length_drop, List.length_take, List.length_map]; omega) | (simp only [List.length_append, List.length_cons, List.length_nil, List.length_drop, List.length_take, List.length_map] at *; omega))); done) | fail) ?_)) | ((with_reducible refine range_1 ?_); intro _)) | ((with_reducible show Args _ _ _ _ _ _); first | ((with_reducible refine args_cons' ?_)) | ((with_reducible refine args_nil' ?_))) | ((with_reducible show Kp _ _ ∧ _); first | ((with_reducible refine kp_and kp_blt ?_)) | ((with_reducible refine kp_and kp_type ?_))) | fail)
    refine' compF (Itr_range (n := held.length) hh ?ip ?ism ?irn) ?iz ?_
    case ip => (with_reducible repeat (first | exact Picks.nil | (apply Picks.cons; (focus (with_reducible repeat (first | exact Pick.head | apply Pick.tail))))))
    case ism => exact small_one (by omega) (by omega) (by omega) (by omega)
    case irn => exact rangeSize_nat _ _
    case iz => rw [List.length_map, List.length_range]; omega
    refine CompE.mapkF (g := fun (i : Nat) => V.int (0 + (i : Int))) (fun k => V.bool (decide ((held.drop k).take sg.length = sg))) (fun k hk c2 ok2 hg2 hn2 hcv2 hd2 hB2 hfe2 => ?_) ?_
    · have H2 : GK c2.g := by rw [hg2]; exact HG
      have H3 := H2.tk
      have hh2 : c2.B.handled = none := by rw [hB2]; exact hh
      have hfc2 := (congrArg Env.cells hfe2).trans hfc
      try dsimp only at hn2
      have hk0 : (0 : Int) ≤ 0 + (k : Int) := by omega
      have hk1 : (0 : Int) ≤ 0 + (k : Int) + (sg.length : Int) := by omega
      have hzz : held.length ≤ 100000 := by omega
      have hek : (held.drop (0 + (k : Int)).toNat).take ((0 + (k : Int) + (sg.length : Int)).toNat - (0 + (k : Int)).toNat) = (held.drop k).take sg.length := by
        rw [show (0 + (k : Int)).toNat = k by omega, show (0 + (k : Int) + (sg.length : Int)).toNat - k = sg.length by omega]
      repeat' (first | ((with_reducible show Cut _ _ _ _ _ _ _ _ _ _); first | ((refine cut_str_ssE (by first | k_dflt (assumption) | fail) (by first | k_dflt (assumption) | fail) (by first | k_dflt (assumption) | fail) (by first | k_dflt (assumption) | fail) ?_))) | ((with_reducible show W _ VR (eval (Expr.Name _ _) _) _ _ _ _); first | ((refine W_cellv (by first | k_dflt (assumption) | fail) (by first | k_dflt (assumption) | fail) (by first | (k_dflt ((with_reducible repeat (first | exact InN.here | apply InN.there))); done) | fail) (by first | k_dflt (assumption) | fail) (by first | (k_dflt (exact rfl); done) | fail) (by first | (k_dflt ((with_reducible_and_instances repeat (first | exact List.Mem.head _ | apply List.Mem.tail))); done) | fail) ?_))) | ((with_reducible show W _ VR (eval (Expr.Name _ _) _) _ _ _ _); first | ((with_reducible refine W_bltT (by first | k_dflt (assumption) | fail) (by first | k_dflt (assumption) | fail) (by first | k_dflt (assumption) | fail) (by first | (k_dflt ((with_reducible repeat (first | exact InN.here | apply InN.there))); done) | fail) (by first | (k_dflt ((with_reducible_and_instances repeat (first | exact List.Mem.head _ | apply List.Mem.tail))); done) | fail) ?_)) | ((with_reducible refine W_comp (by first | k_dflt (assumption) | fail) (by first | k_dflt (assumption) | fail) (by first | k_dflt (assumption) | fail) (by first | (k_dflt ((with_reducible repeat (first | exact InN.here | apply InN.there))); done) | fail) (by first | (k_dflt ((with_reducible_and_instances repeat (first | exact List.Mem.head _ | apply List.Mem.tail))); done) | fail) ?_))) | ((with_reducible show W _ VR (eval (Expr.Call _ _ _ _) _) _ _ _ _); first | (refine W_Call (by assumption) (by rfl) ?_)) | ((with_reducible show W _ VR (eval (Expr.BinOp _ _ _ _) _) _ _ _ _); first | ((with_reducible refine W_BinOp ?_))) | ((with_reducible show W _ VR (eval (Expr.Compare _ _ _ _) _) _ _ _ _); first | (refine W_Compare ?_)) | ((with_reducible show W _ VR (eval (Expr.Subscript _ (Expr.Slice _ _ none _) _) _) _ _ _ _); first | (refine W_Slice ?_)) | ((with_reducible show Op2 _ _ _ _ _ _ _ _); first | ((with_reducible refine add_ints ?_)) | ((with_reducible refine eq_strs ?_))) | ((with_reducible show Cal _ _ _ _ _ _ _); first | ((with_reducible refine len_str (by first | (k_dflt ((first | assumption | omega | decide | (simp only [List.length_append, List.length_cons, List.length_nil, List.length_drop, List.length_take, List.length_map]; omega) | (simp only [List.length_append, List.length_cons, List.length_nil, List.length_drop, List.length_take, List.length_map] at *; omega))); done) | fail) ?_))) | ((with_reducible show Args _ _ _ _ _ _); first | ((with_reducible refine args_cons' ?_)) | ((with_reducible refine args_nil' ?_))) | ((with_reducible show Kp _ _ ∧ _); first | ((with_reducible refine kp_and kp_blt ?_))) | ((with_reducible show Part _ _ _ _ _ _); first | ((with_reducible refine part_some ?_))) | ((with_reducible show ∃ _, V.int _ = V.int _ ∧ _); first | ((with_reducible refine int_ex ?_))) | fail)
      all_goals first
        | exact ⟨rfl, rfl, rfl⟩
    have e3 : ((List.range held.length).map fun k => V.bool (decide ((held.drop k).take sg.length = sg))) = ((List.range held.length).map fun k => decide ((held.drop k).take sg.length = sg)).map V.bool := by rw [List.map_map]; rfl
    rw [e3]
    clear e3
    intro Dc
    try dsimp only [List.cons_append, List.nil_append]
    have hany : ((List.range held.length).map fun k => decide ((held.drop k).take sg.length = sg)).any id = inS held sg := by rw [List.any_map]; rfl
    repeat' (first | ((with_reducible show Cal _ _ _ _ _ _ _); first | ((with_reducible refine any_boolsE (by first | k_dflt (assumption) | fail) (by first | (k_dflt ((first | (refine' Or.inl ?lm; (case lm => (with_reducible_and_instances repeat (first | exact List.Mem.head _ | apply List.Mem.tail)))) | exact LA.base (by assumption))); done) | fail) (by first | k_dflt (assumption) | fail) ?_))) | ((with_reducible show Then _ _ _ _ _ _ _); first | ((with_reducible refine then_ret ?_))) | ((with_reducible show Args _ _ _ _ _ _); first | ((with_reducible refine args_nil' ?_))) | fail)
    all_goals first | (refine' hTr (ob2 := []) ?fp ?fe0 ?fe1; (case fp => (with_reducible repeat (first | exact Picks.nil | (apply Picks.cons; (focus (with_reducible repeat (first | exact Pick.head | apply Pick.tail))))))); (case fe0 => rfl); (case fe1 => rfl))
  case c1 => exact rfl
  case c2 => exact rfl
  case c3 => exact rfl
end Mine
end
section
open PySem PySem.W PyProof.Rows PySem.Spec PySem.Calls
set_option pp.maxSteps 600
namespace Mine
set_option maxHeartbeats 4000000
theorem gw_N {g : G} (HG : GK g) {kd : Bool} {t d : Addr} {it : V} {l held : List Nat} {r : List (List Nat)} {e : Bool} {nz : Int} {i p i2 p2 m : Nat} {o o2 : Option (List Nat)} (hl : l.length ≤ 1000) (hnz : nz ≤ 1000) (hnz0 : -1000 ≤ nz) (H0 : TkZ l r e i o p) (hm : gwM (inS held) nz.toNat r = m) (hb : m < r.length ∨ e = false ∧ nz.toNat ≤ m) (H2 : TkZ l (r.drop m) e i2 o2 p2) : FnE g 86 [.ref t, .int nz, .str held] 5 false (.str (r.take m).flatten) [(t, .inst 133 d), (d, .dct (tokE it (ptV kd l) l ((i2 : Nat) : Int) (ovV o2)))] [(t, .inst 133 d), (d, .dct (tokE it (ptV kd l) l ((i : Nat) : Int) (ovV o)))] := by
  subst hm
  exact gwN (gw_A HG hl hnz hnz0 H0) (hb.imp (fun h => h) fun h => ⟨h.1, fun _ => h.2⟩) H2
theorem gw_Z {g : G} (HG : GK g) {kd : Bool} {t d : Addr} {it : V} {l held : List Nat} {r : List (List Nat)} {e : Bool} {nz : Int} {i p i2 p2 m : Nat} {o o2 : Option (List Nat)} (hl : l.length ≤ 1000) (hnz : nz ≤ 1000) (hnz0 : -1000 ≤ nz) (H0 : TkZ l r e i o p) (hm : gwM (inS held) nz.toNat r = m) (he : e = true) (hr : m = r.length) (H2 : TkZ l (r.drop (m - 1)) e i2 o2 p2) : FnZ g 86 [.ref t, .int nz, .str held] 5 false 41 badE l (ptV kd l) ((l.length : Int) - 1) [(t, .inst 133 d), (d, .dct (tokE it (ptV kd l) l ((i2 : Nat) : Int) (ovV o2)))] [(t, .inst 133 d), (d, .dct (tokE it (ptV kd l) l ((i : Nat) : Int) (ovV o)))] := by
  subst hm
  exact gwZ (gw_A HG hl hnz hnz0 H0) he hr H2
theorem gw_T {g : G} (HG : GK g) {kd : Bool} {t d : Addr} {it : V} {l held : List Nat} {r : List (List Nat)} {e : Bool} {nz : Int} {i p i2 p2 m : Nat} {o o2 : Option (List Nat)} (hl : l.length ≤ 1000) (hnz : nz ≤ 1000) (hnz0 : -1000 ≤ nz) (H0 : TkZ l r e i o p) (hm : gwM (inS held) nz.toNat r = m) (he : e = false) (hr : m = r.length) (hn : m < nz.toNat) (H2 : TkZ l (r.drop m) e i2 o2 p2) : FnT g 86 [.ref t, .int nz, .str held] 5 false [(t, .inst 133 d), (d, .dct (tokE it (ptV kd l) l ((i2 : Nat) : Int) (ovV o2)))] [(t, .inst 133 d), (d, .dct (tokE it (ptV kd l) l ((i : Nat) : Int) (ovV o)))] := by
  subst hm
  exact gwT (gw_A HG hl hnz hnz0 H0) he hr hn rfl H2
theorem got_N : ∀ {g : G} (HG : GK g) {kd : Bool} {t d : Addr} {it : V} {l held : List Nat} {r : List (List Nat)} {e : Bool} {nz : Int} {i p i2 p2 m : Nat} {o o2 : Option (List Nat)} (hl : l.length ≤ 1000) (hnz : nz ≤ 1000) (hnz0 : -1000 ≤ nz) (H0 : TkZ l r e i o p) (hm : gwM (inS held) nz.toNat r = m) (hb : m < r.length ∨ e = false ∧ nz.toNat ≤ m) (H2 : TkZ l (r.drop m) e i2 o2 p2), FnE g 175 [.ref t, .int nz, .str held] 6 false (.str (r.take m).flatten) ([(t, .inst 133 d), (d, .dct (tokE it (ptV kd l) l ((i2 : Nat) : Int) (ovV o2)))]) ([(t, .inst 133 d), (d, .dct (tokE it (ptV kd l) l ((i : Nat) : Int) (ovV o)))]) := by
  k_fill
  intro g HG kd t d it l held r e nz i p i2 p2 m o o2 hl hnz hnz0 H0 hm hb H2
  have H := HG.tk
  have hp := HG.hp
  have hK := HG.hK
  skip
  refine FnC.forget ?_
  refine' fn_intro (pn := [Str.ofString "t", Str.ofString "n", Str.ofString "held"]) (lo0 := [some (.ref t), some (.int nz), some (.str held), none, none, none, none]) (X := fun _ _ _ => False) ?ho ?hcd ?hb ?hpn ?hlo ?hloc ?hnd ?hcell leaves_never ?h ?c1 ?c2 ?c3
  case ho => rw [hK]; k_is
  case hcd => rw [hK]; k_is
  case hb => intro s' cas' X' hv'; obtain ⟨c1', c2', c3', rfl, h1', h2', h3'⟩ := VRs3 hv'; first | exact BindsTo.of_eq rfl | (rw [hK] at X'; exact binds_K X' rfl (by k_is) rfl rfl rfl)
  case hpn => decide
  case hlo => rfl
  case hloc => decide
  case hnd => decide
  case hcell => decide
  case h =>
    intro c ok hg henv hns hns' hcv hd hhq
    subst hg
    dsimp only at hns hns'
    have hh := hhq rfl
    skip
    refine fnq_G ?_
    intro TQ hTr hTn
    repeat' (first | ((with_reducible show W _ FR (exec (Stmt.Try _ _ _ _ _) _) _ _ _ _); first | (refine S_TryX (by assumption) (by assumption) ?_)) | ((with_reducible show Cal _ _ _ _ _ _ _); first | ((refine cal_E (by first | k_dflt (assumption) | fail) (by first | (k_dflt ((with_reducible repeat (first | exact Picks.nil | (apply Picks.cons; (focus (with_reducible repeat (first | exact Pick.head | apply Pick.tail))))))); done) | fail) (gw_N (by assumption) (by first | k_dflt (assumption) | fail) (by first | k_dflt (assumption) | fail) (by first | k_dflt (assumption) | fail) (by first | k_dflt (assumption) | fail) (by first | k_dflt (assumption) | fail) (by first | k_dflt (assumption) | fail) (by first | k_dflt (assumption) | fail)) (by first | (k_dflt ((with_reducible repeat (first | exact App.nil | apply App.cons))); done) | fail) (by first | (k_dflt (((try dsimp only); omega)); done) | fail) (by first | (k_dflt (first | exact .inl rfl | exact .inr (by assumption)); done) | fail) ?_))) | ((with_reducible show Then _ _ _ _ _ _ _); first | ((with_reducible refine then_ret ?_))) | ((with_reducible show W _ FR (execs _ _) _ _ _ _); first | ((with_reducible refine S_cons ?_))) | ((with_reducible show W _ VR (eval (Expr.Name _ _) _) _ _ _ _); first | ((with_reducible refine W_local (by first | k_dflt (assumption) | fail) (by first | k_dflt (assumption) | fail) (by first | k_dflt (assumption) | fail) (by first | (k_dflt ((with_reducible repeat (first | exact Has.here | apply Has.there))); done) | fail) ?_))) | ((with_reducible show W _ VR (eval (Expr.Call (Expr.Attribute _ _ _) _ _ _) _) _ _ _ _); first | (refine W_Method (by assumption) (by rfl) ?_)) | ((with_reducible show W _ FR (exec (Stmt.Return (some _) _) _) _ _ _ _); first | ((with_reducible refine S_Return ?_))) | ((with_reducible show Args _ _ _ _ _ _); first | ((with_reducible refine args_cons' ?_)) | ((with_reducible refine args_nil' ?_))) | ((with_reducible show Kp _ _ ∧ _); first | ((with_reducible refine kp_met (by first | k_dflt (assumption) | fail) (by first | (k_dflt ((with_reducible_and_instances repeat (first | exact List.Mem.head _ | apply List.Mem.tail))); done) | fail) ?_))) | ((with_reducible show GetM _ _ _ _ _ _ _); first | ((with_reducible refine getm_tk (by first | k_dflt (assumption) | fail) (by first | k_dflt (assumption) | fail) (by first | (k_dflt ((with_reducible_and_instances repeat (first | exact List.Mem.head _ | apply List.Mem.tail))); done) | fail) (by first | (k_dflt ((with_reducible_and_instances repeat (first | exact List.Mem.head _ | apply List.Mem.tail))); done) | fail) (by first | (k_dflt ((with_reducible_and_instances repeat (first | exact List.Mem.head _ | apply List.Mem.tail))); done) | fail) (by first | (k_dflt ((repeat (first | with_reducible exact NoEnt.nil | (with_reducible apply NoEnt.cons; (focus decide))))); done) | fail) ?_))) | fail)
    all_goals first | (refine' hTr (ob2 := [(t, .inst 133 d), (d, .dct _)]) ?fp ?fe0 ?fe1; (case fp => (with_reducible repeat (first | exact Picks.nil | (apply Picks.cons; (focus (with_reducible repeat (first | exact Pick.head | apply Pick.tail))))))); (case fe0 => rfl); (case fe1 => rfl))
  case c1 => exact rfl
  case c2 => exact rfl
  case c3 => exact rfl
theorem got_T : ∀ {g : G} (HG : GK g) {kd : Bool} {t d : Addr} {it : V} {l held : List Nat} {r : List (List Nat)} {e : Bool} {nz : Int} {i p i2 p2 m : Nat} {o o2 : Option (List Nat)} (hl : l.length ≤ 1000) (hnz : nz ≤ 1000) (hnz0 : -1000 ≤ nz) (H0 : TkZ l r e i o p) (hm : gwM (inS held) nz.toNat r = m) (he : e = false) (hr : m = r.length) (hn : m < nz.toNat) (H2 : TkZ l (r.drop m) e i2 o2 p2), FnE g 175 [.ref t, .int nz, .str held] 6 false (.str [97, 32, 84, 121, 112, 101, 69, 114, 114, 111, 114]) ([(t, .inst 133 d), (d, .dct (tokE it (ptV kd l) l ((i2 : Nat) : Int) (ovV o2)))]) ([(t, .inst 133 d), (d, .dct (tokE it (ptV kd l) l ((i : Nat) : Int) (ovV o)))]) := by
  k_fill
  intro g HG kd t d it l held r e nz i p i2 p2 m o o2 hl hnz hnz0 H0 hm he hr hn H2
  have H := HG.tk
  have hp := HG.hp
  have hK := HG.hK
  skip
  refine FnC.forget ?_
  refine' fn_intro (pn := [Str.ofString "t", Str.ofString "n", Str.ofString "held"]) (lo0 := [some (.ref t), some (.int nz), some (.str held), none, none, none, none]) (X := fun _ _ _ => False) ?ho ?hcd ?hb ?hpn ?hlo ?hloc ?hnd ?hcell leaves_never ?h ?c1 ?c2 ?c3
  case ho => rw [hK]; k_is
  case hcd => rw [hK]; k_is
  case hb => intro s' cas' X' hv'; obtain ⟨c1', c2', c3', rfl, h1', h2', h3'⟩ := VRs3 hv'; first | exact BindsTo.of_eq rfl | (rw [hK] at X'; exact binds_K X' rfl (by k_is) rfl rfl rfl)
  case hpn => decide
  case hlo => rfl
  case hloc => decide
  case hnd => decide
  case hcell => decide
  case h =>
    intro c ok hg henv hns hns' hcv hd hhq
    subst hg
    dsimp only at hns hns'
    have hh := hhq rfl
    skip
    refine fnq_G ?_
    intro TQ hTr hTn
    repeat' (first | ((with_reducible show Hdls _ _ _ _ _ _ _); first | ((with_reducible refine hdls_bltT (by first | k_dflt (assumption) | fail) (by first | k_dflt (assumption) | fail) (by first | (k_dflt ((with_reducible_and_instances repeat (first | exact List.Mem.head _ | apply List.Mem.tail))); done) | fail) (by first | k_dflt (assumption) | fail) (by first | (k_dflt ((with_reducible repeat (first | exact InN.here | apply InN.there))); done) | fail) (by first | (k_dflt ((with_reducible_and_instances repeat (first | exact List.Mem.head _ | apply List.Mem.tail))); done) | fail) (by first | (k_dflt (first | exact GK.ex0 (by assumption) | exact GK.ex1 (by assumption) | exact GK.ex2 (by assumption) | exact GK.ex3 (by assumption)); done) | fail) ?_); intro _)) | ((with_reducible show W _ FR (exec (Stmt.Try _ _ _ _ _) _) _ _ _ _); first | (refine S_TryX (by assumption) (by assumption) ?_)) | ((with_reducible show Cal _ _ _ _ _ _ _); first | ((refine cal_T (by first | k_dflt (assumption) | fail) (by first | (k_dflt ((with_reducible repeat (first | exact Picks.nil | (apply Picks.cons; (focus (with_reducible repeat (first | exact Pick.head | apply Pick.tail))))))); done) | fail) (gw_T (by assumption) (by first | k_dflt (assumption) | fail) (by first | k_dflt (assumption) | fail) (by first | k_dflt (assumption) | fail) (by first | k_dflt (assumption) | fail) (by first | k_dflt (assumption) | fail) (by first | k_dflt (assumption) | fail) (by first | k_dflt (assumption) | fail) (by first | k_dflt (assumption) | fail) (by first | k_dflt (assumption) | fail)) (by first | (k_dflt ((with_reducible repeat (first | exact App.nil | apply App.cons))); done) | fail) (by first | (k_dflt (((try dsimp only); omega)); done) | fail) (by first | (k_dflt (first | exact .inl rfl | exact .inr (by assumption)); done) | fail) ?_); intro _)) | ((with_reducible show Then _ _ _ _ _ _ _); first | ((with_reducible refine then_ret ?_))) | ((with_reducible show W _ FR (execs _ _) _ _ _ _); first | ((with_reducible refine S_cons ?_))) | ((with_reducible show W _ VR (eval (Expr.Name _ _) _) _ _ _ _); first | ((with_reducible refine W_local (by first | k_dflt (assumption) | fail) (by first | k_dflt (assumption) | fail) (by first | k_dflt (assumption) | fail) (by first | (k_dflt ((with_reducible repeat (first | exact Has.here | apply Has.there))); done) | fail) ?_))) | ((with_reducible show W _ VR (eval (Expr.Constant (Const.str _) _ _) _) _ _ _ _); first | ((with_reducible refine W_str lit13 ?_))) | ((with_reducible show W _ VR (eval (Expr.Call (Expr.Attribute _ _ _) _ _ _) _) _ _ _ _); first | (refine W_Method (by assumption) (by rfl) ?_)) | ((with_reducible show W _ FR (exec (Stmt.Return (some _) _) _) _ _ _ _); first | ((with_reducible refine S_Return ?_))) | ((with_reducible show Args _ _ _ _ _ _); first | ((with_reducible refine args_cons' ?_)) | ((with_reducible refine args_nil' ?_))) | ((with_reducible show Kp _ _ ∧ _); first | ((with_reducible refine kp_met (by first | k_dflt (assumption) | fail) (by first | (k_dflt ((with_reducible_and_instances repeat (first | exact List.Mem.head _ | apply List.Mem.tail))); done) | fail) ?_))) | ((with_reducible show GetM _ _ _ _ _ _ _); first | ((with_reducible refine getm_tk (by first | k_dflt (assumption) | fail) (by first | k_dflt (assumption) | fail) (by first | (k_dflt ((with_reducible_and_instances repeat (first | exact List.Mem.head _ | apply List.Mem.tail))); done) | fail) (by first | (k_dflt ((with_reducible_and_instances repeat (first | exact List.Mem.head _ | apply List.Mem.tail))); done) | fail) (by first | (k_dflt ((with_reducible_and_instances repeat (first | exact List.Mem.head _ | apply List.Mem.tail))); done) | fail) (by first | (k_dflt ((repeat (first | with_reducible exact NoEnt.nil | (with_reducible apply NoEnt.cons; (focus decide))))); done) | fail) ?_))) | fail)
    all_goals first | (refine' hTr (ob2 := [(t, .inst 133 d), (d, .dct _)]) ?fp ?fe0 ?fe1; (case fp => (with_reducible repeat (first | exact Picks.nil | (apply Picks.cons; (focus (with_reducible repeat (first | exact Pick.head | apply Pick.tail))))))); (case fe0 => rfl); (case fe1 => rfl))
  case c1 => exact rfl
  case c2 => exact rfl
  case c3 => exact rfl
theorem got_Z : ∀ {g : G} (HG : GK g) {kd : Bool} {t d : Addr} {it : V} {l held : List Nat} {r : List (List Nat)} {e : Bool} {nz : Int} {i p i2 p2 m : Nat} {o o2 : Option (List Nat)} (hl : l.length ≤ 1000) (hnz : nz ≤ 1000) (hnz0 : -1000 ≤ nz) (H0 : TkZ l r e i o p) (hm : gwM (inS held) nz.toNat r = m) (he : e = true) (hr : m = r.length) (H2 : TkZ l (r.drop (m - 1)) e i2 o2 p2), FnN g 175 [.ref t, .int nz, .str held] 6 false (fun D => (D, .list [.str badE, ptV kd l, .int ((l.length : Int) - 1), .int (lnN l ((l.length : Int) - 1)), .int (coN l ((l.length : Int) - 1)), .str (wordsN badE l ((l.length : Int) - 1))]) :: [(t, .inst 133 d), (d, .dct (tokE it (ptV kd l) l ((i2 : Nat) : Int) (ovV o2)))]) ([(t, .inst 133 d), (d, .dct (tokE it (ptV kd l) l ((i : Nat) : Int) (ovV o)))]) := by
  k_fill
  intro g HG kd t d it l held r e nz i p i2 p2 m o o2 hl hnz hnz0 H0 hm he hr H2
  have H := HG.tk
  have hp := HG.hp
  have hK := HG.hK
  have HP := HG.px
  refine FnC.forget ?_
  refine' fn_intro (pn := [Str.ofString "t", Str.ofString "n", Str.ofString "held"]) (lo0 := [some (.ref t), some (.int nz), some (.str held), none, none, none, none]) (X := fun _ _ _ => False) ?ho ?hcd ?hb ?hpn ?hlo ?hloc ?hnd ?hcell leaves_never ?h ?c1 ?c2 ?c3
  case ho => rw [hK]; k_is
  case hcd => rw [hK]; k_is
  case hb => intro s' cas' X' hv'; obtain ⟨c1', c2', c3', rfl, h1', h2', h3'⟩ := VRs3 hv'; first | exact BindsTo.of_eq rfl | (rw [hK] at X'; exact binds_K X' rfl (by k_is) rfl rfl rfl)
  case hpn => decide
  case hlo => rfl
  case hloc => decide
  case hnd => decide
  case hcell => decide
  case h =>
    intro c ok hg henv hns hns' hcv hd hhq
    subst hg
    dsimp only at hns hns'
    have hh := hhq rfl
    skip
    repeat' (first | ((with_reducible show Cal _ _ _ _ _ _ _); first | ((refine cal_N (by first | k_dflt (assumption) | fail) (by first | (k_dflt ((with_reducible repeat (first | exact Picks.nil | (apply Picks.cons; (focus (with_reducible repeat (first | exact Pick.head | apply Pick.tail))))))); done) | fail) (told_F (by assumption) (by first | (k_dflt (exact handed_ptV _ _); done) | fail)) (by first | (k_dflt ((intro _; (with_reducible repeat (first | exact App.nil | apply App.cons)))); done) | fail) (by first | (k_dflt (((try dsimp only); omega)); done) | fail) (by first | (k_dflt (first | exact .inl rfl | exact .inr (by assumption)); done) | fail) ?_); intro _)) | ((with_reducible show Exists _); first | ((with_reducible refine unput (by first | (k_dflt ((with_reducible repeat (first | exact Put.here | apply Put.there))); done) | fail) ?_))) | ((with_reducible show Hdls _ _ _ _ _ _ _); first | ((with_reducible refine hdls_bltN (by first | k_dflt (assumption) | fail) (by first | k_dflt (assumption) | fail) (by first | (k_dflt ((with_reducible_and_instances repeat (first | exact List.Mem.head _ | apply List.Mem.tail))); done) | fail) (by first | k_dflt (assumption) | fail) (by first | (k_dflt ((with_reducible repeat (first | exact InN.here | apply InN.there))); done) | fail) (by first | (k_dflt ((with_reducible_and_instances repeat (first | exact List.Mem.head _ | apply List.Mem.tail))); done) | fail) (by first | (k_dflt (first | exact GK.ex0 (by assumption) | exact GK.ex1 (by assumption) | exact GK.ex2 (by assumption) | exact GK.ex3 (by assumption)); done) | fail) ?_)) | ((with_reducible refine hdls_asT (by first | k_dflt (assumption) | fail) (by first | k_dflt (assumption) | fail) (by first | (k_dflt ((with_reducible_and_instances repeat (first | exact List.Mem.head _ | apply List.Mem.tail))); done) | fail) (by first | k_dflt (assumption) | fail) (by first | (k_dflt ((with_reducible repeat (first | exact InN.here | apply InN.there))); done) | fail) (by first | (k_dflt ((with_reducible_and_instances repeat (first | exact List.Mem.head _ | apply List.Mem.tail))); done) | fail) (by first | (k_dflt (first | exact GK.ex0 (by assumption) | exact GK.ex1 (by assumption) | exact GK.ex2 (by assumption) | exact GK.ex3 (by assumption)); done) | fail) (by first | k_dflt (assumption) | fail) (by first | (k_dflt ((with_reducible repeat (first | exact Put.here | apply Put.there))); done) | fail) ?_); intro _)) | ((with_reducible show W _ FR (exec (Stmt.Try _ _ _ _ _) _) _ _ _ _); first | (refine S_TryX (by assumption) (by assumption) ?_)) | ((with_reducible show Cal _ _ _ _ _ _ _); first | ((refine cal_Z (by first | k_dflt (assumption) | fail) (by first | (k_dflt ((with_reducible repeat (first | exact Picks.nil | (apply Picks.cons; (focus (with_reducible repeat (first | exact Pick.head | apply Pick.tail))))))); done) | fail) (gw_Z (by assumption) (by first | k_dflt (assumption) | fail) (by first | k_dflt (assumption) | fail) (by first | k_dflt (assumption) | fail) (by first | k_dflt (assumption) | fail) (by first | k_dflt (assumption) | fail) (by first | k_dflt (assumption) | fail) (by first | k_dflt (assumption) | fail) (by first | k_dflt (assumption) | fail)) (by first | (k_dflt ((with_reducible repeat (first | exact App.nil | apply App.cons))); done) | fail) (by first | (k_dflt (((try dsimp only); omega)); done) | fail) (by first | (k_dflt (first | exact .inl rfl | exact .inr (by assumption)); done) | fail) ?_); intro _ _ _)) | ((with_reducible show Then _ _ _ _ _ _ _); first | ((with_reducible refine then_ret ?_))) | ((with_reducible show W _ FR (execs _ _) _ _ _ _); first | ((with_reducible refine S_cons ?_))) | ((with_reducible show W _ VR (eval (Expr.Name _ _) _) _ _ _ _); first | ((with_reducible refine W_local (by first | k_dflt (assumption) | fail) (by first | k_dflt (assumption) | fail) (by first | k_dflt (assumption) | fail) (by first | (k_dflt ((with_reducible repeat (first | exact Has.here | apply Has.there))); done) | fail) ?_)) | ((with_reducible refine W_globT (by first | k_dflt (assumption) | fail) (by first | k_dflt (assumption) | fail) (by first | k_dflt (assumption) | fail) (by first | (k_dflt ((with_reducible repeat (first | exact InN.here | apply InN.there))); done) | fail) (by first | (k_dflt ((with_reducible_and_instances repeat (first | exact List.Mem.head _ | apply List.Mem.tail))); done) | fail) ?_))) | ((with_reducible show W _ VR (eval (Expr.Call (Expr.Attribute _ _ _) _ _ _) _) _ _ _ _); first | (refine W_Method (by assumption) (by rfl) ?_)) | ((with_reducible show W _ VR (eval (Expr.Call _ _ _ _) _) _ _ _ _); first | (refine W_Call (by assumption) (by rfl) ?_)) | ((with_reducible show W _ FR (exec (Stmt.Return (some _) _) _) _ _ _ _); first | ((with_reducible refine S_Return ?_))) | ((with_reducible show Args _ _ _ _ _ _); first | ((with_reducible refine args_cons' ?_)) | ((with_reducible refine args_nil' ?_))) | ((with_reducible show FnQ _ _ _ _); first | ((with_reducible refine fnq_ret ?_))) | ((with_reducible show Kp _ _ ∧ _); first | ((with_reducible refine kp_met (by first | k_dflt (assumption) | fail) (by first | (k_dflt ((with_reducible_and_instances repeat (first | exact List.Mem.head _ | apply List.Mem.tail))); done) | fail) ?_)) | ((with_reducible refine kp_fun (by first | k_dflt (assumption) | fail) (by first | (k_dflt ((with_reducible_and_instances repeat (first | exact List.Mem.head _ | apply List.Mem.tail))); done) | fail) ?_))) | ((with_reducible show GetM _ _ _ _ _ _ _); first | ((with_reducible refine getm_tk (by first | k_dflt (assumption) | fail) (by first | k_dflt (assumption) | fail) (by first | (k_dflt ((with_reducible_and_instances repeat (first | exact List.Mem.head _ | apply List.Mem.tail))); done) | fail) (by first | (k_dflt ((with_reducible_and_instances repeat (first | exact List.Mem.head _ | apply List.Mem.tail))); done) | fail) (by first | (k_dflt ((with_reducible_and_instances repeat (first | exact List.Mem.head _ | apply List.Mem.tail))); done) | fail) (by first | (k_dflt ((repeat (first | with_reducible exact NoEnt.nil | (with_reducible apply NoEnt.cons; (focus decide))))); done) | fail) ?_))) | fail)
    all_goals first | ((refine' frg_intro (ob2 := [(_, .list _), (t, .inst 133 d), (d, .dct _)]) ?fp ⟨_, ?fe1, ?fe2⟩; (case fp => (with_reducible repeat (first | exact Picks.nil | (apply Picks.cons; (focus (with_reducible repeat (first | exact Pick.head | apply Pick.tail))))))); (case fe1 => rfl); (case fe2 => rfl)))
  case c1 => exact rfl
  case c2 => exact rfl
  case c3 => exact rfl
end Mine
end
section
open PySem PySem.W PyProof.Rows PySem.Spec PySem.Calls
set_option pp.maxSteps 600
namespace Mine
set_option maxHeartbeats 4000000
theorem ne_lists_sameE {c : Cx} {lo : Loc} {ob : Obs} {X : QT Addr} {Q : QT V} {a b : Addr} {vs : List V} (ok : c.Ok) (ha : LA c ob a vs) (hb : LA c ob b vs) (hp : ∀ v ∈ vs, plainE v = true) (hq : Q (.bool false) lo ob) : Cmp c .NotEq (.ref a) (.ref b) Q X lo ob := ne_lists ok ha hb (eqds_sameE hp) hq
theorem plain6 {kd : Bool} {l a e : List Nat} {b c d : Int} : ∀ v ∈ [V.str a, ptV kd l, .int b, .int c, .int d, .str e], plainE v = true := plE_cons rfl (plE_cons (plainE_pt _ _) (plE_cons rfl (plE_cons rfl (plE_cons rfl (plE_cons rfl plE_nil)))))
noncomputable def h7 (n : Int) : Nat := (([97, 98, 92, 10] : List Nat)[((n.fdiv 6).fmod 4).toNat]?).getD 97
theorem h7_at {n : Int} {k : Nat} (h : ([97, 98, 92, 10] : List Nat)[((n.fdiv 6).fmod 4).toNat]? = some k) : h7 n = k := by unfold h7; rw [h]; rfl
theorem within_FE {g : G} (HG : GK g) {sg held : List Nat} {b : Bool} (hz : sg.length ≤ 1000) (hz2 : held.length ≤ 1000) (hb : inS held sg = b) : FnE g 180 [.str sg, .str held] 2 false (.bool b) [] [] := by
  rw [← hb]; exact within_F HG hz hz2
theorem foo.tw10022485099498871751 : True := trivial
theorem foo.tw10097005361643366465 : True := trivial
theorem foo.tw10097539129564150843 : True := trivial
theorem foo.tw1016671252738018014 : True := trivial
theorem foo.tw10310037075775163506 : True := trivial
theorem foo.tw1037349176149368450 : True := trivial
theorem foo.tw10451676316882569414 : True := trivial
theorem foo.tw1074119734065116133 : True := trivial
theorem foo.tw10770292345842204335 : True := trivial
theorem foo.tw1080880000500474601 : True := trivial
theorem foo.tw10866948721167520707 : True := trivial
theorem foo.tw10938032098268605346 : True := trivial
theorem foo.tw10948738895171610045 : True := trivial
theorem foo.tw11017345308013960805 : True := trivial
theorem foo.tw11036330825754772319 : True := trivial
theorem foo.tw1109723691018134658 : True := trivial
theorem foo.tw11142461148937797997 : True := trivial
theorem foo.tw11186114382353195034 : True := trivial
theorem foo.tw11209501878236600864 : True := trivial
theorem foo.tw11298715273078181981 : True := trivial
theorem foo.tw11352898547901355579 : True := trivial
theorem foo.tw11386922953315151786 : True := trivial
theorem foo.tw11443786045317791909 : True := trivial
theorem foo.tw11446118267405841776 : True := trivial
theorem foo.tw11646945487508354568 : True := trivial
theorem foo.tw11652482244532871972 : True := trivial
theorem foo.tw11794184030298946434 : True := trivial
theorem foo.tw11843775829622824878 : True := trivial
theorem foo.tw12006702765268746468 : True := trivial
theorem foo.tw12006856370315935368 : True := trivial
theorem foo.tw1200756448864583526 : True := trivial
theorem foo.tw12127193685355938278 : True := trivial
theorem foo.tw12163980603468085676 : True := trivial
theorem foo.tw12171835598476595794 : True := trivial
theorem foo.tw12234066986138305474 : True := trivial
theorem foo.tw12344086754277315276 : True := trivial
theorem foo.tw12349625005785565218 : True := trivial
theorem foo.tw1235459320133948145 : True := trivial
theorem foo.tw12395397343702224208 : True := trivial
theorem foo.tw12571057981616755787 : True := trivial
theorem foo.tw12714717432496519840 : True := trivial
theorem foo.tw12961790467584200890 : True := trivial
theorem foo.tw12969481155462997565 : True := trivial
theorem foo.tw13068338326789843482 : True := trivial
theorem foo.tw13083867326458092372 : True := trivial
theorem foo.tw130948693363598414 : True := trivial
theorem foo.tw13103392882492170080 : True := trivial
theorem foo.tw13144038236007381786 : True := trivial
theorem foo.tw1314992582023402428 : True := trivial
theorem foo.tw13263495093597273408 : True := trivial
theorem foo.tw1328187910447469090 : True := trivial
theorem foo.tw13297647583958355242 : True := trivial
theorem foo.tw13329470163717923002 : True := trivial
theorem foo.tw13392407980006332856 : True := trivial
theorem foo.tw13505452048529174365 : True := trivial
theorem foo.tw13529053271147044102 : True := trivial
theorem foo.tw13532794825348995094 : True := trivial
theorem foo.tw13558857231053953965 : True := trivial
theorem foo.tw1356769082595281998 : True := trivial
theorem foo.tw13787113266151754854 : True := trivial
theorem foo.tw13820644412705967804 : True := trivial
theorem foo.tw13916123133634052110 : True := trivial
theorem foo.tw14076598488134079947 : True := trivial
theorem foo.tw14196921858409056705 : True := trivial
theorem foo.tw14258606519749422420 : True := trivial
theorem foo.tw14363740458002796202 : True := trivial
theorem foo.tw14675207840273821738 : True := trivial
theorem foo.tw14842722902485635813 : True := trivial
theorem foo.tw1486272848089930681 : True := trivial
theorem foo.tw14870917859817751073 : True := trivial
theorem foo.tw15001251723248720709 : True := trivial
theorem foo.tw15004415711006145508 : True := trivial
theorem foo.tw15108152898077083625 : True := trivial
theorem foo.tw15131038890671889929 : True := trivial
theorem foo.tw15194661741693054796 : True := trivial
theorem foo.tw15240207009417315492 : True := trivial
theorem foo.tw1526556895226699078 : True := trivial
theorem foo.tw15265838187547017459 : True := trivial
theorem foo.tw15357113405826562725 : True := trivial
theorem foo.tw1537556644230187577 : True := trivial
theorem foo.tw15384393330465695638 : True := trivial
theorem foo.tw15398955780145963916 : True := trivial
theorem foo.tw1548533429323039483 : True := trivial
theorem foo.tw15568290409803661028 : True := trivial
theorem foo.tw15736036241054589828 : True := trivial
theorem foo.tw15738016191248903263 : True := trivial
theorem foo.tw15887093355103095 : True := trivial
theorem foo.tw15978942623843719523 : True := trivial
theorem foo.tw16031160413759196435 : True := trivial
theorem foo.tw16056465489541511186 : True := trivial
theorem foo.tw16172968905292776896 : True := trivial
theorem foo.tw16177674459010633502 : True := trivial
theorem foo.tw1618417064115235911 : True := trivial
theorem foo.tw16307185996088303967 : True := trivial
theorem foo.tw16324772576992860021 : True := trivial
theorem foo.tw16460156385064890771 : True := trivial
theorem foo.tw16489274584638595533 : True := trivial
theorem foo.tw16514546211477557815 : True := trivial
theorem foo.tw16678773140052989214 : True := trivial
theorem foo.tw1670144740754654987 : True := trivial
theorem foo.tw16821941043546641612 : True := trivial
theorem foo.tw16966399348799405013 : True := trivial
theorem foo.tw17093204462429229276 : True := trivial
theorem foo.tw1718085909952192726 : True := trivial
theorem foo.tw17214868770192748008 : True := trivial
theorem foo.tw1729314833788332055 : True := trivial
theorem foo.tw17458935304139952525 : True := trivial
theorem foo.tw17601543946044647703 : True := trivial
theorem foo.tw17708784537907809340 : True := trivial
theorem foo.tw1775497039077454007 : True := trivial
theorem foo.tw17911153668259566601 : True := trivial
theorem foo.tw17931839681116214792 : True := trivial
theorem foo.tw18073561193696769209 : True := trivial
theorem foo.tw18075614545994591518 : True := trivial
theorem foo.tw18292517752408091497 : True := trivial
theorem foo.tw18376392915684570105 : True := trivial
theorem foo.tw1841690421059938227 : True := trivial
theorem foo.tw1941312566720927424 : True := trivial
theorem foo.tw1981127123174680043 : True := trivial
theorem foo.tw2037439859804477008 : True := trivial
theorem foo.tw214265351079562907 : True := trivial
theorem foo.tw2229961354326908342 : True := trivial
theorem foo.tw2232377302128692689 : True := trivial
theorem foo.tw2290843828412858874 : True := trivial
theorem foo.tw2447712900056993702 : True := trivial
theorem foo.tw2504445928594881806 : True := trivial
theorem foo.tw258534013641876602 : True := trivial
theorem foo.tw2682375504728343610 : True := trivial
theorem foo.tw2756833907540984844 : True := trivial
theorem foo.tw278364586380164323 : True := trivial
theorem foo.tw280225419030353964 : True := trivial
theorem foo.tw2831133629908172489 : True := trivial
theorem foo.tw2969521670562883747 : True := trivial
theorem foo.tw3010579844978533959 : True := trivial
theorem foo.tw3028644031619864800 : True := trivial
theorem foo.tw3034574426959332707 : True := trivial
theorem foo.tw3047585915196321357 : True := trivial
theorem foo.tw3069808905387305959 : True := trivial
theorem foo.tw307013089711254402 : True := trivial
theorem foo.tw3172731079033385755 : True := trivial
theorem foo.tw3212640889070571058 : True := trivial
theorem foo.tw3351634108361224472 : True := trivial
theorem foo.tw3380656814864886894 : True := trivial
theorem foo.tw3658096308902462089 : True := trivial
theorem foo.tw3843120465417484609 : True := trivial
theorem foo.tw3913797144588478351 : True := trivial
theorem foo.tw3961005642023715957 : True := trivial
theorem foo.tw3990607420564047954 : True := trivial
theorem foo.tw4009188466911924198 : True := trivial
theorem foo.tw4010813255796744723 : True := trivial
theorem foo.tw4027072999679905249 : True := trivial
theorem foo.tw4061790431157916028 : True := trivial
theorem foo.tw4125921603128447519 : True := trivial
theorem foo.tw4147683599205193516 : True := trivial
theorem foo.tw418127157886481063 : True := trivial
theorem foo.tw4190877847710680199 : True := trivial
theorem foo.tw4432652777788460725 : True := trivial
theorem foo.tw4440333500097068099 : True := trivial
theorem foo.tw4459789449563801253 : True := trivial
theorem foo.tw4518373742808077254 : True := trivial
theorem foo.tw4537039990259483153 : True := trivial
theorem foo.tw4601787237152598293 : True := trivial
theorem foo.tw4610182962399979142 : True := trivial
theorem foo.tw4640049137377893699 : True := trivial
theorem foo.tw4640438452840253657 : True := trivial
theorem foo.tw4657101274466296987 : True := trivial
theorem foo.tw4703299732133212925 : True := trivial
theorem foo.tw4754604070007886754 : True := trivial
theorem foo.tw4767807355081175557 : True := trivial
theorem foo.tw4831236293814347312 : True := trivial
theorem foo.tw4884249121832242295 : True := trivial
theorem foo.tw4931959166666412283 : True := trivial
theorem foo.tw5082925955655083236 : True := trivial
theorem foo.tw5121609851402718312 : True := trivial
theorem foo.tw5153559302771321351 : True := trivial
theorem foo.tw5238297344718462494 : True := trivial
theorem foo.tw5445597206274402377 : True := trivial
theorem foo.tw5596222990960904588 : True := trivial
theorem foo.tw5627963881991747822 : True := trivial
theorem foo.tw5718169551596029400 : True := trivial
theorem foo.tw5793244329336294605 : True := trivial
theorem foo.tw5796655904154395905 : True := trivial
theorem foo.tw5940804565182186120 : True := trivial
theorem foo.tw5957473489150337962 : True := trivial
theorem foo.tw608533318941429862 : True := trivial
theorem foo.tw6092720450337637537 : True := trivial
theorem foo.tw6138896549897904723 : True := trivial
theorem foo.tw6144400058602324087 : True := trivial
theorem foo.tw6235066794282853225 : True := trivial
theorem foo.tw6340770184028460479 : True := trivial
theorem foo.tw6625754572541645640 : True := trivial
theorem foo.tw6744949409736016380 : True := trivial
theorem foo.tw6788704202716206259 : True := trivial
theorem foo.tw6793114771528242435 : True := trivial
theorem foo.tw6886754158919963282 : True := trivial
theorem foo.tw6901384805434850004 : True := trivial
theorem foo.tw6912275549173876988 : True := trivial
theorem foo.tw7120004001661495034 : True := trivial
theorem foo.tw7174726165134588594 : True := trivial
theorem foo.tw7239658087913385467 : True := trivial
theorem foo.tw7511001990056991597 : True := trivial
theorem foo.tw7897650638706062100 : True := trivial
theorem foo.tw7917778197681456559 : True := trivial
theorem foo.tw7947605134582968381 : True := trivial
theorem foo.tw8020024179481272418 : True := trivial
theorem foo.tw8031144205667628501 : True := trivial
theorem foo.tw8123765081582517116 : True := trivial
theorem foo.tw8210871272691591234 : True := trivial
theorem foo.tw829175662816935092 : True := trivial
theorem foo.tw830697218026192098 : True := trivial
theorem foo.tw8333486284571976423 : True := trivial
theorem foo.tw8372715006718396668 : True := trivial
theorem foo.tw8475308357370990330 : True := trivial
theorem foo.tw8518513307030267677 : True := trivial
theorem foo.tw8632522477610620788 : True := trivial
theorem foo.tw8653830171332730054 : True := trivial
theorem foo.tw8654111537854245494 : True := trivial
theorem foo.tw8658118795749040047 : True := trivial
theorem foo.tw9005134306500587113 : True := trivial
theorem foo.tw9109093040521901 : True := trivial
theorem foo.tw9379426446615284420 : True := trivial
theorem foo.tw9404073032843511270 : True := trivial
theorem foo.tw9419470054497838417 : True := trivial
theorem foo.tw9461060981986935151 : True := trivial
theorem foo.tw954544073716613909 : True := trivial
theorem foo.tw9554840192802064573 : True := trivial
theorem foo.tw963711225421326456 : True := trivial
theorem foo.tw9658379943746010117 : True := trivial
theorem foo.tw9755455895873283874 : True := trivial
theorem foo.tw9806922471203234094 : True := trivial
theorem foo.tw9811920127034666277 : True := trivial
theorem foo.tw9854892784412443425 : True := trivial
set_option Elab.async true in
theorem foo : PySem.Challenge.rw_kq0017_07.Holds := by
  refine' frK trivial trivial ?hc ?main
  case main =>
    w_on
    o_law
    k_head
    case hw => w_witness2
  k_go0
  (all_goals try k_fold)
  refine wpAny_noRaise ?_
  rename_i w s0 s1 mg mb Gz Y fa o pm doc ho hgens KX Xz Vz GL T B TE TW q9 q8 M q7 q6 hcd ns hs hlay0 hL1 hr1 hl2 w4 w3 D ws w0 hL ra ww r0 hI hr hcond1 hcond K0 hDf h1 tk1 F wc0 hwc0 N0 X0
  have hwd0 : wc0.data = .cell none := hwc0
  refine law_enterO (os0 := [(s1.heap.objs.size + 1, wc0)]) (ob0 := [(s1.heap.objs.size + 1, .raw wc0)]) (N0 := N0) (hob := .cons rfl (.nil)) (hon := by first | (simp; done) | (simp; omega)) (g := ⟨_, _, _, _, _, _, _, _, _, s1.os, s1.gens⟩) (lo0 := [some (.ref D), none, none, none, none, none, none, none, none, none, none, none, none, none, none, none, none, none, none, none, none, none, none, none, none, none, none, none]) (m := _) _ KX T rfl rfl rfl rfl ?nd F ?lr rfl rfl ?fin ?body
  case nd => dsimp only [envOfC]; decide
  case lr =>
    intro x v hx
    obtain ⟨rfl, rfl⟩ := Has.first hx rfl
    exact ⟨_, rfl, rfl⟩
  case fin =>
    intro s' hk ho' hg'
    exact ⟨.inl ⟨_, _, [], rfl, (fun _ => rfl), ReadsW.bool true, (by first | rfl | wrow_post), fun _ => ⟨List.nodup_nil, fun _ hm => (nomatch hm)⟩⟩, hk, ho', hg'.trans hgens⟩
  case body =>
    intro c ok hg henv hns hcv hd hh
    have hns' := hns
    rw [henv.symm] at hns'
    dsimp only at hns
    have hns2 : c.env.scope.names = c.ns := hns'.symm
    rw [hns] at hns2
    have hfc : c.fenv.cells = [(Str.ofString "text", s1.heap.objs.size + 1)] := by rw [← ok.fn hcv, henv]; rfl
    have hp : c.g.prog = PySem.Challenge.rw_kq0017_07.row.prog := congrArg G.prog hg
    have hK : c.g.K = Mine.fr.heap_1_39 c.g.w.params := by rw [show c.g.w = w from congrArg G.w hg]; exact congrArg G.K hg
    have HG : GK c.g := gk _ hp hK
    have H := HG.tk
    have hbase : BaseL c D (ns.map V.int) := ⟨ws, by rw [show c.g.hb = s1.heap from congrArg G.hb hg]; exact hL, vrs_ints hI⟩
    have hlen : ns.length ≤ 63 := by omega
    dsimp only [envOfC] at hns hns2
    generalize hCLe0 : s1.heap.objs.size + 1 = CL0 at *
    clear qk ek
    clear hCLe0 X0 tk1 hwc0 hns' henv hg N0 F h1 hDf K0 hcond hcond1 hr hI r0 ww ra hL w0 ws w3 w4 hl2 hr1 hL1 hlay0 hs hcd q6 q7 M q8 q9 TW TE B T GL Vz Xz KX hgens ho doc pm o fa Y Gz mb mg s1 s0 w
    have hB : ∃ cs, c.g.hb.IsList D cs.toArray ∧ VRs (ns.map V.int) cs := hbase
    refine S_cons ?_
    repeat' ((fail_if_success (with_reducible show W _ FR (execs (_ :: _) _) _ _ _ _)); first | ((with_reducible show Sto _ _ _ _ _ _ _); first | ((refine Sto_cell (by first | k_dflt (assumption) | fail) (by first | k_dflt (assumption) | fail) (by first | k_dflt (assumption) | fail) (by first | (k_dflt ((with_reducible repeat (first | exact InN.here | apply InN.there))); done) | fail) (by first | k_dflt (assumption) | fail) (by first | (k_dflt (exact rfl); done) | fail) (by first | (k_dflt ((with_reducible repeat (first | exact OUpd.head | apply OUpd.tail))); done) | fail) (by first | (k_dflt (first | exact cellOb_cell | exact cellOb_raw (by assumption)); done) | fail) ?_))) | ((with_reducible show Cal _ _ _ _ _ _ _); first | ((refine cal_E (by first | k_dflt (assumption) | fail) (by first | (k_dflt ((with_reducible repeat (first | exact Picks.nil | (apply Picks.cons; (focus (with_reducible repeat (first | exact Pick.head | apply Pick.tail))))))); done) | fail) (pat_F (by assumption) (by first | k_dflt (assumption) | fail) (by first | (k_dflt (omega); done) | fail)) (by first | (k_dflt ((with_reducible repeat (first | exact App.nil | apply App.cons))); done) | fail) (by first | (k_dflt (((try dsimp only); omega)); done) | fail) (by first | (k_dflt (first | exact .inl rfl | exact .inr (by assumption)); done) | fail) ?_))) | ((with_reducible show Then _ _ _ _ _ _ _); first | ((with_reducible refine then_next ?_))) | ((with_reducible show W _ VR (eval (Expr.Name _ _) _) _ _ _ _); first | ((with_reducible refine W_local (by first | k_dflt (assumption) | fail) (by first | k_dflt (assumption) | fail) (by first | k_dflt (assumption) | fail) (by first | (k_dflt ((with_reducible repeat (first | exact Has.here | apply Has.there))); done) | fail) ?_)) | ((with_reducible refine W_globT (by first | k_dflt (assumption) | fail) (by first | k_dflt (assumption) | fail) (by first | k_dflt (assumption) | fail) (by first | (k_dflt ((with_reducible repeat (first | exact InN.here | apply InN.there))); done) | fail) (by first | (k_dflt ((with_reducible_and_instances repeat (first | exact List.Mem.head _ | apply List.Mem.tail))); done) | fail) ?_))) | ((with_reducible show W _ VR (eval (Expr.Constant (Const.int _) _ _) _) _ _ _ _); first | ((with_reducible refine W_int ?_))) | ((with_reducible show W _ VR (eval (Expr.Call _ _ _ _) _) _ _ _ _); first | (refine W_Call (by assumption) (by rfl) ?_)) | ((with_reducible show W _ FR (exec (Stmt.Assign [Expr.Name _ _] _ _) _) _ _ _ _); first | (refine S_Assign ?_)) | ((with_reducible show Args _ _ _ _ _ _); first | ((with_reducible refine args_cons' ?_)) | ((with_reducible refine args_nil' ?_))) | ((with_reducible show Kp _ _ ∧ _); first | ((with_reducible refine kp_fun (by first | k_dflt (assumption) | fail) (by first | (k_dflt ((with_reducible_and_instances repeat (first | exact List.Mem.head _ | apply List.Mem.tail))); done) | fail) ?_))) | fail)
    have hz0 := ptx_len (k := 7) (ns := ns)
    have hc8 := ptx_low (k := 7) (ns := ns)
    have hno := ptx_no (k := 7) (ns := ns) (by decide)
    have hne : ptx 7 ns ≠ [] := List.append_ne_nil_of_right_ne_nil _ (List.cons_ne_nil _ _)
    generalize ptx 7 ns = l at *
    have hl1 : l.length ≤ 1000 := Nat.le_trans hz0 (by decide)
    have hl5 : l.length ≤ 100000 := Nat.le_trans hz0 (by decide)
    clear hB
    refine S_cons ?_
    repeat' ((fail_if_success (with_reducible show W _ FR (execs (_ :: _) _) _ _ _ _)); first | ((with_reducible show W _ VR (eval (Expr.Name _ _) _) _ _ _ _); first | ((refine W_cellv (by first | k_dflt (assumption) | fail) (by first | k_dflt (assumption) | fail) (by first | (k_dflt ((with_reducible repeat (first | exact InN.here | apply InN.there))); done) | fail) (by first | k_dflt (assumption) | fail) (by first | (k_dflt (exact rfl); done) | fail) (by first | (k_dflt ((with_reducible_and_instances repeat (first | exact List.Mem.head _ | apply List.Mem.tail))); done) | fail) ?_))) | ((with_reducible show Then _ _ _ _ _ _ _); first | ((with_reducible refine then_next ?_))) | ((with_reducible show W _ VR (eval (Expr.Name _ _) _) _ _ _ _); first | ((with_reducible refine W_bltT (by first | k_dflt (assumption) | fail) (by first | k_dflt (assumption) | fail) (by first | k_dflt (assumption) | fail) (by first | (k_dflt ((with_reducible repeat (first | exact InN.here | apply InN.there))); done) | fail) (by first | (k_dflt ((with_reducible_and_instances repeat (first | exact List.Mem.head _ | apply List.Mem.tail))); done) | fail) ?_))) | ((with_reducible show W _ VR (eval (Expr.Call _ _ _ _) _) _ _ _ _); first | (refine W_Call (by assumption) (by rfl) ?_)) | ((with_reducible show W _ FR (exec (Stmt.Assign [Expr.Name _ _] _ _) _) _ _ _ _); first | (refine S_Assign ?_)) | ((with_reducible show Cal _ _ _ _ _ _ _); first | ((with_reducible refine len_str (by first | (k_dflt ((first | assumption | omega | decide | (simp only [List.length_append, List.length_cons, List.length_nil, List.length_drop, List.length_take, List.length_map]; omega) | (simp only [List.length_append, List.length_cons, List.length_nil, List.length_drop, List.length_take, List.length_map] at *; omega))); done) | fail) ?_))) | ((with_reducible show Args _ _ _ _ _ _); first | ((with_reducible refine args_cons' ?_)) | ((with_reducible refine args_nil' ?_))) | ((with_reducible show Kp _ _ ∧ _); first | ((with_reducible refine kp_and kp_blt ?_))) | ((with_reducible show Sto _ _ _ _ _ _ _); first | ((with_reducible refine Sto_local (by first | k_dflt (assumption) | fail) (by first | k_dflt (assumption) | fail) (by first | k_dflt (assumption) | fail) (by first | (k_dflt ((with_reducible repeat (first | exact Put.here | apply Put.there))); done) | fail) ?_))) | fail)
    refine S_cons ?_
    have ecut : cut (ns.map V.int) none (some 6) = (ns.take 6).map V.int := cut_ns_map (k := 6)
    repeat' ((fail_if_success (with_reducible show W _ FR (execs (_ :: _) _) _ _ _ _)); first | ((with_reducible show Cut _ _ _ _ _ _ _ _ _ _); first | ((refine cut_listE (by first | (k_dflt ((first | (refine' Or.inl ?lm; (case lm => (with_reducible_and_instances repeat (first | exact List.Mem.head _ | apply List.Mem.tail)))) | exact LA.base (by assumption))); done) | fail) (by first | k_dflt (assumption) | fail) (by first | (k_dflt ((first | assumption | omega | decide | (simp only [List.length_append, List.length_cons, List.length_nil, List.length_drop, List.length_take, List.length_map]; omega) | (simp only [List.length_append, List.length_cons, List.length_nil, List.length_drop, List.length_take, List.length_map] at *; omega))); done) | fail) ?_); intro _)) | ((with_reducible show W _ VR (eval (Expr.ListComp _ _ _ _) _) _ _ _ _); first | ((refine W_CompK (by first | k_dflt (assumption) | fail) (by first | k_dflt (assumption) | fail) (by first | k_dflt (assumption) | fail) (by first | (k_dflt ((repeat (first | with_reducible exact Closes.nil | with_reducible apply Closes.loc | with_reducible apply Closes.glob | (apply Closes.cell (by (with_reducible repeat (first | exact InN.here | apply InN.there))) (by rfl))))); done) | fail) (by first | (k_dflt (decide); done) | fail) (by first | (k_dflt (exact rfl); done) | fail) (by first | (k_dflt (decide); done) | fail) (by first | (k_dflt (exact rfl); done) | fail) (by first | (k_dflt (decide); done) | fail) ?_))) | ((with_reducible show W _ VR (eval (Expr.Name _ _) _) _ _ _ _); first | ((with_reducible refine W_local (by first | k_dflt (assumption) | fail) (by first | k_dflt (assumption) | fail) (by first | k_dflt (assumption) | fail) (by first | (k_dflt ((with_reducible repeat (first | exact Has.here | apply Has.there))); done) | fail) ?_))) | ((with_reducible show W _ VR (eval (Expr.Constant (Const.int _) _ _) _) _ _ _ _); first | ((with_reducible refine W_int ?_))) | ((with_reducible show W _ VR (eval (Expr.Constant (Const.str _) _ _) _) _ _ _ _); first | ((with_reducible refine W_str lit0 ?_))) | ((with_reducible show W _ VR (eval (Expr.Call (Expr.Attribute _ _ _) _ _ _) _) _ _ _ _); first | (refine W_Method (by assumption) (by rfl) ?_)) | ((with_reducible show W _ VR (eval (Expr.Subscript _ (Expr.Slice _ _ none _) _) _) _ _ _ _); first | (refine W_Slice ?_)) | ((with_reducible show W _ FR (exec (Stmt.Assign [Expr.Name _ _] _ _) _) _ _ _ _); first | (refine S_Assign ?_)) | ((with_reducible show Args _ _ _ _ _ _); first | ((with_reducible refine args_cons' ?_))) | ((with_reducible show Kp _ _ ∧ _); first | ((with_reducible refine kp_and kp_blt ?_))) | ((with_reducible show Part _ _ _ _ _ _); first | ((with_reducible refine part_none ?_)) | ((with_reducible refine part_some ?_))) | ((with_reducible show ∃ _, V.int _ = V.int _ ∧ _); first | ((with_reducible refine int_ex ?_))) | ((with_reducible show GetM _ _ _ _ _ _ _); first | (with_reducible refine getm_str PySem.F.slot_str_join PySem.F.type_str_join ?_)) | ((with_reducible show CompF _ _ _ _ _ _ _ _ _); first | ((refine compF (Itr_list (by first | k_dflt (assumption) | fail) (by first | (k_dflt ((with_reducible repeat (first | exact Picks.nil | (apply Picks.cons; (focus (with_reducible repeat (first | exact Pick.head | apply Pick.tail))))))); done) | fail)) (by first | (k_dflt ((first | assumption | omega | decide | (simp only [List.length_append, List.length_cons, List.length_nil, List.length_drop, List.length_take, List.length_map]; omega) | (simp only [List.length_append, List.length_cons, List.length_nil, List.length_drop, List.length_take, List.length_map] at *; omega))); done) | fail) ?_))) | fail)
    refine CompE.mapkF (fun n => V.str [h7 n]) (fun n hn c2 ok2 hg2 hn2 hcv2 hd2 hB2 hfe2 => ?_) ?_
    · have H2 : GK c2.g := by rw [hg2]; exact HG
      have H3 := H2.tk
      have hh2 : c2.B.handled = none := by rw [hB2]; exact hh
      have h1 := fmod_lo (n.fdiv 6) (n := 4) (by decide)
      have h2 := fmod_hi (n.fdiv 6) (n := 4) (by decide)
      try dsimp only at hn2
      repeat' (first | ((with_reducible show Op2 _ _ _ _ _ _ _ _); first | ((with_reducible refine fdiv_ints (by first | (k_dflt ((first | assumption | omega | decide | (simp only [List.length_append, List.length_cons, List.length_nil, List.length_drop, List.length_take, List.length_map]; omega) | (simp only [List.length_append, List.length_cons, List.length_nil, List.length_drop, List.length_take, List.length_map] at *; omega))); done) | fail) (by first | (k_dflt ((first | assumption | omega | decide | (simp only [List.length_append, List.length_cons, List.length_nil, List.length_drop, List.length_take, List.length_map]; omega) | (simp only [List.length_append, List.length_cons, List.length_nil, List.length_drop, List.length_take, List.length_map] at *; omega))); done) | fail) ?_))) | ((with_reducible show W _ VR (eval (Expr.Name _ _) _) _ _ _ _); first | ((with_reducible refine W_comp (by first | k_dflt (assumption) | fail) (by first | k_dflt (assumption) | fail) (by first | k_dflt (assumption) | fail) (by first | (k_dflt ((with_reducible repeat (first | exact InN.here | apply InN.there))); done) | fail) (by first | (k_dflt ((with_reducible_and_instances repeat (first | exact List.Mem.head _ | apply List.Mem.tail))); done) | fail) ?_))) | ((with_reducible show W _ VR (eval (Expr.Constant (Const.int _) _ _) _) _ _ _ _); first | ((with_reducible refine W_int ?_))) | ((with_reducible show W _ VR (eval (Expr.Constant (Const.str _) _ _) _) _ _ _ _); first | ((with_reducible refine W_str lit14 ?_))) | ((with_reducible show W _ VR (eval (Expr.BinOp _ _ _ _) _) _ _ _ _); first | ((with_reducible refine W_BinOp ?_))) | ((with_reducible show W _ VR (eval (Expr.Subscript _ _ _) _) _ _ _ _); first | (refine W_Sub ?_)) | ((with_reducible show Op2 _ _ _ _ _ _ _ _); first | ((with_reducible refine mod_ints (by first | (k_dflt ((first | assumption | omega | decide | (simp only [List.length_append, List.length_cons, List.length_nil, List.length_drop, List.length_take, List.length_map]; omega) | (simp only [List.length_append, List.length_cons, List.length_nil, List.length_drop, List.length_take, List.length_map] at *; omega))); done) | fail) ?_))) | ((with_reducible show Sub2 _ _ _ _ _ _ _ _ _); first | ((refine sub_str (by assumption) (by omega) (by omega) ?_ ?_); (focus (intro _ _)); rotate_left; (focus (intro _; first | (exfalso; exact stepA_bad (by assumption) (by assumption) (by assumption) (by assumption)) | (exfalso; exact run_outA (by assumption) (by assumption)) | intro _)); rotate_right)) | fail)
      all_goals first
        | (refine ⟨?_, rfl, rfl⟩
           with_reducible rename getElem? _ _ = some _ => hk
           rw [h7_at hk])
        | (with_reducible rename getElem? _ _ = none => hk
           rw [List.getElem?_eq_none_iff] at hk
           simp only [List.length_cons, List.length_nil] at hk
           omega)
    have e2 : (ns.take 6).map (fun n => V.str [h7 n]) = ((ns.take 6).map h7).map fun k => V.str [k] := by rw [List.map_map]; rfl
    rw [e2]
    have hh0 : ((ns.take 6).map h7).length ≤ 1000 := by rw [List.length_map]; exact Nat.le_trans (List.length_take_le _ _) (by decide)
    generalize (ns.take 6).map h7 = held at *
    clear e2 ecut
    intro Dc
    try dsimp only [List.cons_append, List.nil_append]
    repeat' ((fail_if_success (with_reducible show W _ FR (execs (_ :: _) _) _ _ _ _)); first | ((with_reducible show Then _ _ _ _ _ _ _); first | ((with_reducible refine then_next ?_))) | ((with_reducible show Cal _ _ _ _ _ _ _); first | ((with_reducible refine join_signs' (by first | (k_dflt ((first | (refine' Or.inl ?lm; (case lm => (with_reducible_and_instances repeat (first | exact List.Mem.head _ | apply List.Mem.tail)))) | exact LA.base (by assumption))); done) | fail) (by first | (k_dflt ((first | assumption | omega | decide | (simp only [List.length_append, List.length_cons, List.length_nil, List.length_drop, List.length_take, List.length_map]; omega) | (simp only [List.length_append, List.length_cons, List.length_nil, List.length_drop, List.length_take, List.length_map] at *; omega))); done) | fail) ?_))) | ((with_reducible show Args _ _ _ _ _ _); first | ((with_reducible refine args_nil' ?_))) | ((with_reducible show Sto _ _ _ _ _ _ _); first | ((with_reducible refine Sto_local (by first | k_dflt (assumption) | fail) (by first | k_dflt (assumption) | fail) (by first | k_dflt (assumption) | fail) (by first | (k_dflt ((with_reducible repeat (first | exact Put.here | apply Put.there))); done) | fail) ?_))) | fail)
    obtain ⟨ss, e, hg, hsp, hfl⟩ := sgs_split l
    have hss : ss.length ≤ 900 := by
      have := sgs_len l
      rw [hsp, List.length_append] at this
      omega
    have hsne := sgs_lone hfl hno
    have hsl := sgs_len l
    refine S_cons ?_
    have hst : ((startsTo l l.length).map fun (k : Nat) => V.int (k : Int)).length ≤ 1000 := by
      rw [List.length_map]
      exact Nat.le_trans (startsTo_length l l.length) hl1
    repeat' ((fail_if_success (with_reducible show W _ FR (execs (_ :: _) _) _ _ _ _)); first | ((with_reducible show Op2 _ _ _ _ _ _ _ _); first | ((with_reducible refine add_lists (by first | (k_dflt ((with_reducible_and_instances repeat (first | exact List.Mem.head _ | apply List.Mem.tail))); done) | fail) (by first | (k_dflt ((with_reducible_and_instances repeat (first | exact List.Mem.head _ | apply List.Mem.tail))); done) | fail) (by first | (k_dflt ((first | assumption | omega | decide | (simp only [List.length_append, List.length_cons, List.length_nil, List.length_drop, List.length_take, List.length_map]; omega) | (simp only [List.length_append, List.length_cons, List.length_nil, List.length_drop, List.length_take, List.length_map] at *; omega))); done) | fail) ?_); intro _)) | ((with_reducible show W _ VR (eval (Expr.Name _ _) _) _ _ _ _); first | ((refine W_cellv (by first | k_dflt (assumption) | fail) (by first | k_dflt (assumption) | fail) (by first | (k_dflt ((with_reducible repeat (first | exact InN.here | apply InN.there))); done) | fail) (by first | k_dflt (assumption) | fail) (by first | (k_dflt (exact rfl); done) | fail) (by first | (k_dflt ((with_reducible_and_instances repeat (first | exact List.Mem.head _ | apply List.Mem.tail))); done) | fail) ?_))) | ((with_reducible show Cal _ _ _ _ _ _ _); first | ((refine cal_N (by first | k_dflt (assumption) | fail) (by first | (k_dflt ((with_reducible repeat (first | exact Picks.nil | (apply Picks.cons; (focus (with_reducible repeat (first | exact Pick.head | apply Pick.tail))))))); done) | fail) (starts_F (by assumption) (by first | k_dflt (assumption) | fail)) (by first | (k_dflt ((intro _; (with_reducible repeat (first | exact App.nil | apply App.cons)))); done) | fail) (by first | (k_dflt (((try dsimp only); omega)); done) | fail) (by first | (k_dflt (first | exact .inl rfl | exact .inr (by assumption)); done) | fail) ?_); intro _)) | ((with_reducible show Then _ _ _ _ _ _ _); first | ((with_reducible refine then_next ?_))) | ((with_reducible show W _ VR (eval (Expr.Name _ _) _) _ _ _ _); first | ((with_reducible refine W_local (by first | k_dflt (assumption) | fail) (by first | k_dflt (assumption) | fail) (by first | k_dflt (assumption) | fail) (by first | (k_dflt ((with_reducible repeat (first | exact Has.here | apply Has.there))); done) | fail) ?_)) | ((with_reducible refine W_globT (by first | k_dflt (assumption) | fail) (by first | k_dflt (assumption) | fail) (by first | k_dflt (assumption) | fail) (by first | (k_dflt ((with_reducible repeat (first | exact InN.here | apply InN.there))); done) | fail) (by first | (k_dflt ((with_reducible_and_instances repeat (first | exact List.Mem.head _ | apply List.Mem.tail))); done) | fail) ?_))) | ((with_reducible show W _ VR (eval (Expr.Call _ _ _ _) _) _ _ _ _); first | (refine W_Call (by assumption) (by rfl) ?_)) | ((with_reducible show W _ VR (eval (Expr.BinOp _ _ _ _) _) _ _ _ _); first | ((with_reducible refine W_BinOp ?_))) | ((with_reducible show W _ VR (eval (Expr.List _ _) _) _ _ _ _); first | (refine W_List (by rfl) ?_)) | ((with_reducible show W _ FR (exec (Stmt.Assign [Expr.Name _ _] _ _) _) _ _ _ _); first | (refine S_Assign ?_)) | ((with_reducible show Args _ _ _ _ _ _); first | ((with_reducible refine args_cons' ?_)) | ((with_reducible refine args_nil' ?_))) | ((with_reducible show Kp _ _ ∧ _); first | ((with_reducible refine kp_fun (by first | k_dflt (assumption) | fail) (by first | (k_dflt ((with_reducible_and_instances repeat (first | exact List.Mem.head _ | apply List.Mem.tail))); done) | fail) ?_))) | ((with_reducible show _ ≤ _ ∧ _); first | ((with_reducible refine disp (by first | (k_dflt ((first | assumption | omega | decide | (simp only [List.length_append, List.length_cons, List.length_nil, List.length_drop, List.length_take, List.length_map]; omega) | (simp only [List.length_append, List.length_cons, List.length_nil, List.length_drop, List.length_take, List.length_map] at *; omega))); done) | fail) ?_); intro _)) | ((with_reducible show Sto _ _ _ _ _ _ _); first | ((with_reducible refine Sto_local (by first | k_dflt (assumption) | fail) (by first | k_dflt (assumption) | fail) (by first | k_dflt (assumption) | fail) (by first | (k_dflt ((with_reducible repeat (first | exact Put.here | apply Put.there))); done) | fail) ?_))) | fail)
    have ecu : ((startsTo l l.length).map fun (k : Nat) => V.int (k : Int)) ++ [V.int (l.length : Int)] = (plc (sgs l)).map fun (k : Nat) => V.int (k : Int) := by
      rw [← starts_cuts, List.map_append]; rfl
    rw [ecu]
    clear ecu hst
    have hP5 : ((plc (sgs l)).map fun (k : Nat) => V.int (k : Int)).length ≤ 100000 := by
      rw [List.length_map, plc_len]
      omega
    refine S_cons ?_
    have ecut : cut ((plc (sgs l)).map fun (k : Nat) => V.int (k : Int)) (some 1) none = ((plc (sgs l)).drop 1).map fun (k : Nat) => V.int (k : Int) := la_from (k := 1)
    repeat' ((fail_if_success (with_reducible show W _ FR (execs (_ :: _) _) _ _ _ _)); first | ((with_reducible show Cut _ _ _ _ _ _ _ _ _ _); first | ((refine cut_listE (by first | (k_dflt ((first | (refine' Or.inl ?lm; (case lm => (with_reducible_and_instances repeat (first | exact List.Mem.head _ | apply List.Mem.tail)))) | exact LA.base (by assumption))); done) | fail) (by first | k_dflt (assumption) | fail) (by first | (k_dflt ((first | assumption | omega | decide | (simp only [List.length_append, List.length_cons, List.length_nil, List.length_drop, List.length_take, List.length_map]; omega) | (simp only [List.length_append, List.length_cons, List.length_nil, List.length_drop, List.length_take, List.length_map] at *; omega))); done) | fail) ?_); intro _)) | ((with_reducible show Cal _ _ _ _ _ _ _); first | ((with_reducible refine cal_zip (by first | (k_dflt ((with_reducible_and_instances repeat (first | exact List.Mem.head _ | apply List.Mem.tail))); done) | fail) (by first | (k_dflt ((with_reducible_and_instances repeat (first | exact List.Mem.head _ | apply List.Mem.tail))); done) | fail) ?_); intro _ _ _ _ _ _ _ _ _)) | ((with_reducible show W _ FR (exec (Stmt.Assign [Expr.Name _ _] (Expr.ListComp _ [Comprehension.mk (Expr.Tuple _ _ _) _ _ _] _ _) _) _) _ _ _ _); first | ((refine S_AssignCompTC (by first | k_dflt (assumption) | fail) (by first | k_dflt (assumption) | fail) (by first | k_dflt (assumption) | fail) (by first | k_dflt (assumption) | fail) (by first | (k_dflt ((with_reducible repeat (first | exact NamesE.nil | apply NamesE.cons))); done) | fail) (by first | (k_dflt ((repeat (first | with_reducible exact Closes.nil | with_reducible apply Closes.loc | with_reducible apply Closes.glob | (apply Closes.cell (by (with_reducible repeat (first | exact InN.here | apply InN.there))) (by rfl))))); done) | fail) (by first | (k_dflt (decide); done) | fail) (by first | (k_dflt (decide); done) | fail) (by first | (k_dflt (exact rfl); done) | fail) (by first | (k_dflt (decide); done) | fail) (by first | (k_dflt (decide); done) | fail) (by first | (k_dflt (decide); done) | fail) (by first | (k_dflt (exact rfl); done) | fail) (by first | (k_dflt (exact rfl); done) | fail) (by first | (k_dflt (decide); done) | fail) ?_))) | ((with_reducible show W _ VR (eval (Expr.Name _ _) _) _ _ _ _); first | ((with_reducible refine W_local (by first | k_dflt (assumption) | fail) (by first | k_dflt (assumption) | fail) (by first | k_dflt (assumption) | fail) (by first | (k_dflt ((with_reducible repeat (first | exact Has.here | apply Has.there))); done) | fail) ?_)) | ((with_reducible refine W_bltT (by first | k_dflt (assumption) | fail) (by first | k_dflt (assumption) | fail) (by first | k_dflt (assumption) | fail) (by first | (k_dflt ((with_reducible repeat (first | exact InN.here | apply InN.there))); done) | fail) (by first | (k_dflt ((with_reducible_and_instances repeat (first | exact List.Mem.head _ | apply List.Mem.tail))); done) | fail) ?_))) | ((with_reducible show W _ VR (eval (Expr.Constant (Const.int _) _ _) _) _ _ _ _); first | ((with_reducible refine W_int ?_))) | ((with_reducible show W _ VR (eval (Expr.Call _ _ _ _) _) _ _ _ _); first | (refine W_Call (by assumption) (by rfl) ?_)) | ((with_reducible show W _ VR (eval (Expr.Subscript _ (Expr.Slice _ _ none _) _) _) _ _ _ _); first | (refine W_Slice ?_)) | ((with_reducible show Args _ _ _ _ _ _); first | ((with_reducible refine args_cons' ?_)) | ((with_reducible refine args_nil' ?_))) | ((with_reducible show Kp _ _ ∧ _); first | ((with_reducible refine kp_and kp_type ?_))) | ((with_reducible show Part _ _ _ _ _ _); first | ((with_reducible refine part_none ?_)) | ((with_reducible refine part_some ?_))) | ((with_reducible show ∃ _, V.int _ = V.int _ ∧ _); first | ((with_reducible refine int_ex ?_))) | fail)
    rename_i q1' q2'
    refine' compFT (Itr_zip hh q1' q2' ?ip) ?rr ?iz ?_
    case ip => (with_reducible repeat (first | exact Picks.nil | (apply Picks.cons; (focus (with_reducible repeat (first | exact Pick.head | apply Pick.tail))))))
    case rr =>
      intro r hr
      obtain ⟨p, _, rfl⟩ := List.mem_map.mp hr
      rfl
    case iz =>
      rw [List.length_map, List.length_zip]
      exact Nat.le_trans (Nat.min_le_left _ _) hP5
    rw [zip_ints]
    refine CompT.mapF (fun p => V.str ((l.drop p.1).take (p.2 - p.1))) (fun p hp c2 ok2 hg2 hn2 hcv2 hd2 hB2 hfe2 => ?_) ?_
    · have H2 : GK c2.g := by rw [hg2]; exact HG
      have H3 := H2.tk
      have hh2 : c2.B.handled = none := by rw [hB2]; exact hh
      have hfc2 := (congrArg Env.cells hfe2).trans hfc
      try dsimp only at hn2
      replace hcv2 : c2.cv = some [(Str.ofString "p", V.int (p.1 : Int)), (Str.ofString "q", V.int (p.2 : Int))] := hcv2
      have ha0 : (0 : Int) ≤ (p.1 : Int) := Int.natCast_nonneg _
      have hb0 : (0 : Int) ≤ (p.2 : Int) := Int.natCast_nonneg _
      have hek : (l.drop ((p.1 : Nat) : Int).toNat).take (((p.2 : Nat) : Int).toNat - ((p.1 : Nat) : Int).toNat) = (l.drop p.1).take (p.2 - p.1) := rfl
      repeat' (first | ((with_reducible show Cut _ _ _ _ _ _ _ _ _ _); first | ((refine cut_str_ssE (by first | k_dflt (assumption) | fail) (by first | k_dflt (assumption) | fail) (by first | k_dflt (assumption) | fail) (by first | k_dflt (assumption) | fail) ?_))) | ((with_reducible show W _ VR (eval (Expr.Name _ _) _) _ _ _ _); first | ((refine W_cellv (by first | k_dflt (assumption) | fail) (by first | k_dflt (assumption) | fail) (by first | (k_dflt ((with_reducible repeat (first | exact InN.here | apply InN.there))); done) | fail) (by first | k_dflt (assumption) | fail) (by first | (k_dflt (exact rfl); done) | fail) (by first | (k_dflt ((with_reducible_and_instances repeat (first | exact List.Mem.head _ | apply List.Mem.tail))); done) | fail) ?_))) | ((with_reducible show W _ VR (eval (Expr.Name _ _) _) _ _ _ _); first | ((with_reducible refine W_comp (by first | k_dflt (assumption) | fail) (by first | k_dflt (assumption) | fail) (by first | k_dflt (assumption) | fail) (by first | (k_dflt ((with_reducible repeat (first | exact InN.here | apply InN.there))); done) | fail) (by first | (k_dflt ((with_reducible_and_instances repeat (first | exact List.Mem.head _ | apply List.Mem.tail))); done) | fail) ?_))) | ((with_reducible show W _ VR (eval (Expr.Subscript _ (Expr.Slice _ _ none _) _) _) _ _ _ _); first | (refine W_Slice ?_)) | ((with_reducible show Part _ _ _ _ _ _); first | ((with_reducible refine part_some ?_))) | ((with_reducible show ∃ _, V.int _ = V.int _ ∧ _); first | ((with_reducible refine int_ex ?_))) | fail)
      all_goals first
        | exact ⟨rfl, rfl, rfl⟩
    have e3 : ((plc (sgs l)).zip (plc (sgs l)).tail).map (fun p => V.str ((l.drop p.1).take (p.2 - p.1))) = (sgs l).map V.str := by
      have := congrArg (List.map V.str) (zip_sgs l)
      rw [List.map_map] at this
      exact this
    rw [e3]
    clear e3 ecut
    intro Dz
    try dsimp only [List.cons_append, List.nil_append]
    repeat' ((fail_if_success (with_reducible show W _ FR (execs (_ :: _) _) _ _ _ _)); first | ((with_reducible show Then _ _ _ _ _ _ _); first | ((with_reducible refine then_next ?_))) | ((with_reducible show Sto _ _ _ _ _ _ _); first | ((with_reducible refine Sto_local (by first | k_dflt (assumption) | fail) (by first | k_dflt (assumption) | fail) (by first | k_dflt (assumption) | fail) (by first | (k_dflt ((with_reducible repeat (first | exact Put.here | apply Put.there))); done) | fail) ?_))) | fail)
    obtain ⟨sl, hlast, hlone⟩ := lone_last hne hsp hg
    have hS5 : ((sgs l).map V.str).length ≤ 100000 := by
      rw [List.length_map]
      omega
    refine S_cons ?_
    repeat' ((fail_if_success (with_reducible show W _ FR (execs (_ :: _) _) _ _ _ _)); first | ((with_reducible show Sub2 _ _ _ _ _ _ _ _ _); first | ((refine sub_lastE (by first | (k_dflt ((first | (refine' Or.inl ?lm; (case lm => (with_reducible_and_instances repeat (first | exact List.Mem.head _ | apply List.Mem.tail)))) | exact LA.base (by assumption))); done) | fail) (by first | k_dflt (assumption) | fail) (by first | k_dflt (assumption) | fail) ?_))) | ((with_reducible show Op2 _ _ _ _ _ _ _ _); first | ((with_reducible refine eq_strsE (by first | k_dflt (assumption) | fail) ?_))) | ((with_reducible show Then _ _ _ _ _ _ _); first | ((with_reducible refine then_next ?_))) | ((with_reducible show W _ VR (eval (Expr.Name _ _) _) _ _ _ _); first | ((with_reducible refine W_local (by first | k_dflt (assumption) | fail) (by first | k_dflt (assumption) | fail) (by first | k_dflt (assumption) | fail) (by first | (k_dflt ((with_reducible repeat (first | exact Has.here | apply Has.there))); done) | fail) ?_))) | ((with_reducible show W _ VR (eval (Expr.Constant (Const.int _) _ _) _) _ _ _ _); first | ((with_reducible refine W_int ?_))) | ((with_reducible show W _ VR (eval (Expr.Constant (Const.str _) _ _) _) _ _ _ _); first | ((with_reducible refine W_str lit1 ?_))) | ((with_reducible show W _ VR (eval (Expr.Compare _ _ _ _) _) _ _ _ _); first | (refine W_Compare ?_)) | ((with_reducible show W _ VR (eval (Expr.UnaryOp _ _ _) _) _ _ _ _); first | ((with_reducible refine W_Unary ?_))) | ((with_reducible show W _ VR (eval (Expr.Subscript _ _ _) _) _ _ _ _); first | (refine W_Sub ?_)) | ((with_reducible show W _ FR (exec (Stmt.Assign [Expr.Name _ _] _ _) _) _ _ _ _); first | (refine S_Assign ?_)) | ((with_reducible show Op1 _ _ _ _ _ _ _); first | ((with_reducible refine Mine.neg_int ?_))) | ((with_reducible show Sto _ _ _ _ _ _ _); first | ((with_reducible refine Sto_local (by first | k_dflt (assumption) | fail) (by first | k_dflt (assumption) | fail) (by first | k_dflt (assumption) | fail) (by first | (k_dflt ((with_reducible repeat (first | exact Put.here | apply Put.there))); done) | fail) ?_))) | fail)
    clear hlast hlone
    rename_i _ _ Cu _ _ _ _ _ _ _ _
    have hP : ∀ i m, i + m ≤ ss.length → ((plc (sgs l)).map fun (k : Nat) => V.int (k : Int))[i + m]? = some (V.int (((ss.take i).flatten.length + ((ss.drop i).take m).flatten.length : Nat) : Int)) := fun i m h => by
      rw [hsp]; exact plc_from h
    have hT : ∀ i, i ≤ ss.length → (e = true → i < ss.length) → ∃ ii oi, TkZ l (ss.drop i) e ii oi (ss.take i).flatten.length := fun i => tkz_at hg hfl
    generalize hPl : ((plc (sgs l)).map fun (k : Nat) => V.int (k : Int)) = Pl at *
    refine S_cutA (fun (Sg : Addr) => [some (.ref D), none, some (.int (l.length : Int)), none, some (.str held), some (.ref Cu), some (.ref Sg), some (.bool e), none, none, none, none, none, none, none, none, none, none, none, none, none, none, none, none, none, none, none, none]) (fun Sg => [(Sg, .list (ss.map V.str)), (CL0, .cell (.str l)), (Cu, .list Pl)]) ?_ ?_
    · intro TQ0 hT0
      rw [hsp] at hS5 ⊢
      clear hPl
      have ecut : cut ((ss ++ tlZ true).map V.str) none (some (-1)) = ss.map V.str := by rw [la_neg1, drop_lone]
      cases e with
      | true =>
        repeat' (first | ((with_reducible show Cut _ _ _ _ _ _ _ _ _ _); first | ((refine cut_listE (by first | (k_dflt ((first | (refine' Or.inl ?lm; (case lm => (with_reducible_and_instances repeat (first | exact List.Mem.head _ | apply List.Mem.tail)))) | exact LA.base (by assumption))); done) | fail) (by first | k_dflt (assumption) | fail) (by first | (k_dflt ((first | assumption | omega | decide | (simp only [List.length_append, List.length_cons, List.length_nil, List.length_drop, List.length_take, List.length_map]; omega) | (simp only [List.length_append, List.length_cons, List.length_nil, List.length_drop, List.length_take, List.length_map] at *; omega))); done) | fail) ?_); intro _)) | ((with_reducible show Then _ _ _ _ _ _ _); first | ((with_reducible refine then_next ?_))) | ((with_reducible show W _ FR (execs _ _) _ _ _ _); first | ((with_reducible refine S_cons ?_)) | ((with_reducible refine S_nil ?_))) | ((with_reducible show W _ VR (eval (Expr.Name _ _) _) _ _ _ _); first | ((with_reducible refine W_local (by first | k_dflt (assumption) | fail) (by first | k_dflt (assumption) | fail) (by first | k_dflt (assumption) | fail) (by first | (k_dflt ((with_reducible repeat (first | exact Has.here | apply Has.there))); done) | fail) ?_))) | ((with_reducible show W _ VR (eval (Expr.Constant (Const.int _) _ _) _) _ _ _ _); first | ((with_reducible refine W_int ?_))) | ((with_reducible show W _ VR (eval (Expr.UnaryOp _ _ _) _) _ _ _ _); first | ((with_reducible refine W_Unary ?_))) | ((with_reducible show W _ VR (eval (Expr.Subscript _ (Expr.Slice _ _ none _) _) _) _ _ _ _); first | (refine W_Slice ?_)) | ((with_reducible show W _ FR (exec (Stmt.Assign [Expr.Name _ _] _ _) _) _ _ _ _); first | (refine S_Assign ?_)) | ((with_reducible show W _ FR (exec (Stmt.If _ _ _ _) _) _ _ _ _); first | ((with_reducible refine S_If ?_))) | ((with_reducible show W _ BR (isTrue _ _ _) _ _ _ _); first | (refine T_plain rfl ?_)) | ((with_reducible show Op1 _ _ _ _ _ _ _); first | ((with_reducible refine Mine.neg_int ?_))) | ((with_reducible show Tru _ _ _ _ _ _); first | ((with_reducible refine tru_bool ?_))) | ((with_reducible show Br true _ _); first | ((with_reducible refine br_t ?_))) | ((with_reducible show Sto _ _ _ _ _ _ _); first | ((with_reducible refine Sto_local (by first | k_dflt (assumption) | fail) (by first | k_dflt (assumption) | fail) (by first | k_dflt (assumption) | fail) (by first | (k_dflt ((with_reducible repeat (first | exact Put.here | apply Put.there))); done) | fail) ?_))) | ((with_reducible show Part _ _ _ _ _ _); first | ((with_reducible refine part_none ?_)) | ((with_reducible refine part_some ?_))) | ((with_reducible show ∃ _, V.int _ = V.int _ ∧ _); first | ((with_reducible refine int_ex ?_))) | fail)
        rename_i Sz
        all_goals first
          | (refine' hT0 Sz _ _ _ ?gl ?gp; (case gl => (with_reducible repeat (first | exact LoS.nil | apply LoS.keep | apply LoS.drop))); (case gp => (with_reducible repeat (first | exact Picks.nil | (apply Picks.cons; (focus (with_reducible repeat (first | exact Pick.head | apply Pick.tail))))))))
      | false =>
        rw [show ss ++ tlZ false = ss from List.append_nil ss]
        repeat' (first | ((with_reducible show W _ FR (execs _ _) _ _ _ _); first | ((with_reducible refine S_nil ?_))) | ((with_reducible show W _ VR (eval (Expr.Name _ _) _) _ _ _ _); first | ((with_reducible refine W_local (by first | k_dflt (assumption) | fail) (by first | k_dflt (assumption) | fail) (by first | k_dflt (assumption) | fail) (by first | (k_dflt ((with_reducible repeat (first | exact Has.here | apply Has.there))); done) | fail) ?_))) | ((with_reducible show W _ FR (exec (Stmt.If _ _ _ _) _) _ _ _ _); first | ((with_reducible refine S_If ?_))) | ((with_reducible show W _ BR (isTrue _ _ _) _ _ _ _); first | (refine T_plain rfl ?_)) | ((with_reducible show Tru _ _ _ _ _ _); first | ((with_reducible refine tru_bool ?_))) | ((with_reducible show Br false _ _); first | ((with_reducible refine br_f ?_))) | fail)
        all_goals first
          | (refine' hT0 Dz _ _ _ ?gl ?gp; (case gl => (with_reducible repeat (first | exact LoS.nil | apply LoS.keep | apply LoS.drop))); (case gp => (with_reducible repeat (first | exact Picks.nil | (apply Picks.cons; (focus (with_reducible repeat (first | exact Pick.head | apply Pick.tail))))))))
    intro Sg
    clear hPl hsl hS5 hfl hsp hg hno
    refine S_cons ?_
    repeat' ((fail_if_success (with_reducible show W _ FR (execs (_ :: _) _) _ _ _ _)); first | ((with_reducible show W _ VR (eval (Expr.Name _ _) _) _ _ _ _); first | ((refine W_cellv (by first | k_dflt (assumption) | fail) (by first | k_dflt (assumption) | fail) (by first | (k_dflt ((with_reducible repeat (first | exact InN.here | apply InN.there))); done) | fail) (by first | k_dflt (assumption) | fail) (by first | (k_dflt (exact rfl); done) | fail) (by first | (k_dflt ((with_reducible_and_instances repeat (first | exact List.Mem.head _ | apply List.Mem.tail))); done) | fail) ?_))) | ((with_reducible show Cal _ _ _ _ _ _ _); first | ((refine cal_E (by first | k_dflt (assumption) | fail) (by first | (k_dflt ((with_reducible repeat (first | exact Picks.nil | (apply Picks.cons; (focus (with_reducible repeat (first | exact Pick.head | apply Pick.tail))))))); done) | fail) (octets_F (by assumption) (by first | k_dflt (assumption) | fail) (by first | k_dflt (assumption) | fail)) (by first | (k_dflt ((with_reducible repeat (first | exact App.nil | apply App.cons))); done) | fail) (by first | (k_dflt (((try dsimp only); omega)); done) | fail) (by first | (k_dflt (first | exact .inl rfl | exact .inr (by assumption)); done) | fail) ?_))) | ((with_reducible show W _ VR (eval (Expr.Name _ _) _) _ _ _ _); first | ((with_reducible refine W_globT (by first | k_dflt (assumption) | fail) (by first | k_dflt (assumption) | fail) (by first | k_dflt (assumption) | fail) (by first | (k_dflt ((with_reducible repeat (first | exact InN.here | apply InN.there))); done) | fail) (by first | (k_dflt ((with_reducible_and_instances repeat (first | exact List.Mem.head _ | apply List.Mem.tail))); done) | fail) ?_))) | ((with_reducible show W _ VR (eval (Expr.Call _ _ _ _) _) _ _ _ _); first | (refine W_Call (by assumption) (by rfl) ?_)) | ((with_reducible show W _ VR (eval (Expr.Tuple _ _ _) _) _ _ _ _); first | (refine W_Tuple (by rfl) ?_)) | ((with_reducible show W _ FR (exec (Stmt.For _ _ _ _ _) _) _ _ _ _); first | (refine S_For ?_)) | ((with_reducible show Args _ _ _ _ _ _); first | ((with_reducible refine args_cons' ?_)) | ((with_reducible refine args_nil' ?_))) | ((with_reducible show Kp _ _ ∧ _); first | ((with_reducible refine kp_fun (by first | k_dflt (assumption) | fail) (by first | (k_dflt ((with_reducible_and_instances repeat (first | exact List.Mem.head _ | apply List.Mem.tail))); done) | fail) ?_))) | ((with_reducible show _ ≤ _ ∧ _); first | ((with_reducible refine disp (by first | (k_dflt ((first | assumption | omega | decide | (simp only [List.length_append, List.length_cons, List.length_nil, List.length_drop, List.length_take, List.length_map]; omega) | (simp only [List.length_append, List.length_cons, List.length_nil, List.length_drop, List.length_take, List.length_map] at *; omega))); done) | fail) ?_); intro _)) | fail)
    refine' For_tupG (α := Unit) hh ?tE ?tp (fun _ _ => True) [some (.ref D), none, some (.int (l.length : Int)), none, some (.str held), some (.ref Cu), some (.ref Sg), some (.bool e), none, none, none, none, none, none, none, none, none, none, none, none, none, none, none, none, none, none, none, none] (fun _ => [(Sg, .list (ss.map V.str)), (CL0, .cell (.str l)), (Cu, .list Pl)]) () ?tl ?tp2 trivial ?turn ?tend
    case tE => exact passes_never
    case tp => (with_reducible repeat (first | exact Picks.nil | (apply Picks.cons; (focus (with_reducible repeat (first | exact Pick.head | apply Pick.tail))))))
    case tl => (with_reducible repeat (first | exact LoS.nil | apply LoS.keep | apply LoS.drop))
    case tp2 => (with_reducible repeat (first | exact Picks.nil | (apply Picks.cons; (focus (with_reducible repeat (first | exact Pick.head | apply Pick.tail))))))
    case tend =>
      intro _ _
      repeat' (first | ((with_reducible show Then _ _ _ _ _ _ _); first | ((with_reducible refine then_next ?_)) | ((with_reducible refine then_ret ?_))) | ((with_reducible show W _ FR (execs _ _) _ _ _ _); first | ((with_reducible refine S_cons ?_))) | ((with_reducible show W _ VR (eval (Expr.Constant (Const.bool _) _ _) _) _ _ _ _); first | ((with_reducible refine W_bool ?_))) | ((with_reducible show W _ FR (exec (Stmt.Return (some _) _) _) _ _ _ _); first | ((with_reducible refine S_Return ?_))) | fail)
      all_goals first | rfl
    case turn =>
      intro TQ0 kp v _ hv _ hT0
      obtain ⟨kd, rfl⟩ : ∃ kd, ptV kd l = v := by
        rcases List.mem_cons.mp (List.mem_of_getElem? hv) with h | h
        · exact ⟨true, h.symm⟩
        · exact ⟨false, (List.mem_singleton.mp h).symm⟩
      clear hv hc8
      obtain ⟨j, o, Hj⟩ := hT 0 (Nat.zero_le _) fun h => List.length_pos_iff.mpr (hsne h)
      have hn : nxt l 0 = some (j, o) := Hj.n
      repeat' ((fail_if_success (with_reducible show W _ FR (execs (_ :: _) _) _ _ _ _)); first | ((with_reducible show Asg _ _ _ _ _ _ _); first | ((with_reducible refine asg_name ?_))) | ((with_reducible show Sto _ _ _ _ _ _ _); first | ((with_reducible refine Sto_local (by first | k_dflt (assumption) | fail) (by first | k_dflt (assumption) | fail) (by first | k_dflt (assumption) | fail) (by first | (k_dflt ((with_reducible repeat (first | exact Put.here | apply Put.there))); done) | fail) ?_))) | fail)
      refine S_cons ?_
      repeat' ((fail_if_success (with_reducible show W _ FR (execs (_ :: _) _) _ _ _ _)); first | ((with_reducible show Cal _ _ _ _ _ _ _); first | ((refine new_K (by first | k_dflt (assumption) | fail) (by first | k_dflt (assumption) | fail) _ (by first | k_dflt (assumption) | fail) (by first | k_dflt (assumption) | fail) (by first | (k_dflt (((try dsimp only); omega)); done) | fail) (by first | k_dflt (assumption) | fail) ?_); intro _ _)) | ((with_reducible show Then _ _ _ _ _ _ _); first | ((with_reducible refine then_next ?_))) | ((with_reducible show W _ VR (eval (Expr.Name _ _) _) _ _ _ _); first | ((with_reducible refine W_local (by first | k_dflt (assumption) | fail) (by first | k_dflt (assumption) | fail) (by first | k_dflt (assumption) | fail) (by first | (k_dflt ((with_reducible repeat (first | exact Has.here | apply Has.there))); done) | fail) ?_)) | ((with_reducible refine W_globT (by first | k_dflt (assumption) | fail) (by first | k_dflt (assumption) | fail) (by first | k_dflt (assumption) | fail) (by first | (k_dflt ((with_reducible repeat (first | exact InN.here | apply InN.there))); done) | fail) (by first | (k_dflt ((with_reducible_and_instances repeat (first | exact List.Mem.head _ | apply List.Mem.tail))); done) | fail) ?_))) | ((with_reducible show W _ VR (eval (Expr.Call _ _ _ _) _) _ _ _ _); first | (refine W_Call (by assumption) (by rfl) ?_)) | ((with_reducible show W _ FR (exec (Stmt.Assign [Expr.Name _ _] _ _) _) _ _ _ _); first | (refine S_Assign ?_)) | ((with_reducible show Args _ _ _ _ _ _); first | ((with_reducible refine args_cons' ?_)) | ((with_reducible refine args_nil' ?_))) | ((with_reducible show Kp _ _ ∧ _); first | ((with_reducible refine kp_fun (by first | k_dflt (assumption) | fail) (by first | (k_dflt ((with_reducible_and_instances repeat (first | exact List.Mem.head _ | apply List.Mem.tail))); done) | fail) ?_))) | ((with_reducible show Sto _ _ _ _ _ _ _); first | ((with_reducible refine Sto_local (by first | k_dflt (assumption) | fail) (by first | k_dflt (assumption) | fail) (by first | k_dflt (assumption) | fail) (by first | (k_dflt ((with_reducible repeat (first | exact Put.here | apply Put.there))); done) | fail) ?_))) | fail)
      rename_i T dT
      clear hn Hj
      have hqn : (ss.length : Int) + cond e 0 1 = ((ss.length + cond e 0 1 : Nat) : Int) := by cases e <;> rfl
      have hq5 : ss.length + cond e 0 1 ≤ 100000 := by cases e <;> simp only [cond] <;> omega
      have hs5 : (ss.map V.str).length ≤ 100000 := by rw [List.length_map]; omega
      repeat' (first | ((with_reducible show W _ VR (eval (Expr.IfExp _ (Expr.Constant (Const.int _) _ _) (Expr.Constant (Const.int _) _ _) _) _) _ _ _ _); first | ((with_reducible refine W_IfInts ?_))) | ((with_reducible show W _ FR (execs _ _) _ _ _ _); first | ((with_reducible refine S_cons ?_))) | ((with_reducible show W _ VR (eval (Expr.Name _ _) _) _ _ _ _); first | ((with_reducible refine W_local (by first | k_dflt (assumption) | fail) (by first | k_dflt (assumption) | fail) (by first | k_dflt (assumption) | fail) (by first | (k_dflt ((with_reducible repeat (first | exact Has.here | apply Has.there))); done) | fail) ?_)) | ((with_reducible refine W_bltT (by first | k_dflt (assumption) | fail) (by first | k_dflt (assumption) | fail) (by first | k_dflt (assumption) | fail) (by first | (k_dflt ((with_reducible repeat (first | exact InN.here | apply InN.there))); done) | fail) (by first | (k_dflt ((with_reducible_and_instances repeat (first | exact List.Mem.head _ | apply List.Mem.tail))); done) | fail) ?_))) | ((with_reducible show W _ VR (eval (Expr.Call _ _ _ _) _) _ _ _ _); first | (refine W_Call (by assumption) (by rfl) ?_)) | ((with_reducible show W _ VR (eval (Expr.BinOp _ _ _ _) _) _ _ _ _); first | ((with_reducible refine W_BinOp ?_))) | ((with_reducible show W _ FR (exec (Stmt.For _ _ _ _ _) _) _ _ _ _); first | (refine S_For ?_)) | ((with_reducible show W _ BR (isTrue _ _ _) _ _ _ _); first | (refine T_plain rfl ?_)) | ((with_reducible show Op2 _ _ _ _ _ _ _ _); first | ((with_reducible refine add_ints ?_))) | ((with_reducible show Tru _ _ _ _ _ _); first | ((with_reducible refine tru_bool ?_))) | ((with_reducible show Cal _ _ _ _ _ _ _); first | ((with_reducible refine len_list (by first | (k_dflt ((with_reducible_and_instances repeat (first | exact List.Mem.head _ | apply List.Mem.tail))); done) | fail) (by first | (k_dflt ((first | assumption | omega | decide | (simp only [List.length_append, List.length_cons, List.length_nil, List.length_drop, List.length_take, List.length_map]; omega) | (simp only [List.length_append, List.length_cons, List.length_nil, List.length_drop, List.length_take, List.length_map] at *; omega))); done) | fail) ?_)) | ((with_reducible refine range_1 ?_); intro _)) | ((with_reducible show Args _ _ _ _ _ _); first | ((with_reducible refine args_cons' ?_)) | ((with_reducible refine args_nil' ?_))) | ((with_reducible show Kp _ _ ∧ _); first | ((with_reducible refine kp_and kp_blt ?_)) | ((with_reducible refine kp_and kp_type ?_))) | fail)
      refine' For_rangeH (α := Nat × Option (List Nat)) (pn := 0) (qn := ss.length + cond e 0 1) hh passes_never ?ir0 ?ir1 ?ip ?ir2 ?ir3 (fun _ _ => True) [some (.ref D), none, some (.int (l.length : Int)), none, some (.str held), some (.ref Cu), some (.ref Sg), some (.bool e), some (ptV kd l), some (.ref T), none, none, none, none, none, none, none, none, none, none, none, none, none, none, none, none, none, none] (fun x => [(T, .inst 133 dT), (dT, .dct (tokE (.bool kd) (ptV kd l) l ((x.1 : Nat) : Int) (ovV x.2))), (Sg, .list (ss.map V.str)), (CL0, .cell (.str l)), (Cu, .list Pl)]) (j, o) ?il ?ip2 trivial ?iturn ?iend
      case ip => (with_reducible repeat (first | exact Picks.nil | (apply Picks.cons; (focus (with_reducible repeat (first | exact Pick.head | apply Pick.tail))))))
      case ir0 => exact Nat.zero_le _
      case ir1 => exact hq5
      case ir2 => rfl
      case ir3 => rw [← hqn]; first | rfl | (rw [List.length_map]; rfl) | rw [List.length_map]
      case il => (with_reducible repeat (first | exact LoS.nil | apply LoS.keep | apply LoS.drop))
      case ip2 => (with_reducible repeat (first | exact Picks.nil | (apply Picks.cons; (focus (with_reducible repeat (first | exact Pick.head | apply Pick.tail))))))
      case iend =>
        rintro ⟨xi, xo⟩ _
        repeat' (first | ((with_reducible show Then _ _ _ _ _ _ _); first | ((with_reducible refine then_next ?_))) | ((with_reducible show W _ FR (execs _ _) _ _ _ _); first | ((with_reducible refine S_nil ?_))) | fail)
        all_goals first
          | (refine' hT0 () _ _ _ ?gl ?gp trivial; (case gl => (with_reducible repeat (first | exact LoS.nil | apply LoS.keep | apply LoS.drop))); (case gp => (with_reducible repeat (first | exact Picks.nil | (apply Picks.cons; (focus (with_reducible repeat (first | exact Pick.head | apply Pick.tail))))))))
      case iturn =>
        rintro TQ1 i ⟨xi, xo⟩ hi _ hT1
        dsimp only at hT1 ⊢
        rw [Nat.zero_add]
        have hi1 : i ≤ ss.length := by cases e <;> simp only [cond] at hi <;> omega
        have hi2 : e = true → i < ss.length := by rintro rfl; simp only [cond] at hi; omega
        have ecut : cut (ss.map V.str) (some (i : Int)) none = (ss.drop i).map V.str := la_from
        obtain ⟨ii, oi, Hi⟩ := hT i hi1 hi2
        have hPi : ∀ m, m ≤ (ss.drop i).length → Pl[i + m]? = some (V.int (((ss.take i).flatten.length + ((ss.drop i).take m).flatten.length : Nat) : Int)) := fun m hm => hP i m (by rw [List.length_drop] at hm; omega)
        have hr1 : (ss.drop i).length ≤ 900 := by rw [List.length_drop]; omega
        repeat' ((fail_if_success (with_reducible show W _ FR (execs (_ :: _) _) _ _ _ _)); first | ((with_reducible show Asg _ _ _ _ _ _ _); first | ((with_reducible refine asg_name ?_))) | ((with_reducible show Sto _ _ _ _ _ _ _); first | ((with_reducible refine Sto_local (by first | k_dflt (assumption) | fail) (by first | k_dflt (assumption) | fail) (by first | k_dflt (assumption) | fail) (by first | (k_dflt ((with_reducible repeat (first | exact Put.here | apply Put.there))); done) | fail) ?_))) | fail)
        refine S_cons ?_
        repeat' ((fail_if_success (with_reducible show W _ FR (execs (_ :: _) _) _ _ _ _)); first | ((with_reducible show Cut _ _ _ _ _ _ _ _ _ _); first | ((refine cut_listE (by first | (k_dflt ((first | (refine' Or.inl ?lm; (case lm => (with_reducible_and_instances repeat (first | exact List.Mem.head _ | apply List.Mem.tail)))) | exact LA.base (by assumption))); done) | fail) (by first | k_dflt (assumption) | fail) (by first | (k_dflt ((first | assumption | omega | decide | (simp only [List.length_append, List.length_cons, List.length_nil, List.length_drop, List.length_take, List.length_map]; omega) | (simp only [List.length_append, List.length_cons, List.length_nil, List.length_drop, List.length_take, List.length_map] at *; omega))); done) | fail) ?_); intro _)) | ((with_reducible show Then _ _ _ _ _ _ _); first | ((with_reducible refine then_next ?_))) | ((with_reducible show W _ VR (eval (Expr.Name _ _) _) _ _ _ _); first | ((with_reducible refine W_local (by first | k_dflt (assumption) | fail) (by first | k_dflt (assumption) | fail) (by first | k_dflt (assumption) | fail) (by first | (k_dflt ((with_reducible repeat (first | exact Has.here | apply Has.there))); done) | fail) ?_))) | ((with_reducible show W _ VR (eval (Expr.Subscript _ (Expr.Slice _ _ none _) _) _) _ _ _ _); first | (refine W_Slice ?_)) | ((with_reducible show W _ FR (exec (Stmt.Assign [Expr.Name _ _] _ _) _) _ _ _ _); first | (refine S_Assign ?_)) | ((with_reducible show Sto _ _ _ _ _ _ _); first | ((with_reducible refine Sto_local (by first | k_dflt (assumption) | fail) (by first | k_dflt (assumption) | fail) (by first | k_dflt (assumption) | fail) (by first | (k_dflt ((with_reducible repeat (first | exact Put.here | apply Put.there))); done) | fail) ?_))) | ((with_reducible show Part _ _ _ _ _ _); first | ((with_reducible refine part_none ?_)) | ((with_reducible refine part_some ?_))) | ((with_reducible show ∃ _, V.int _ = V.int _ ∧ _); first | ((with_reducible refine int_ex ?_))) | fail)
        rename_i Rs
        generalize ss.drop i = r at *
        generalize (ss.take i).flatten.length = p at *
        clear hP hT ecut hi hi1 hi2 hqn hq5 hsne
        refine S_cons ?_
        repeat' ((fail_if_success (with_reducible show W _ FR (execs (_ :: _) _) _ _ _ _)); first | ((with_reducible show Then _ _ _ _ _ _ _); first | ((with_reducible refine then_next ?_))) | ((with_reducible show W _ VR (eval (Expr.Constant (Const.int _) _ _) _) _ _ _ _); first | ((with_reducible refine W_int ?_))) | ((with_reducible show W _ FR (exec (Stmt.Assign [Expr.Name _ _] _ _) _) _ _ _ _); first | (refine S_Assign ?_)) | ((with_reducible show Sto _ _ _ _ _ _ _); first | ((with_reducible refine Sto_local (by first | k_dflt (assumption) | fail) (by first | k_dflt (assumption) | fail) (by first | k_dflt (assumption) | fail) (by first | (k_dflt ((with_reducible repeat (first | exact Put.here | apply Put.there))); done) | fail) ?_))) | fail)
        have hlr : (r.map V.str).length = r.length := List.length_map ..
        have hr5 : (r.map V.str).length ≤ 100000 := by rw [List.length_map]; omega
        refine S_cutG [some (.ref D), none, some (.int (l.length : Int)), none, some (.str held), some (.ref Cu), some (.ref Sg), some (.bool e), some (ptV kd l), some (.ref T), some (.int (i : Int)), some (.ref Rs), some (.int ((r.takeWhile (inS held)).length : Int)), none, none, none, none, none, none, none, none, none, none, none, none, none, none, none] [(T, .inst 133 dT), (dT, .dct (tokE (.bool kd) (ptV kd l) l ((xi : Nat) : Int) (ovV xo))), (Rs, .list (r.map V.str)), (Sg, .list (ss.map V.str)), (CL0, .cell (.str l)), (Cu, .list Pl)] ?_ ?_
        · intro TQ2 hT2
          refine' S_While (fun m lo ob => ∃ k, (k ≤ r.length ∧ m = r.length - k ∧ ∀ s ∈ r.take k, inS held s = true) ∧ lo = [some (.ref D), none, some (.int (l.length : Int)), none, some (.str held), some (.ref Cu), some (.ref Sg), some (.bool e), some (ptV kd l), some (.ref T), some (.int (i : Int)), some (.ref Rs), some (.int (k : Int)), none, none, none, none, none, none, none, none, none, none, none, none, none, none, none] ∧ ob = [(T, .inst 133 dT), (dT, .dct (tokE (.bool kd) (ptV kd l) l ((xi : Nat) : Int) (ovV xo))), (Rs, .list (r.map V.str)), (Sg, .list (ss.map V.str)), (CL0, .cell (.str l)), (Cu, .list Pl)]) passes_never ⟨_, [(T, .inst 133 dT), (dT, .dct _), (Rs, .list _), (Sg, .list _), (CL0, .cell _), (Cu, .list _)], _, LoS.refl, ?wp, r.length, 0, ⟨Nat.zero_le _, rfl, fun _ h => nomatch h⟩, rfl, rfl⟩ ?_
          case wp => (with_reducible repeat (first | exact Picks.nil | (apply Picks.cons; (focus (with_reducible repeat (first | exact Pick.head | apply Pick.tail))))))
          rintro m lo ob ⟨k, ⟨hk1, rfl, hk3⟩, rfl, rfl⟩
          have hk0 : (0 : Int) ≤ (k : Int) := Int.natCast_nonneg _
          cases hdk : r.drop k with
          | nil =>
            have hek : k = r.length := Nat.le_antisymm hk1 (List.drop_eq_nil_iff.mp hdk)
            have hF : (r.takeWhile (inS held)).length = k := tw_stop hk1 hk3 fun s r' h => by rw [hdk] at h; cases h
            have hlt : ¬ ((k : Nat) : Int) < (r.length : Int) := by omega
            rw [hF] at hT2
            repeat' (first | ((with_reducible show Cal _ _ _ _ _ _ _); first | ((with_reducible refine len_listE (by first | (k_dflt ((with_reducible_and_instances repeat (first | exact List.Mem.head _ | apply List.Mem.tail))); done) | fail) (by first | k_dflt (assumption) | fail) (by first | (k_dflt ((first | assumption | omega | decide | (simp only [List.length_append, List.length_cons, List.length_nil, List.length_drop, List.length_take, List.length_map]; omega) | (simp only [List.length_append, List.length_cons, List.length_nil, List.length_drop, List.length_take, List.length_map] at *; omega))); done) | fail) ?_))) | ((with_reducible show W _ VR (eval (Expr.Name _ _) _) _ _ _ _); first | ((with_reducible refine W_local (by first | k_dflt (assumption) | fail) (by first | k_dflt (assumption) | fail) (by first | k_dflt (assumption) | fail) (by first | (k_dflt ((with_reducible repeat (first | exact Has.here | apply Has.there))); done) | fail) ?_)) | ((with_reducible refine W_bltT (by first | k_dflt (assumption) | fail) (by first | k_dflt (assumption) | fail) (by first | k_dflt (assumption) | fail) (by first | (k_dflt ((with_reducible repeat (first | exact InN.here | apply InN.there))); done) | fail) (by first | (k_dflt ((with_reducible_and_instances repeat (first | exact List.Mem.head _ | apply List.Mem.tail))); done) | fail) ?_))) | ((with_reducible show W _ VR (eval (Expr.Call _ _ _ _) _) _ _ _ _); first | (refine W_Call (by assumption) (by rfl) ?_)) | ((with_reducible show W _ BR (isTrue (Expr.BoolOp _ _ _) _ _) _ _ _ _); first | ((with_reducible refine T_BoolOp ?_))) | ((with_reducible show W _ BR (isTrue (Expr.Compare _ _ _ _) _ _) _ _ _ _); first | (refine T_Compare ?_)) | ((with_reducible show Op2 _ _ _ _ _ _ _ _); first | ((with_reducible refine lt_ints ?_))) | ((with_reducible show Tru _ _ _ _ _ _); first | ((with_reducible refine tru_bool ?_))) | ((with_reducible show Br false _ _); first | ((with_reducible refine br_f ?_))) | ((with_reducible show Br (decide _) _ _); first | ((with_reducible refine br_no (by assumption) ?_))) | ((with_reducible show Args _ _ _ _ _ _); first | ((with_reducible refine args_cons' ?_)) | ((with_reducible refine args_nil' ?_))) | ((with_reducible show TstAll _ _ _ _ _ _ _); first | ((with_reducible refine tst_and ?_))) | ((with_reducible show Kp _ _ ∧ _); first | ((with_reducible refine kp_and kp_blt ?_))) | fail)
            all_goals first
              | (refine' hT2 _ _ _ ?gl ?gp; (case gl => (with_reducible repeat (first | exact LoS.nil | apply LoS.keep | apply LoS.drop))); (case gp => (with_reducible repeat (first | exact Picks.nil | (apply Picks.cons; (focus (with_reducible repeat (first | exact Pick.head | apply Pick.tail))))))))
          | cons s r' =>
            obtain ⟨hkr, g2, g3⟩ := take_step hdk
            have hlt : ((k : Nat) : Int) < (r.length : Int) := by omega
            have hsat : (r.map V.str)[((k : Nat) : Int).toNat]? = some (V.str s) := by
              have := congrArg (·[0]?) hdk
              simp only [List.getElem?_drop, Nat.add_zero] at this
              rw [Int.toNat_natCast, List.getElem?_map, this]
              rfl
            have hz1 : s.length ≤ 1000 := by
              have := Hi.g s (by have := List.drop_sublist k r; rw [hdk] at this; exact this.mem (.head _))
              exact Nat.le_trans this.pos.2 (by decide)
            cases hin : inS held s with
            | false =>
              have hF : (r.takeWhile (inS held)).length = k := tw_stop hk1 hk3 fun s' r'' h => by rw [hdk] at h; injection h with h _; rw [← h]; exact hin
              rw [hF] at hT2
              repeat' (first | ((with_reducible show Sub2 _ _ _ _ _ _ _ _ _); first | ((refine sub_at (by first | (k_dflt ((first | (refine' Or.inl ?lm; (case lm => (with_reducible_and_instances repeat (first | exact List.Mem.head _ | apply List.Mem.tail)))) | exact LA.base (by assumption))); done) | fail) (by first | k_dflt (assumption) | fail) (by first | k_dflt (assumption) | fail) (by first | k_dflt (assumption) | fail) ?_))) | ((with_reducible show Cal _ _ _ _ _ _ _); first | ((refine cal_E (by first | k_dflt (assumption) | fail) (by first | (k_dflt ((with_reducible repeat (first | exact Picks.nil | (apply Picks.cons; (focus (with_reducible repeat (first | exact Pick.head | apply Pick.tail))))))); done) | fail) (within_FE (by assumption) (by first | k_dflt (assumption) | fail) (by first | k_dflt (assumption) | fail) (by first | k_dflt (assumption) | fail)) (by first | (k_dflt ((with_reducible repeat (first | exact App.nil | apply App.cons))); done) | fail) (by first | (k_dflt (((try dsimp only); omega)); done) | fail) (by first | (k_dflt (first | exact .inl rfl | exact .inr (by assumption)); done) | fail) ?_))) | ((with_reducible show Cal _ _ _ _ _ _ _); first | ((with_reducible refine len_listE (by first | (k_dflt ((with_reducible_and_instances repeat (first | exact List.Mem.head _ | apply List.Mem.tail))); done) | fail) (by first | k_dflt (assumption) | fail) (by first | (k_dflt ((first | assumption | omega | decide | (simp only [List.length_append, List.length_cons, List.length_nil, List.length_drop, List.length_take, List.length_map]; omega) | (simp only [List.length_append, List.length_cons, List.length_nil, List.length_drop, List.length_take, List.length_map] at *; omega))); done) | fail) ?_))) | ((with_reducible show W _ VR (eval (Expr.Name _ _) _) _ _ _ _); first | ((with_reducible refine W_local (by first | k_dflt (assumption) | fail) (by first | k_dflt (assumption) | fail) (by first | k_dflt (assumption) | fail) (by first | (k_dflt ((with_reducible repeat (first | exact Has.here | apply Has.there))); done) | fail) ?_)) | ((with_reducible refine W_globT (by first | k_dflt (assumption) | fail) (by first | k_dflt (assumption) | fail) (by first | k_dflt (assumption) | fail) (by first | (k_dflt ((with_reducible repeat (first | exact InN.here | apply InN.there))); done) | fail) (by first | (k_dflt ((with_reducible_and_instances repeat (first | exact List.Mem.head _ | apply List.Mem.tail))); done) | fail) ?_)) | ((with_reducible refine W_bltT (by first | k_dflt (assumption) | fail) (by first | k_dflt (assumption) | fail) (by first | k_dflt (assumption) | fail) (by first | (k_dflt ((with_reducible repeat (first | exact InN.here | apply InN.there))); done) | fail) (by first | (k_dflt ((with_reducible_and_instances repeat (first | exact List.Mem.head _ | apply List.Mem.tail))); done) | fail) ?_))) | ((with_reducible show W _ VR (eval (Expr.Call _ _ _ _) _) _ _ _ _); first | (refine W_Call (by assumption) (by rfl) ?_)) | ((with_reducible show W _ VR (eval (Expr.Subscript _ _ _) _) _ _ _ _); first | (refine W_Sub ?_)) | ((with_reducible show W _ BR (isTrue (Expr.BoolOp _ _ _) _ _) _ _ _ _); first | ((with_reducible refine T_BoolOp ?_))) | ((with_reducible show W _ BR (isTrue (Expr.Compare _ _ _ _) _ _) _ _ _ _); first | (refine T_Compare ?_)) | ((with_reducible show W _ BR (isTrue _ _ _) _ _ _ _); first | (refine T_plain rfl ?_)) | ((with_reducible show Op2 _ _ _ _ _ _ _ _); first | ((with_reducible refine lt_ints ?_))) | ((with_reducible show Tru _ _ _ _ _ _); first | ((with_reducible refine tru_bool ?_))) | ((with_reducible show Br false _ _); first | ((with_reducible refine br_f ?_))) | ((with_reducible show Br (decide _) _ _); first | ((with_reducible refine br_yes (by assumption) ?_))) | ((with_reducible show Args _ _ _ _ _ _); first | ((with_reducible refine args_cons' ?_)) | ((with_reducible refine args_nil' ?_))) | ((with_reducible show TstAll _ _ _ _ _ _ _); first | ((with_reducible refine tst_and ?_))) | ((with_reducible show Kp _ _ ∧ _); first | ((with_reducible refine kp_and kp_blt ?_)) | ((with_reducible refine kp_fun (by first | k_dflt (assumption) | fail) (by first | (k_dflt ((with_reducible_and_instances repeat (first | exact List.Mem.head _ | apply List.Mem.tail))); done) | fail) ?_))) | fail)
              all_goals first
                | (refine' hT2 _ _ _ ?gl ?gp; (case gl => (with_reducible repeat (first | exact LoS.nil | apply LoS.keep | apply LoS.drop))); (case gp => (with_reducible repeat (first | exact Picks.nil | (apply Picks.cons; (focus (with_reducible repeat (first | exact Pick.head | apply Pick.tail))))))))
            | true =>
              have hk4 : ∀ x ∈ r.take (k + 1), inS held x = true := (tkz_step hdk hk3 hin).2
              clear hT2
              repeat' (first | ((with_reducible show Sub2 _ _ _ _ _ _ _ _ _); first | ((refine sub_at (by first | (k_dflt ((first | (refine' Or.inl ?lm; (case lm => (with_reducible_and_instances repeat (first | exact List.Mem.head _ | apply List.Mem.tail)))) | exact LA.base (by assumption))); done) | fail) (by first | k_dflt (assumption) | fail) (by first | k_dflt (assumption) | fail) (by first | k_dflt (assumption) | fail) ?_))) | ((with_reducible show Cal _ _ _ _ _ _ _); first | ((refine cal_E (by first | k_dflt (assumption) | fail) (by first | (k_dflt ((with_reducible repeat (first | exact Picks.nil | (apply Picks.cons; (focus (with_reducible repeat (first | exact Pick.head | apply Pick.tail))))))); done) | fail) (within_FE (by assumption) (by first | k_dflt (assumption) | fail) (by first | k_dflt (assumption) | fail) (by first | k_dflt (assumption) | fail)) (by first | (k_dflt ((with_reducible repeat (first | exact App.nil | apply App.cons))); done) | fail) (by first | (k_dflt (((try dsimp only); omega)); done) | fail) (by first | (k_dflt (first | exact .inl rfl | exact .inr (by assumption)); done) | fail) ?_))) | ((with_reducible show Cal _ _ _ _ _ _ _); first | ((with_reducible refine len_listE (by first | (k_dflt ((with_reducible_and_instances repeat (first | exact List.Mem.head _ | apply List.Mem.tail))); done) | fail) (by first | k_dflt (assumption) | fail) (by first | (k_dflt ((first | assumption | omega | decide | (simp only [List.length_append, List.length_cons, List.length_nil, List.length_drop, List.length_take, List.length_map]; omega) | (simp only [List.length_append, List.length_cons, List.length_nil, List.length_drop, List.length_take, List.length_map] at *; omega))); done) | fail) ?_))) | ((with_reducible show Then _ _ _ _ _ _ _); first | ((with_reducible refine then_next ?_))) | ((with_reducible show W _ FR (execs _ _) _ _ _ _); first | ((with_reducible refine S_cons ?_)) | ((with_reducible refine S_nil ?_))) | ((with_reducible show W _ VR (eval (Expr.Name _ _) _) _ _ _ _); first | ((with_reducible refine W_local (by first | k_dflt (assumption) | fail) (by first | k_dflt (assumption) | fail) (by first | k_dflt (assumption) | fail) (by first | (k_dflt ((with_reducible repeat (first | exact Has.here | apply Has.there))); done) | fail) ?_)) | ((with_reducible refine W_globT (by first | k_dflt (assumption) | fail) (by first | k_dflt (assumption) | fail) (by first | k_dflt (assumption) | fail) (by first | (k_dflt ((with_reducible repeat (first | exact InN.here | apply InN.there))); done) | fail) (by first | (k_dflt ((with_reducible_and_instances repeat (first | exact List.Mem.head _ | apply List.Mem.tail))); done) | fail) ?_)) | ((with_reducible refine W_bltT (by first | k_dflt (assumption) | fail) (by first | k_dflt (assumption) | fail) (by first | k_dflt (assumption) | fail) (by first | (k_dflt ((with_reducible repeat (first | exact InN.here | apply InN.there))); done) | fail) (by first | (k_dflt ((with_reducible_and_instances repeat (first | exact List.Mem.head _ | apply List.Mem.tail))); done) | fail) ?_))) | ((with_reducible show W _ VR (eval (Expr.Constant (Const.int _) _ _) _) _ _ _ _); first | ((with_reducible refine W_int ?_))) | ((with_reducible show W _ VR (eval (Expr.Call _ _ _ _) _) _ _ _ _); first | (refine W_Call (by assumption) (by rfl) ?_)) | ((with_reducible show W _ VR (eval (Expr.Subscript _ _ _) _) _ _ _ _); first | (refine W_Sub ?_)) | ((with_reducible show W _ FR (exec (Stmt.AugAssign (Expr.Name _ _) _ _ _) _) _ _ _ _); first | ((with_reducible refine S_Aug (by first | k_dflt (assumption) | fail) (by first | k_dflt (assumption) | fail) (by first | k_dflt (assumption) | fail) (by first | (k_dflt ((with_reducible repeat (first | exact Has.here | apply Has.there))); done) | fail) ?_))) | ((with_reducible show W _ BR (isTrue (Expr.BoolOp _ _ _) _ _) _ _ _ _); first | ((with_reducible refine T_BoolOp ?_))) | ((with_reducible show W _ BR (isTrue (Expr.Compare _ _ _ _) _ _) _ _ _ _); first | (refine T_Compare ?_)) | ((with_reducible show W _ BR (isTrue _ _ _) _ _ _ _); first | (refine T_plain rfl ?_)) | ((with_reducible show Op2 _ _ _ _ _ _ _ _); first | ((with_reducible refine iadd_ints ?_)) | ((with_reducible refine lt_ints ?_))) | ((with_reducible show Tru _ _ _ _ _ _); first | ((with_reducible refine tru_bool ?_))) | ((with_reducible show Br true _ _); first | ((with_reducible refine br_t ?_))) | ((with_reducible show Br (decide _) _ _); first | ((with_reducible refine br_yes (by assumption) ?_))) | ((with_reducible show Args _ _ _ _ _ _); first | ((with_reducible refine args_cons' ?_)) | ((with_reducible refine args_nil' ?_))) | ((with_reducible show TstAll _ _ _ _ _ _ _); first | ((with_reducible refine tst_and ?_)) | ((with_reducible refine tst_and_nil ?_))) | ((with_reducible show WhileQ _ _ _ _ _ _ _); first | ((with_reducible refine whileq_next ?_))) | ((with_reducible show Kp _ _ ∧ _); first | ((with_reducible refine kp_and kp_blt ?_)) | ((with_reducible refine kp_fun (by first | k_dflt (assumption) | fail) (by first | (k_dflt ((with_reducible_and_instances repeat (first | exact List.Mem.head _ | apply List.Mem.tail))); done) | fail) ?_))) | ((with_reducible show Sto _ _ _ _ _ _ _); first | ((with_reducible refine Sto_local (by first | k_dflt (assumption) | fail) (by first | k_dflt (assumption) | fail) (by first | k_dflt (assumption) | fail) (by first | (k_dflt ((with_reducible repeat (first | exact Put.here | apply Put.there))); done) | fail) ?_))) | fail)
              all_goals first
                | (refine' ⟨_, [(T, .inst 133 dT), (dT, .dct _), (Rs, .list _), (Sg, .list _), (CL0, .cell _), (Cu, .list _)], _, LoS.refl, ?wp, r.length - (k + 1), by omega, k + 1, ⟨hkr, rfl, hk4⟩, rfl, rfl⟩; (case wp => (with_reducible repeat (first | exact Picks.nil | (apply Picks.cons; (focus (with_reducible repeat (first | exact Pick.head | apply Pick.tail))))))))
        refine S_cons ?_
        repeat' ((fail_if_success (with_reducible show W _ FR (execs (_ :: _) _) _ _ _ _)); first | ((with_reducible show Cal _ _ _ _ _ _ _); first | ((with_reducible refine len_listE (by first | (k_dflt ((with_reducible_and_instances repeat (first | exact List.Mem.head _ | apply List.Mem.tail))); done) | fail) (by first | k_dflt (assumption) | fail) (by first | (k_dflt ((first | assumption | omega | decide | (simp only [List.length_append, List.length_cons, List.length_nil, List.length_drop, List.length_take, List.length_map]; omega) | (simp only [List.length_append, List.length_cons, List.length_nil, List.length_drop, List.length_take, List.length_map] at *; omega))); done) | fail) ?_))) | ((with_reducible show W _ VR (eval (Expr.Name _ _) _) _ _ _ _); first | ((with_reducible refine W_local (by first | k_dflt (assumption) | fail) (by first | k_dflt (assumption) | fail) (by first | k_dflt (assumption) | fail) (by first | (k_dflt ((with_reducible repeat (first | exact Has.here | apply Has.there))); done) | fail) ?_)) | ((with_reducible refine W_bltT (by first | k_dflt (assumption) | fail) (by first | k_dflt (assumption) | fail) (by first | k_dflt (assumption) | fail) (by first | (k_dflt ((with_reducible repeat (first | exact InN.here | apply InN.there))); done) | fail) (by first | (k_dflt ((with_reducible_and_instances repeat (first | exact List.Mem.head _ | apply List.Mem.tail))); done) | fail) ?_))) | ((with_reducible show W _ VR (eval (Expr.Constant (Const.int _) _ _) _) _ _ _ _); first | ((with_reducible refine W_int ?_))) | ((with_reducible show W _ VR (eval (Expr.Call _ _ _ _) _) _ _ _ _); first | (refine W_Call (by assumption) (by rfl) ?_)) | ((with_reducible show W _ VR (eval (Expr.BinOp _ _ _ _) _) _ _ _ _); first | ((with_reducible refine W_BinOp ?_))) | ((with_reducible show W _ VR (eval (Expr.UnaryOp _ _ _) _) _ _ _ _); first | ((with_reducible refine W_Unary ?_))) | ((with_reducible show W _ FR (exec (Stmt.For _ _ _ _ _) _) _ _ _ _); first | (refine S_For ?_)) | ((with_reducible show Op2 _ _ _ _ _ _ _ _); first | ((with_reducible refine add_ints ?_))) | ((with_reducible show Op1 _ _ _ _ _ _ _); first | ((with_reducible refine Mine.neg_int ?_))) | ((with_reducible show Cal _ _ _ _ _ _ _); first | ((with_reducible refine range_2 ?_); intro _)) | ((with_reducible show Args _ _ _ _ _ _); first | ((with_reducible refine args_cons' ?_)) | ((with_reducible refine args_nil' ?_))) | ((with_reducible show Kp _ _ ∧ _); first | ((with_reducible refine kp_and kp_blt ?_)) | ((with_reducible refine kp_and kp_type ?_))) | fail)
        refine' For_rangeS (α := Nat × Option (List Nat)) (n := r.length + 3) hh passes_never ?nr0 ?nr1 ?nr2 ?np (fun _ _ => True) [some (.ref D), none, some (.int (l.length : Int)), none, some (.str held), some (.ref Cu), some (.ref Sg), some (.bool e), some (ptV kd l), some (.ref T), some (.int (i : Int)), some (.ref Rs), some (.int ((r.takeWhile (inS held)).length : Int)), none, none, none, none, none, none, none, none, none, none, none, none, none, none, none] (fun x => [(T, .inst 133 dT), (dT, .dct (tokE (.bool kd) (ptV kd l) l ((x.1 : Nat) : Int) (ovV x.2))), (Rs, .list (r.map V.str)), (Sg, .list (ss.map V.str)), (CL0, .cell (.str l)), (Cu, .list Pl)]) (xi, xo) ?nl ?np2 trivial ?nturn ?nend
        case np => (with_reducible repeat (first | exact Picks.nil | (apply Picks.cons; (focus (with_reducible repeat (first | exact Pick.head | apply Pick.tail))))))
        case nr0 => decide
        case nr1 => (try rw [List.length_map]); omega
        case nr2 => (try rw [List.length_map]); omega
        case nl => (with_reducible repeat (first | exact LoS.nil | apply LoS.keep | apply LoS.drop))
        case np2 => (with_reducible repeat (first | exact Picks.nil | (apply Picks.cons; (focus (with_reducible repeat (first | exact Pick.head | apply Pick.tail))))))
        case nend =>
          rintro ⟨yi, yo⟩ _
          repeat' (first | ((with_reducible show Then _ _ _ _ _ _ _); first | ((with_reducible refine then_next ?_))) | ((with_reducible show W _ FR (execs _ _) _ _ _ _); first | ((with_reducible refine S_nil ?_))) | fail)
          all_goals first
            | (refine' hT1 (yi, yo) _ _ _ ?gl ?gp trivial; (case gl => (with_reducible repeat (first | exact LoS.nil | apply LoS.keep | apply LoS.drop))); (case gp => (with_reducible repeat (first | exact Picks.nil | (apply Picks.cons; (focus (with_reducible repeat (first | exact Pick.head | apply Pick.tail))))))))
        case nturn =>
          rintro TQ2 kk ⟨yi, yo⟩ hkk _ hT2
          dsimp only at hT2 ⊢
          obtain ⟨nz, hnz⟩ : ∃ nz : Int, (-1 : Int) + (kk : Int) = nz := ⟨_, rfl⟩
          rw [hnz]
          have hn1 : nz ≤ 1000 := by omega
          have hn0 : -1000 ≤ nz := by omega
          obtain ⟨m, hm⟩ : ∃ m, gwM (inS held) nz.toNat r = m := ⟨_, rfl⟩
          have hmle := gwM_le (hd := inS held) (n := nz.toNat) (ss := r)
          have hmin : min ((r.takeWhile (inS held)).length : Int) (max nz 0) = ((m : Nat) : Int) := by
            have := gwM_min (hd := inS held) (n := nz.toNat) (ss := r)
            omega
          rw [hm] at hmle
          have hp1 : p ≤ 2000 := Nat.le_trans Hi.z (Nat.le_trans hl1 (by decide))
          have hpn : nxt l p = some (ii, oi) := Hi.n
          have hpk : ((p : Nat) : Int) = ((p : Nat) : Int) := rfl
          have hi0 : (0 : Int) ≤ (i : Int) := Int.natCast_nonneg _
          have hPl5 := hP5
          have hci : Pl[((i : Nat) : Int).toNat]? = some (V.int ((p : Nat) : Int)) := hPi 0 (Nat.zero_le _)
          have hm0 : (0 : Int) ≤ (m : Int) := Int.natCast_nonneg _
          have hr6 : (r.map V.str).length + 1 ≤ 100000 := by rw [List.length_map]; omega
          have hr7 : (r.map V.str ++ [V.none]).length ≤ 100000 := by rw [List.length_append]; exact hr6
          clear hnz hkk
          by_cases hmr : m = r.length
          · have hmr1 : ((m : Nat) : Int) = (r.length : Int) := by rw [hmr]
            cases e with
            | true =>
              have hrp : 0 < r.length := List.length_pos_iff.mpr (Hi.ne rfl)
              obtain ⟨i2, o2, H2⟩ := tkz_from Hi (m := m - 1) (by omega) (fun _ => by omega)
              have hn2 := H2.n
              have hcm : Pl[((i : Int) + ((m : Int) - 1)).toNat]? = some (V.int ((p + (r.take (m - 1)).flatten.length : Nat) : Int)) := by
                rw [← hPi (m - 1) (by omega)]
                congr 1
                omega
              have hnx : (r.map V.str ++ [V.none])[((m : Int) - 1).toNat]? = some (ovV o2) := by
                rw [← tkz_next H2 (by omega)]
                congr 1
                omega
              have hj0 : (0 : Int) ≤ (i : Int) + ((m : Int) - 1) := by omega
              have hj1 : (0 : Int) ≤ (m : Int) - 1 := by omega
              have he : (true : Bool) = true := rfl
              have hp9 : ((l.length : Int) - 1).natAbs < 10 ^ 9 := by omega
              repeat' (first | ((with_reducible show Sub2 _ _ _ _ _ _ _ _ _); first | ((refine sub_at (by first | (k_dflt ((first | (refine' Or.inl ?lm; (case lm => (with_reducible_and_instances repeat (first | exact List.Mem.head _ | apply List.Mem.tail)))) | exact LA.base (by assumption))); done) | fail) (by first | k_dflt (assumption) | fail) (by first | k_dflt (assumption) | fail) (by first | k_dflt (assumption) | fail) ?_))) | ((with_reducible show Inp _ _ _ _ _ _ _ _); first | ((with_reducible refine isub_ints ?_))) | ((with_reducible show Op2 _ _ _ _ _ _ _ _); first | ((with_reducible refine ne_ovE ?_)) | ((with_reducible refine add_lists (by first | (k_dflt ((with_reducible_and_instances repeat (first | exact List.Mem.head _ | apply List.Mem.tail))); done) | fail) (by first | (k_dflt ((with_reducible_and_instances repeat (first | exact List.Mem.head _ | apply List.Mem.tail))); done) | fail) (by first | (k_dflt ((first | assumption | omega | decide | (simp only [List.length_append, List.length_cons, List.length_nil, List.length_drop, List.length_take, List.length_map]; omega) | (simp only [List.length_append, List.length_cons, List.length_nil, List.length_drop, List.length_take, List.length_map] at *; omega))); done) | fail) ?_); intro _) | ((with_reducible refine ne_lists_sameE (by first | k_dflt (assumption) | fail) (by first | (k_dflt ((first | (refine' Or.inl ?lm; (case lm => (with_reducible_and_instances repeat (first | exact List.Mem.head _ | apply List.Mem.tail)))) | exact LA.base (by assumption))); done) | fail) (by first | (k_dflt ((first | (refine' Or.inl ?lm; (case lm => (with_reducible_and_instances repeat (first | exact List.Mem.head _ | apply List.Mem.tail)))) | exact LA.base (by assumption))); done) | fail) (by first | (k_dflt (exact plain6); done) | fail) ?_))) | ((with_reducible show Cal _ _ _ _ _ _ _); first | ((refine cal_N (by first | k_dflt (assumption) | fail) (by first | (k_dflt ((with_reducible repeat (first | exact Picks.nil | (apply Picks.cons; (focus (with_reducible repeat (first | exact Pick.head | apply Pick.tail))))))); done) | fail) (got_Z (by assumption) (by first | k_dflt (assumption) | fail) (by first | k_dflt (assumption) | fail) (by first | k_dflt (assumption) | fail) (by first | k_dflt (assumption) | fail) (by first | k_dflt (assumption) | fail) (by first | k_dflt (assumption) | fail) (by first | k_dflt (assumption) | fail) (by first | k_dflt (assumption) | fail)) (by first | (k_dflt ((intro _; (with_reducible repeat (first | exact App.nil | apply App.cons)))); done) | fail) (by first | (k_dflt (((try dsimp only); omega)); done) | fail) (by first | (k_dflt (first | exact .inl rfl | exact .inr (by assumption)); done) | fail) ?_); intro _) | ((refine cal_N (by first | k_dflt (assumption) | fail) (by first | (k_dflt ((with_reducible repeat (first | exact Picks.nil | (apply Picks.cons; (focus (with_reducible repeat (first | exact Pick.head | apply Pick.tail))))))); done) | fail) (words_K (by assumption) (by first | k_dflt (assumption) | fail) (by first | (k_dflt (exact (by decide : List.length (badE : List Nat) ≤ 1000)); done) | fail) (by first | k_dflt (assumption) | fail)) (by first | (k_dflt ((intro _; (with_reducible repeat (first | exact App.nil | apply App.cons)))); done) | fail) (by first | (k_dflt (((try dsimp only); omega)); done) | fail) (by first | (k_dflt (first | exact .inl rfl | exact .inr (by assumption)); done) | fail) ?_); intro _) | ((with_reducible refine max_ints (by first | k_dflt (assumption) | fail) ?_)) | ((with_reducible refine min_intsE (by first | k_dflt (assumption) | fail) (by first | k_dflt (assumption) | fail) ?_))) | ((with_reducible show Cal _ _ _ _ _ _ _); first | ((with_reducible refine len_listE (by first | (k_dflt ((with_reducible_and_instances repeat (first | exact List.Mem.head _ | apply List.Mem.tail))); done) | fail) (by first | k_dflt (assumption) | fail) (by first | (k_dflt ((first | assumption | omega | decide | (simp only [List.length_append, List.length_cons, List.length_nil, List.length_drop, List.length_take, List.length_map]; omega) | (simp only [List.length_append, List.length_cons, List.length_nil, List.length_drop, List.length_take, List.length_map] at *; omega))); done) | fail) ?_))) | ((with_reducible show Cal _ _ _ _ _ _ _); first | ((refine cal_E (by first | k_dflt (assumption) | fail) (by first | (k_dflt ((with_reducible repeat (first | exact Picks.nil | (apply Picks.cons; (focus (with_reducible repeat (first | exact Pick.head | apply Pick.tail))))))); done) | fail) (tell_O (by assumption) (by first | k_dflt (assumption) | fail)) (by first | (k_dflt ((with_reducible repeat (first | exact App.nil | apply App.cons))); done) | fail) (by first | (k_dflt (((try dsimp only); omega)); done) | fail) (by first | (k_dflt (first | exact .inl rfl | exact .inr (by assumption)); done) | fail) ?_))) | ((with_reducible show Cal _ _ _ _ _ _ _); first | ((refine cal_E (by first | k_dflt (assumption) | fail) (by first | (k_dflt ((with_reducible repeat (first | exact Picks.nil | (apply Picks.cons; (focus (with_reducible repeat (first | exact Pick.head | apply Pick.tail))))))); done) | fail) (seek_F (by assumption) (by first | k_dflt (assumption) | fail) (by first | (k_dflt (first | omega | exact Nat.zero_le _); done) | fail) (by first | k_dflt (assumption) | fail) (by first | k_dflt (assumption) | fail)) (by first | (k_dflt ((with_reducible repeat (first | exact App.nil | apply App.cons))); done) | fail) (by first | (k_dflt (((try dsimp only); omega)); done) | fail) (by first | (k_dflt (first | exact .inl rfl | exact .inr (by assumption)); done) | fail) ?_))) | ((with_reducible show Then _ _ _ _ _ _ _); first | ((with_reducible refine then_next ?_))) | ((with_reducible show W _ FR (execs _ _) _ _ _ _); first | ((with_reducible refine S_cons ?_)) | ((with_reducible refine S_nil ?_))) | ((with_reducible show W _ VR (eval (Expr.Name _ _) _) _ _ _ _); first | ((with_reducible refine W_local (by first | k_dflt (assumption) | fail) (by first | k_dflt (assumption) | fail) (by first | k_dflt (assumption) | fail) (by first | (k_dflt ((with_reducible repeat (first | exact Has.here | apply Has.there))); done) | fail) ?_)) | ((with_reducible refine W_globT (by first | k_dflt (assumption) | fail) (by first | k_dflt (assumption) | fail) (by first | k_dflt (assumption) | fail) (by first | (k_dflt ((with_reducible repeat (first | exact InN.here | apply InN.there))); done) | fail) (by first | (k_dflt ((with_reducible_and_instances repeat (first | exact List.Mem.head _ | apply List.Mem.tail))); done) | fail) ?_)) | ((with_reducible refine W_bltT (by first | k_dflt (assumption) | fail) (by first | k_dflt (assumption) | fail) (by first | k_dflt (assumption) | fail) (by first | (k_dflt ((with_reducible repeat (first | exact InN.here | apply InN.there))); done) | fail) (by first | (k_dflt ((with_reducible_and_instances repeat (first | exact List.Mem.head _ | apply List.Mem.tail))); done) | fail) ?_))) | ((with_reducible show W _ VR (eval (Expr.Constant Const.none _ _) _) _ _ _ _); first | ((with_reducible refine W_none ?_))) | ((with_reducible show W _ VR (eval (Expr.Constant (Const.int _) _ _) _) _ _ _ _); first | ((with_reducible refine W_int ?_))) | ((with_reducible show W _ VR (eval (Expr.Constant (Const.str _) _ _) _) _ _ _ _); first | ((with_reducible refine W_str lit10 ?_))) | ((with_reducible show W _ VR (eval (Expr.Attribute _ _ _) _) _ _ _ _); first | (refine W_Attr ?_)) | ((with_reducible show W _ VR (eval (Expr.Call (Expr.Attribute _ _ _) _ _ _) _) _ _ _ _); first | (refine W_Method (by assumption) (by rfl) ?_)) | ((with_reducible show W _ VR (eval (Expr.Call _ _ _ _) _) _ _ _ _); first | (refine W_Call (by assumption) (by rfl) ?_)) | ((with_reducible show W _ VR (eval (Expr.BinOp _ _ _ _) _) _ _ _ _); first | ((with_reducible refine W_BinOp ?_))) | ((with_reducible show W _ VR (eval (Expr.Subscript _ _ _) _) _ _ _ _); first | (refine W_Sub ?_)) | ((with_reducible show W _ VR (eval (Expr.List _ _) _) _ _ _ _); first | (refine W_List (by rfl) ?_)) | ((with_reducible show W _ FR (exec (Stmt.Assign [Expr.Name _ _] _ _) _) _ _ _ _); first | (refine S_Assign ?_)) | ((with_reducible show W _ FR (exec (Stmt.If _ _ _ _) _) _ _ _ _); first | ((with_reducible refine S_If ?_))) | ((with_reducible show W _ FR (exec (Stmt.Expr _ _) _) _ _ _ _); first | (refine S_ExprV ?_ (inter (by assumption)))) | ((with_reducible show W _ FR (exec (Stmt.AugAssign (Expr.Name _ _) _ _ _) _) _ _ _ _); first | ((with_reducible refine S_Aug (by first | k_dflt (assumption) | fail) (by first | k_dflt (assumption) | fail) (by first | k_dflt (assumption) | fail) (by first | (k_dflt ((with_reducible repeat (first | exact Has.here | apply Has.there))); done) | fail) ?_))) | ((with_reducible show W _ BR (isTrue (Expr.BoolOp _ _ _) _ _) _ _ _ _); first | ((with_reducible refine T_BoolOp ?_))) | ((with_reducible show W _ BR (isTrue (Expr.Compare _ _ _ _) _ _) _ _ _ _); first | (refine T_Compare ?_)) | ((with_reducible show W _ BR (isTrue _ _ _) _ _ _ _); first | (refine T_plain rfl ?_)) | ((with_reducible show Op2 _ _ _ _ _ _ _ _); first | ((with_reducible refine add_ints ?_)) | ((with_reducible refine sub_ints ?_)) | ((with_reducible refine eq_ints ?_)) | ((with_reducible refine ne_ints ?_))) | ((with_reducible show Tru _ _ _ _ _ _); first | ((with_reducible refine tru_bool ?_))) | ((with_reducible show Br true _ _); first | ((with_reducible refine br_t ?_))) | ((with_reducible show Br false _ _); first | ((with_reducible refine br_f ?_))) | ((with_reducible show Br (decide _) _ _); first | ((with_reducible refine br_ne_self ?_)) | ((with_reducible refine br_yes (by assumption) ?_))) | ((with_reducible show Args _ _ _ _ _ _); first | ((with_reducible refine args_cons' ?_)) | ((with_reducible refine args_nil' ?_))) | ((with_reducible show TstAll _ _ _ _ _ _ _); first | ((with_reducible refine tst_and ?_)) | ((with_reducible refine tst_and_nil ?_)) | ((with_reducible refine tst_or ?_)) | ((with_reducible refine tst_or_nil ?_))) | ((with_reducible show Kp _ _ ∧ _); first | ((with_reducible refine kp_and kp_blt ?_)) | ((with_reducible refine kp_met (by first | k_dflt (assumption) | fail) (by first | (k_dflt ((with_reducible_and_instances repeat (first | exact List.Mem.head _ | apply List.Mem.tail))); done) | fail) ?_)) | ((with_reducible refine kp_fun (by first | k_dflt (assumption) | fail) (by first | (k_dflt ((with_reducible_and_instances repeat (first | exact List.Mem.head _ | apply List.Mem.tail))); done) | fail) ?_))) | ((with_reducible show _ ≤ _ ∧ _); first | ((with_reducible refine disp (by first | (k_dflt ((first | assumption | omega | decide | (simp only [List.length_append, List.length_cons, List.length_nil, List.length_drop, List.length_take, List.length_map]; omega) | (simp only [List.length_append, List.length_cons, List.length_nil, List.length_drop, List.length_take, List.length_map] at *; omega))); done) | fail) ?_); intro _)) | ((with_reducible show plainV _ = true ∧ _); first | ((with_reducible refine plain_and rfl ?_))) | ((with_reducible show Asg _ _ _ _ _ _ _); first | ((with_reducible refine asg_name ?_))) | ((with_reducible show Sto _ _ _ _ _ _ _); first | ((with_reducible refine Sto_local (by first | k_dflt (assumption) | fail) (by first | k_dflt (assumption) | fail) (by first | k_dflt (assumption) | fail) (by first | (k_dflt ((with_reducible repeat (first | exact Put.here | apply Put.there))); done) | fail) ?_))) | ((with_reducible show GetM _ _ _ _ _ _ _); first | ((with_reducible refine getm_tk (by first | k_dflt (assumption) | fail) (by first | k_dflt (assumption) | fail) (by first | (k_dflt ((with_reducible_and_instances repeat (first | exact List.Mem.head _ | apply List.Mem.tail))); done) | fail) (by first | (k_dflt ((with_reducible_and_instances repeat (first | exact List.Mem.head _ | apply List.Mem.tail))); done) | fail) (by first | (k_dflt ((with_reducible_and_instances repeat (first | exact List.Mem.head _ | apply List.Mem.tail))); done) | fail) (by first | (k_dflt ((repeat (first | with_reducible exact NoEnt.nil | (with_reducible apply NoEnt.cons; (focus decide))))); done) | fail) ?_))) | ((with_reducible show GetA _ _ _ _ _ _ _); first | ((with_reducible refine geta_tk (by first | k_dflt (assumption) | fail) (by first | k_dflt (assumption) | fail) (by first | (k_dflt ((with_reducible_and_instances repeat (first | exact List.Mem.head _ | apply List.Mem.tail))); done) | fail) (by first | (k_dflt ((with_reducible_and_instances repeat (first | exact List.Mem.head _ | apply List.Mem.tail))); done) | fail) (by first | (k_dflt ((with_reducible_and_instances repeat (first | exact List.Mem.head _ | apply List.Mem.tail))); done) | fail) (by first | (k_dflt ((with_reducible repeat (first | exact Ent.here | (apply Ent.there; (focus decide))))); done) | fail) (by first | (k_dflt (first | exact rfl | exact handed_ovV _ | assumption); done) | fail) ?_))) | fail)
              all_goals first
                | (refine' hT2 (i2, o2) _ _ _ ?gl ?gp trivial; (case gl => (with_reducible repeat (first | exact LoS.nil | apply LoS.keep | apply LoS.drop))); (case gp => (with_reducible repeat (first | exact Picks.nil | (apply Picks.cons; (focus (with_reducible repeat (first | exact Pick.head | apply Pick.tail))))))))
            | false =>
              obtain ⟨i2, o2, H2⟩ := tkz_from Hi (m := m) hmle.2 (fun h => nomatch h)
              have hn2 := H2.n
              have hcm : Pl[((i : Int) + (m : Int)).toNat]? = some (V.int ((p + (r.take m).flatten.length : Nat) : Int)) := hPi m hmle.2
              have hnx : (r.map V.str ++ [V.none])[((m : Nat) : Int).toNat]? = some (ovV o2) := tkz_next H2 hmle.2
              have hj0 : (0 : Int) ≤ (i : Int) + (m : Int) := by omega
              by_cases hnm : nz > (m : Int)
              · have hmn : m < nz.toNat := by omega
                have he : (false : Bool) = false := rfl
                repeat' (first | ((with_reducible show Sub2 _ _ _ _ _ _ _ _ _); first | ((refine sub_at (by first | (k_dflt ((first | (refine' Or.inl ?lm; (case lm => (with_reducible_and_instances repeat (first | exact List.Mem.head _ | apply List.Mem.tail)))) | exact LA.base (by assumption))); done) | fail) (by first | k_dflt (assumption) | fail) (by first | k_dflt (assumption) | fail) (by first | k_dflt (assumption) | fail) ?_))) | ((with_reducible show Op2 _ _ _ _ _ _ _ _); first | ((with_reducible refine ne_ovE ?_)) | ((with_reducible refine add_lists (by first | (k_dflt ((with_reducible_and_instances repeat (first | exact List.Mem.head _ | apply List.Mem.tail))); done) | fail) (by first | (k_dflt ((with_reducible_and_instances repeat (first | exact List.Mem.head _ | apply List.Mem.tail))); done) | fail) (by first | (k_dflt ((first | assumption | omega | decide | (simp only [List.length_append, List.length_cons, List.length_nil, List.length_drop, List.length_take, List.length_map]; omega) | (simp only [List.length_append, List.length_cons, List.length_nil, List.length_drop, List.length_take, List.length_map] at *; omega))); done) | fail) ?_); intro _)) | ((with_reducible show Cal _ _ _ _ _ _ _); first | ((refine cal_E (by first | k_dflt (assumption) | fail) (by first | (k_dflt ((with_reducible repeat (first | exact Picks.nil | (apply Picks.cons; (focus (with_reducible repeat (first | exact Pick.head | apply Pick.tail))))))); done) | fail) (got_T (by assumption) (by first | k_dflt (assumption) | fail) (by first | k_dflt (assumption) | fail) (by first | k_dflt (assumption) | fail) (by first | k_dflt (assumption) | fail) (by first | k_dflt (assumption) | fail) (by first | k_dflt (assumption) | fail) (by first | k_dflt (assumption) | fail) (by first | k_dflt (assumption) | fail) (by first | k_dflt (assumption) | fail)) (by first | (k_dflt ((with_reducible repeat (first | exact App.nil | apply App.cons))); done) | fail) (by first | (k_dflt (((try dsimp only); omega)); done) | fail) (by first | (k_dflt (first | exact .inl rfl | exact .inr (by assumption)); done) | fail) ?_)) | ((with_reducible refine max_ints (by first | k_dflt (assumption) | fail) ?_)) | ((with_reducible refine min_intsE (by first | k_dflt (assumption) | fail) (by first | k_dflt (assumption) | fail) ?_))) | ((with_reducible show Cal _ _ _ _ _ _ _); first | ((with_reducible refine len_listE (by first | (k_dflt ((with_reducible_and_instances repeat (first | exact List.Mem.head _ | apply List.Mem.tail))); done) | fail) (by first | k_dflt (assumption) | fail) (by first | (k_dflt ((first | assumption | omega | decide | (simp only [List.length_append, List.length_cons, List.length_nil, List.length_drop, List.length_take, List.length_map]; omega) | (simp only [List.length_append, List.length_cons, List.length_nil, List.length_drop, List.length_take, List.length_map] at *; omega))); done) | fail) ?_))) | ((with_reducible show Cal _ _ _ _ _ _ _); first | ((refine cal_E (by first | k_dflt (assumption) | fail) (by first | (k_dflt ((with_reducible repeat (first | exact Picks.nil | (apply Picks.cons; (focus (with_reducible repeat (first | exact Pick.head | apply Pick.tail))))))); done) | fail) (tell_O (by assumption) (by first | k_dflt (assumption) | fail)) (by first | (k_dflt ((with_reducible repeat (first | exact App.nil | apply App.cons))); done) | fail) (by first | (k_dflt (((try dsimp only); omega)); done) | fail) (by first | (k_dflt (first | exact .inl rfl | exact .inr (by assumption)); done) | fail) ?_))) | ((with_reducible show Cal _ _ _ _ _ _ _); first | ((refine cal_E (by first | k_dflt (assumption) | fail) (by first | (k_dflt ((with_reducible repeat (first | exact Picks.nil | (apply Picks.cons; (focus (with_reducible repeat (first | exact Pick.head | apply Pick.tail))))))); done) | fail) (seek_F (by assumption) (by first | k_dflt (assumption) | fail) (by first | (k_dflt (first | omega | exact Nat.zero_le _); done) | fail) (by first | k_dflt (assumption) | fail) (by first | k_dflt (assumption) | fail)) (by first | (k_dflt ((with_reducible repeat (first | exact App.nil | apply App.cons))); done) | fail) (by first | (k_dflt (((try dsimp only); omega)); done) | fail) (by first | (k_dflt (first | exact .inl rfl | exact .inr (by assumption)); done) | fail) ?_))) | ((with_reducible show Then _ _ _ _ _ _ _); first | ((with_reducible refine then_next ?_))) | ((with_reducible show W _ FR (execs _ _) _ _ _ _); first | ((with_reducible refine S_cons ?_)) | ((with_reducible refine S_nil ?_))) | ((with_reducible show W _ VR (eval (Expr.Name _ _) _) _ _ _ _); first | ((with_reducible refine W_local (by first | k_dflt (assumption) | fail) (by first | k_dflt (assumption) | fail) (by first | k_dflt (assumption) | fail) (by first | (k_dflt ((with_reducible repeat (first | exact Has.here | apply Has.there))); done) | fail) ?_)) | ((with_reducible refine W_globT (by first | k_dflt (assumption) | fail) (by first | k_dflt (assumption) | fail) (by first | k_dflt (assumption) | fail) (by first | (k_dflt ((with_reducible repeat (first | exact InN.here | apply InN.there))); done) | fail) (by first | (k_dflt ((with_reducible_and_instances repeat (first | exact List.Mem.head _ | apply List.Mem.tail))); done) | fail) ?_)) | ((with_reducible refine W_bltT (by first | k_dflt (assumption) | fail) (by first | k_dflt (assumption) | fail) (by first | k_dflt (assumption) | fail) (by first | (k_dflt ((with_reducible repeat (first | exact InN.here | apply InN.there))); done) | fail) (by first | (k_dflt ((with_reducible_and_instances repeat (first | exact List.Mem.head _ | apply List.Mem.tail))); done) | fail) ?_))) | ((with_reducible show W _ VR (eval (Expr.Constant Const.none _ _) _) _ _ _ _); first | ((with_reducible refine W_none ?_))) | ((with_reducible show W _ VR (eval (Expr.Constant (Const.int _) _ _) _) _ _ _ _); first | ((with_reducible refine W_int ?_))) | ((with_reducible show W _ VR (eval (Expr.Constant (Const.str _) _ _) _) _ _ _ _); first | ((with_reducible refine W_str lit13 ?_))) | ((with_reducible show W _ VR (eval (Expr.Attribute _ _ _) _) _ _ _ _); first | (refine W_Attr ?_)) | ((with_reducible show W _ VR (eval (Expr.Call (Expr.Attribute _ _ _) _ _ _) _) _ _ _ _); first | (refine W_Method (by assumption) (by rfl) ?_)) | ((with_reducible show W _ VR (eval (Expr.Call _ _ _ _) _) _ _ _ _); first | (refine W_Call (by assumption) (by rfl) ?_)) | ((with_reducible show W _ VR (eval (Expr.BinOp _ _ _ _) _) _ _ _ _); first | ((with_reducible refine W_BinOp ?_))) | ((with_reducible show W _ VR (eval (Expr.Subscript _ _ _) _) _ _ _ _); first | (refine W_Sub ?_)) | ((with_reducible show W _ VR (eval (Expr.List _ _) _) _ _ _ _); first | (refine W_List (by rfl) ?_)) | ((with_reducible show W _ FR (exec (Stmt.Assign [Expr.Name _ _] _ _) _) _ _ _ _); first | (refine S_Assign ?_)) | ((with_reducible show W _ FR (exec (Stmt.If _ _ _ _) _) _ _ _ _); first | ((with_reducible refine S_If ?_))) | ((with_reducible show W _ FR (exec (Stmt.Expr _ _) _) _ _ _ _); first | (refine S_ExprV ?_ (inter (by assumption)))) | ((with_reducible show W _ BR (isTrue (Expr.BoolOp _ _ _) _ _) _ _ _ _); first | ((with_reducible refine T_BoolOp ?_))) | ((with_reducible show W _ BR (isTrue (Expr.Compare _ _ _ _) _ _) _ _ _ _); first | (refine T_Compare ?_)) | ((with_reducible show W _ BR (isTrue _ _ _) _ _ _ _); first | (refine T_plain rfl ?_)) | ((with_reducible show Op2 _ _ _ _ _ _ _ _); first | ((with_reducible refine add_ints ?_)) | ((with_reducible refine gt_ints ?_)) | ((with_reducible refine eq_ints ?_)) | ((with_reducible refine ne_ints ?_)) | ((with_reducible refine ne_strs ?_))) | ((with_reducible show Tru _ _ _ _ _ _); first | ((with_reducible refine tru_bool ?_))) | ((with_reducible show Br true _ _); first | ((with_reducible refine br_t ?_))) | ((with_reducible show Br false _ _); first | ((with_reducible refine br_f ?_))) | ((with_reducible show Br (decide _) _ _); first | ((with_reducible refine br_ne_self ?_)) | ((with_reducible refine br_yes (by assumption) ?_))) | ((with_reducible show Args _ _ _ _ _ _); first | ((with_reducible refine args_cons' ?_)) | ((with_reducible refine args_nil' ?_))) | ((with_reducible show TstAll _ _ _ _ _ _ _); first | ((with_reducible refine tst_and ?_)) | ((with_reducible refine tst_and_nil ?_)) | ((with_reducible refine tst_or ?_)) | ((with_reducible refine tst_or_nil ?_))) | ((with_reducible show Kp _ _ ∧ _); first | ((with_reducible refine kp_and kp_blt ?_)) | ((with_reducible refine kp_met (by first | k_dflt (assumption) | fail) (by first | (k_dflt ((with_reducible_and_instances repeat (first | exact List.Mem.head _ | apply List.Mem.tail))); done) | fail) ?_)) | ((with_reducible refine kp_fun (by first | k_dflt (assumption) | fail) (by first | (k_dflt ((with_reducible_and_instances repeat (first | exact List.Mem.head _ | apply List.Mem.tail))); done) | fail) ?_))) | ((with_reducible show _ ≤ _ ∧ _); first | ((with_reducible refine disp (by first | (k_dflt ((first | assumption | omega | decide | (simp only [List.length_append, List.length_cons, List.length_nil, List.length_drop, List.length_take, List.length_map]; omega) | (simp only [List.length_append, List.length_cons, List.length_nil, List.length_drop, List.length_take, List.length_map] at *; omega))); done) | fail) ?_); intro _)) | ((with_reducible show plainV _ = true ∧ _); first | ((with_reducible refine plain_and rfl ?_))) | ((with_reducible show Asg _ _ _ _ _ _ _); first | ((with_reducible refine asg_name ?_))) | ((with_reducible show Sto _ _ _ _ _ _ _); first | ((with_reducible refine Sto_local (by first | k_dflt (assumption) | fail) (by first | k_dflt (assumption) | fail) (by first | k_dflt (assumption) | fail) (by first | (k_dflt ((with_reducible repeat (first | exact Put.here | apply Put.there))); done) | fail) ?_))) | ((with_reducible show GetM _ _ _ _ _ _ _); first | ((with_reducible refine getm_tk (by first | k_dflt (assumption) | fail) (by first | k_dflt (assumption) | fail) (by first | (k_dflt ((with_reducible_and_instances repeat (first | exact List.Mem.head _ | apply List.Mem.tail))); done) | fail) (by first | (k_dflt ((with_reducible_and_instances repeat (first | exact List.Mem.head _ | apply List.Mem.tail))); done) | fail) (by first | (k_dflt ((with_reducible_and_instances repeat (first | exact List.Mem.head _ | apply List.Mem.tail))); done) | fail) (by first | (k_dflt ((repeat (first | with_reducible exact NoEnt.nil | (with_reducible apply NoEnt.cons; (focus decide))))); done) | fail) ?_))) | ((with_reducible show GetA _ _ _ _ _ _ _); first | ((with_reducible refine geta_tk (by first | k_dflt (assumption) | fail) (by first | k_dflt (assumption) | fail) (by first | (k_dflt ((with_reducible_and_instances repeat (first | exact List.Mem.head _ | apply List.Mem.tail))); done) | fail) (by first | (k_dflt ((with_reducible_and_instances repeat (first | exact List.Mem.head _ | apply List.Mem.tail))); done) | fail) (by first | (k_dflt ((with_reducible_and_instances repeat (first | exact List.Mem.head _ | apply List.Mem.tail))); done) | fail) (by first | (k_dflt ((with_reducible repeat (first | exact Ent.here | (apply Ent.there; (focus decide))))); done) | fail) (by first | (k_dflt (first | exact rfl | exact handed_ovV _ | assumption); done) | fail) ?_))) | fail)
                all_goals first
                  | (refine' hT2 (i2, o2) _ _ _ ?gl ?gp trivial; (case gl => (with_reducible repeat (first | exact LoS.nil | apply LoS.keep | apply LoS.drop))); (case gp => (with_reducible repeat (first | exact Picks.nil | (apply Picks.cons; (focus (with_reducible repeat (first | exact Pick.head | apply Pick.tail))))))))
              · have hb : m < r.length ∨ (false : Bool) = false ∧ nz.toNat ≤ m := .inr ⟨rfl, by omega⟩
                have ecut : cut (r.map V.str) none (some (m : Int)) = (r.take m).map V.str := cut_ns_map
                have hjz : ((r.take m).map List.length).sum ≤ 100000 := by
                  rw [← List.length_flatten]
                  exact Nat.le_trans (tkz_flat Hi m) hl5
                repeat' (first | ((with_reducible show Sub2 _ _ _ _ _ _ _ _ _); first | ((refine sub_at (by first | (k_dflt ((first | (refine' Or.inl ?lm; (case lm => (with_reducible_and_instances repeat (first | exact List.Mem.head _ | apply List.Mem.tail)))) | exact LA.base (by assumption))); done) | fail) (by first | k_dflt (assumption) | fail) (by first | k_dflt (assumption) | fail) (by first | k_dflt (assumption) | fail) ?_))) | ((with_reducible show Cut _ _ _ _ _ _ _ _ _ _); first | ((refine cut_listE (by first | (k_dflt ((first | (refine' Or.inl ?lm; (case lm => (with_reducible_and_instances repeat (first | exact List.Mem.head _ | apply List.Mem.tail)))) | exact LA.base (by assumption))); done) | fail) (by first | k_dflt (assumption) | fail) (by first | (k_dflt ((first | assumption | omega | decide | (simp only [List.length_append, List.length_cons, List.length_nil, List.length_drop, List.length_take, List.length_map]; omega) | (simp only [List.length_append, List.length_cons, List.length_nil, List.length_drop, List.length_take, List.length_map] at *; omega))); done) | fail) ?_); intro _)) | ((with_reducible show Op2 _ _ _ _ _ _ _ _); first | ((with_reducible refine ne_ovE ?_)) | ((with_reducible refine add_lists (by first | (k_dflt ((with_reducible_and_instances repeat (first | exact List.Mem.head _ | apply List.Mem.tail))); done) | fail) (by first | (k_dflt ((with_reducible_and_instances repeat (first | exact List.Mem.head _ | apply List.Mem.tail))); done) | fail) (by first | (k_dflt ((first | assumption | omega | decide | (simp only [List.length_append, List.length_cons, List.length_nil, List.length_drop, List.length_take, List.length_map]; omega) | (simp only [List.length_append, List.length_cons, List.length_nil, List.length_drop, List.length_take, List.length_map] at *; omega))); done) | fail) ?_); intro _)) | ((with_reducible show Cal _ _ _ _ _ _ _); first | ((refine cal_E (by first | k_dflt (assumption) | fail) (by first | (k_dflt ((with_reducible repeat (first | exact Picks.nil | (apply Picks.cons; (focus (with_reducible repeat (first | exact Pick.head | apply Pick.tail))))))); done) | fail) (got_N (by assumption) (by first | k_dflt (assumption) | fail) (by first | k_dflt (assumption) | fail) (by first | k_dflt (assumption) | fail) (by first | k_dflt (assumption) | fail) (by first | k_dflt (assumption) | fail) (by first | k_dflt (assumption) | fail) (by first | k_dflt (assumption) | fail)) (by first | (k_dflt ((with_reducible repeat (first | exact App.nil | apply App.cons))); done) | fail) (by first | (k_dflt (((try dsimp only); omega)); done) | fail) (by first | (k_dflt (first | exact .inl rfl | exact .inr (by assumption)); done) | fail) ?_)) | ((with_reducible refine max_ints (by first | k_dflt (assumption) | fail) ?_)) | ((with_reducible refine min_intsE (by first | k_dflt (assumption) | fail) (by first | k_dflt (assumption) | fail) ?_)) | ((with_reducible refine join_strs (by first | (k_dflt ((first | (refine' Or.inl ?lm; (case lm => (with_reducible_and_instances repeat (first | exact List.Mem.head _ | apply List.Mem.tail)))) | exact LA.base (by assumption))); done) | fail) (by first | k_dflt (assumption) | fail) ?_))) | ((with_reducible show Cal _ _ _ _ _ _ _); first | ((with_reducible refine len_listE (by first | (k_dflt ((with_reducible_and_instances repeat (first | exact List.Mem.head _ | apply List.Mem.tail))); done) | fail) (by first | k_dflt (assumption) | fail) (by first | (k_dflt ((first | assumption | omega | decide | (simp only [List.length_append, List.length_cons, List.length_nil, List.length_drop, List.length_take, List.length_map]; omega) | (simp only [List.length_append, List.length_cons, List.length_nil, List.length_drop, List.length_take, List.length_map] at *; omega))); done) | fail) ?_))) | ((with_reducible show Cal _ _ _ _ _ _ _); first | ((refine cal_E (by first | k_dflt (assumption) | fail) (by first | (k_dflt ((with_reducible repeat (first | exact Picks.nil | (apply Picks.cons; (focus (with_reducible repeat (first | exact Pick.head | apply Pick.tail))))))); done) | fail) (tell_O (by assumption) (by first | k_dflt (assumption) | fail)) (by first | (k_dflt ((with_reducible repeat (first | exact App.nil | apply App.cons))); done) | fail) (by first | (k_dflt (((try dsimp only); omega)); done) | fail) (by first | (k_dflt (first | exact .inl rfl | exact .inr (by assumption)); done) | fail) ?_))) | ((with_reducible show Cal _ _ _ _ _ _ _); first | ((refine cal_E (by first | k_dflt (assumption) | fail) (by first | (k_dflt ((with_reducible repeat (first | exact Picks.nil | (apply Picks.cons; (focus (with_reducible repeat (first | exact Pick.head | apply Pick.tail))))))); done) | fail) (seek_F (by assumption) (by first | k_dflt (assumption) | fail) (by first | (k_dflt (first | omega | exact Nat.zero_le _); done) | fail) (by first | k_dflt (assumption) | fail) (by first | k_dflt (assumption) | fail)) (by first | (k_dflt ((with_reducible repeat (first | exact App.nil | apply App.cons))); done) | fail) (by first | (k_dflt (((try dsimp only); omega)); done) | fail) (by first | (k_dflt (first | exact .inl rfl | exact .inr (by assumption)); done) | fail) ?_))) | ((with_reducible show Then _ _ _ _ _ _ _); first | ((with_reducible refine then_next ?_))) | ((with_reducible show W _ FR (execs _ _) _ _ _ _); first | ((with_reducible refine S_cons ?_)) | ((with_reducible refine S_nil ?_))) | ((with_reducible show W _ VR (eval (Expr.Name _ _) _) _ _ _ _); first | ((with_reducible refine W_local (by first | k_dflt (assumption) | fail) (by first | k_dflt (assumption) | fail) (by first | k_dflt (assumption) | fail) (by first | (k_dflt ((with_reducible repeat (first | exact Has.here | apply Has.there))); done) | fail) ?_)) | ((with_reducible refine W_globT (by first | k_dflt (assumption) | fail) (by first | k_dflt (assumption) | fail) (by first | k_dflt (assumption) | fail) (by first | (k_dflt ((with_reducible repeat (first | exact InN.here | apply InN.there))); done) | fail) (by first | (k_dflt ((with_reducible_and_instances repeat (first | exact List.Mem.head _ | apply List.Mem.tail))); done) | fail) ?_)) | ((with_reducible refine W_bltT (by first | k_dflt (assumption) | fail) (by first | k_dflt (assumption) | fail) (by first | k_dflt (assumption) | fail) (by first | (k_dflt ((with_reducible repeat (first | exact InN.here | apply InN.there))); done) | fail) (by first | (k_dflt ((with_reducible_and_instances repeat (first | exact List.Mem.head _ | apply List.Mem.tail))); done) | fail) ?_))) | ((with_reducible show W _ VR (eval (Expr.Constant Const.none _ _) _) _ _ _ _); first | ((with_reducible refine W_none ?_))) | ((with_reducible show W _ VR (eval (Expr.Constant (Const.int _) _ _) _) _ _ _ _); first | ((with_reducible refine W_int ?_))) | ((with_reducible show W _ VR (eval (Expr.Constant (Const.str _) _ _) _) _ _ _ _); first | ((with_reducible refine W_str lit0 ?_))) | ((with_reducible show W _ VR (eval (Expr.Attribute _ _ _) _) _ _ _ _); first | (refine W_Attr ?_)) | ((with_reducible show W _ VR (eval (Expr.Call (Expr.Attribute _ _ _) _ _ _) _) _ _ _ _); first | (refine W_Method (by assumption) (by rfl) ?_)) | ((with_reducible show W _ VR (eval (Expr.Call _ _ _ _) _) _ _ _ _); first | (refine W_Call (by assumption) (by rfl) ?_)) | ((with_reducible show W _ VR (eval (Expr.BinOp _ _ _ _) _) _ _ _ _); first | ((with_reducible refine W_BinOp ?_))) | ((with_reducible show W _ VR (eval (Expr.Subscript _ (Expr.Slice _ _ none _) _) _) _ _ _ _); first | (refine W_Slice ?_)) | ((with_reducible show W _ VR (eval (Expr.Subscript _ _ _) _) _ _ _ _); first | (refine W_Sub ?_)) | ((with_reducible show W _ VR (eval (Expr.List _ _) _) _ _ _ _); first | (refine W_List (by rfl) ?_)) | ((with_reducible show W _ FR (exec (Stmt.Assign [Expr.Name _ _] _ _) _) _ _ _ _); first | (refine S_Assign ?_)) | ((with_reducible show W _ FR (exec (Stmt.If _ _ _ _) _) _ _ _ _); first | ((with_reducible refine S_If ?_))) | ((with_reducible show W _ FR (exec (Stmt.Expr _ _) _) _ _ _ _); first | (refine S_ExprV ?_ (inter (by assumption)))) | ((with_reducible show W _ BR (isTrue (Expr.BoolOp _ _ _) _ _) _ _ _ _); first | ((with_reducible refine T_BoolOp ?_))) | ((with_reducible show W _ BR (isTrue (Expr.Compare _ _ _ _) _ _) _ _ _ _); first | (refine T_Compare ?_)) | ((with_reducible show W _ BR (isTrue _ _ _) _ _ _ _); first | (refine T_plain rfl ?_)) | ((with_reducible show Op2 _ _ _ _ _ _ _ _); first | ((with_reducible refine add_ints ?_)) | ((with_reducible refine gt_ints ?_)) | ((with_reducible refine eq_ints ?_)) | ((with_reducible refine ne_ints ?_)) | ((with_reducible refine ne_strs ?_))) | ((with_reducible show Tru _ _ _ _ _ _); first | ((with_reducible refine tru_bool ?_))) | ((with_reducible show Cal _ _ _ _ _ _ _); first | ((with_reducible refine cal_app ?_))) | ((with_reducible show Br false _ _); first | ((with_reducible refine br_f ?_))) | ((with_reducible show Br (decide _) _ _); first | ((with_reducible refine br_ne_self ?_)) | ((with_reducible refine br_yes (by assumption) ?_)) | ((with_reducible refine br_no (by assumption) ?_))) | ((with_reducible show Args _ _ _ _ _ _); first | ((with_reducible refine args_cons' ?_)) | ((with_reducible refine args_nil' ?_))) | ((with_reducible show TstAll _ _ _ _ _ _ _); first | ((with_reducible refine tst_and ?_)) | ((with_reducible refine tst_or ?_)) | ((with_reducible refine tst_or_nil ?_))) | ((with_reducible show Kp _ _ ∧ _); first | ((with_reducible refine kp_and kp_blt ?_)) | ((with_reducible refine kp_met (by first | k_dflt (assumption) | fail) (by first | (k_dflt ((with_reducible_and_instances repeat (first | exact List.Mem.head _ | apply List.Mem.tail))); done) | fail) ?_)) | ((with_reducible refine kp_fun (by first | k_dflt (assumption) | fail) (by first | (k_dflt ((with_reducible_and_instances repeat (first | exact List.Mem.head _ | apply List.Mem.tail))); done) | fail) ?_))) | ((with_reducible show _ ≤ _ ∧ _); first | ((with_reducible refine disp (by first | (k_dflt ((first | assumption | omega | decide | (simp only [List.length_append, List.length_cons, List.length_nil, List.length_drop, List.length_take, List.length_map]; omega) | (simp only [List.length_append, List.length_cons, List.length_nil, List.length_drop, List.length_take, List.length_map] at *; omega))); done) | fail) ?_); intro _)) | ((with_reducible show plainV _ = true ∧ _); first | ((with_reducible refine plain_and rfl ?_))) | ((with_reducible show Asg _ _ _ _ _ _ _); first | ((with_reducible refine asg_name ?_))) | ((with_reducible show Sto _ _ _ _ _ _ _); first | ((with_reducible refine Sto_local (by first | k_dflt (assumption) | fail) (by first | k_dflt (assumption) | fail) (by first | k_dflt (assumption) | fail) (by first | (k_dflt ((with_reducible repeat (first | exact Put.here | apply Put.there))); done) | fail) ?_))) | ((with_reducible show Part _ _ _ _ _ _); first | ((with_reducible refine part_none ?_)) | ((with_reducible refine part_some ?_))) | ((with_reducible show ∃ _, V.int _ = V.int _ ∧ _); first | ((with_reducible refine int_ex ?_))) | ((with_reducible show GetM _ _ _ _ _ _ _); first | (with_reducible refine getm_str PySem.F.slot_str_join PySem.F.type_str_join ?_) | ((with_reducible refine getm_tk (by first | k_dflt (assumption) | fail) (by first | k_dflt (assumption) | fail) (by first | (k_dflt ((with_reducible_and_instances repeat (first | exact List.Mem.head _ | apply List.Mem.tail))); done) | fail) (by first | (k_dflt ((with_reducible_and_instances repeat (first | exact List.Mem.head _ | apply List.Mem.tail))); done) | fail) (by first | (k_dflt ((with_reducible_and_instances repeat (first | exact List.Mem.head _ | apply List.Mem.tail))); done) | fail) (by first | (k_dflt ((repeat (first | with_reducible exact NoEnt.nil | (with_reducible apply NoEnt.cons; (focus decide))))); done) | fail) ?_))) | ((with_reducible show GetA _ _ _ _ _ _ _); first | ((with_reducible refine geta_tk (by first | k_dflt (assumption) | fail) (by first | k_dflt (assumption) | fail) (by first | (k_dflt ((with_reducible_and_instances repeat (first | exact List.Mem.head _ | apply List.Mem.tail))); done) | fail) (by first | (k_dflt ((with_reducible_and_instances repeat (first | exact List.Mem.head _ | apply List.Mem.tail))); done) | fail) (by first | (k_dflt ((with_reducible_and_instances repeat (first | exact List.Mem.head _ | apply List.Mem.tail))); done) | fail) (by first | (k_dflt ((with_reducible repeat (first | exact Ent.here | (apply Ent.there; (focus decide))))); done) | fail) (by first | (k_dflt (first | exact rfl | exact handed_ovV _ | assumption); done) | fail) ?_))) | fail)
                all_goals first
                  | (refine' hT2 (i2, o2) _ _ _ ?gl ?gp trivial; (case gl => (with_reducible repeat (first | exact LoS.nil | apply LoS.keep | apply LoS.drop))); (case gp => (with_reducible repeat (first | exact Picks.nil | (apply Picks.cons; (focus (with_reducible repeat (first | exact Pick.head | apply Pick.tail))))))))
          · have hml : m < r.length := by omega
            have hmr1 : ¬ ((m : Nat) : Int) = (r.length : Int) := by omega
            have hb : m < r.length ∨ e = false ∧ nz.toNat ≤ m := .inl hml
            obtain ⟨i2, o2, H2⟩ := tkz_from Hi (m := m) hmle.2 (fun _ => hml)
            have hn2 := H2.n
            have hcm : Pl[((i : Int) + (m : Int)).toNat]? = some (V.int ((p + (r.take m).flatten.length : Nat) : Int)) := hPi m hmle.2
            have hnx : (r.map V.str ++ [V.none])[((m : Nat) : Int).toNat]? = some (ovV o2) := tkz_next H2 hmle.2
            have hj0 : (0 : Int) ≤ (i : Int) + (m : Int) := by omega
            have ecut : cut (r.map V.str) none (some (m : Int)) = (r.take m).map V.str := cut_ns_map
            have hjz : ((r.take m).map List.length).sum ≤ 100000 := by
              rw [← List.length_flatten]
              exact Nat.le_trans (tkz_flat Hi m) hl5
            repeat' (first | ((with_reducible show Sub2 _ _ _ _ _ _ _ _ _); first | ((refine sub_at (by first | (k_dflt ((first | (refine' Or.inl ?lm; (case lm => (with_reducible_and_instances repeat (first | exact List.Mem.head _ | apply List.Mem.tail)))) | exact LA.base (by assumption))); done) | fail) (by first | k_dflt (assumption) | fail) (by first | k_dflt (assumption) | fail) (by first | k_dflt (assumption) | fail) ?_))) | ((with_reducible show Cut _ _ _ _ _ _ _ _ _ _); first | ((refine cut_listE (by first | (k_dflt ((first | (refine' Or.inl ?lm; (case lm => (with_reducible_and_instances repeat (first | exact List.Mem.head _ | apply List.Mem.tail)))) | exact LA.base (by assumption))); done) | fail) (by first | k_dflt (assumption) | fail) (by first | (k_dflt ((first | assumption | omega | decide | (simp only [List.length_append, List.length_cons, List.length_nil, List.length_drop, List.length_take, List.length_map]; omega) | (simp only [List.length_append, List.length_cons, List.length_nil, List.length_drop, List.length_take, List.length_map] at *; omega))); done) | fail) ?_); intro _)) | ((with_reducible show Op2 _ _ _ _ _ _ _ _); first | ((with_reducible refine ne_ovE ?_)) | ((with_reducible refine add_lists (by first | (k_dflt ((with_reducible_and_instances repeat (first | exact List.Mem.head _ | apply List.Mem.tail))); done) | fail) (by first | (k_dflt ((with_reducible_and_instances repeat (first | exact List.Mem.head _ | apply List.Mem.tail))); done) | fail) (by first | (k_dflt ((first | assumption | omega | decide | (simp only [List.length_append, List.length_cons, List.length_nil, List.length_drop, List.length_take, List.length_map]; omega) | (simp only [List.length_append, List.length_cons, List.length_nil, List.length_drop, List.length_take, List.length_map] at *; omega))); done) | fail) ?_); intro _)) | ((with_reducible show Cal _ _ _ _ _ _ _); first | ((refine cal_E (by first | k_dflt (assumption) | fail) (by first | (k_dflt ((with_reducible repeat (first | exact Picks.nil | (apply Picks.cons; (focus (with_reducible repeat (first | exact Pick.head | apply Pick.tail))))))); done) | fail) (got_N (by assumption) (by first | k_dflt (assumption) | fail) (by first | k_dflt (assumption) | fail) (by first | k_dflt (assumption) | fail) (by first | k_dflt (assumption) | fail) (by first | k_dflt (assumption) | fail) (by first | k_dflt (assumption) | fail) (by first | k_dflt (assumption) | fail)) (by first | (k_dflt ((with_reducible repeat (first | exact App.nil | apply App.cons))); done) | fail) (by first | (k_dflt (((try dsimp only); omega)); done) | fail) (by first | (k_dflt (first | exact .inl rfl | exact .inr (by assumption)); done) | fail) ?_)) | ((with_reducible refine max_ints (by first | k_dflt (assumption) | fail) ?_)) | ((with_reducible refine min_intsE (by first | k_dflt (assumption) | fail) (by first | k_dflt (assumption) | fail) ?_)) | ((with_reducible refine join_strs (by first | (k_dflt ((first | (refine' Or.inl ?lm; (case lm => (with_reducible_and_instances repeat (first | exact List.Mem.head _ | apply List.Mem.tail)))) | exact LA.base (by assumption))); done) | fail) (by first | k_dflt (assumption) | fail) ?_))) | ((with_reducible show Cal _ _ _ _ _ _ _); first | ((with_reducible refine len_listE (by first | (k_dflt ((with_reducible_and_instances repeat (first | exact List.Mem.head _ | apply List.Mem.tail))); done) | fail) (by first | k_dflt (assumption) | fail) (by first | (k_dflt ((first | assumption | omega | decide | (simp only [List.length_append, List.length_cons, List.length_nil, List.length_drop, List.length_take, List.length_map]; omega) | (simp only [List.length_append, List.length_cons, List.length_nil, List.length_drop, List.length_take, List.length_map] at *; omega))); done) | fail) ?_))) | ((with_reducible show Cal _ _ _ _ _ _ _); first | ((refine cal_E (by first | k_dflt (assumption) | fail) (by first | (k_dflt ((with_reducible repeat (first | exact Picks.nil | (apply Picks.cons; (focus (with_reducible repeat (first | exact Pick.head | apply Pick.tail))))))); done) | fail) (tell_O (by assumption) (by first | k_dflt (assumption) | fail)) (by first | (k_dflt ((with_reducible repeat (first | exact App.nil | apply App.cons))); done) | fail) (by first | (k_dflt (((try dsimp only); omega)); done) | fail) (by first | (k_dflt (first | exact .inl rfl | exact .inr (by assumption)); done) | fail) ?_))) | ((with_reducible show Cal _ _ _ _ _ _ _); first | ((refine cal_E (by first | k_dflt (assumption) | fail) (by first | (k_dflt ((with_reducible repeat (first | exact Picks.nil | (apply Picks.cons; (focus (with_reducible repeat (first | exact Pick.head | apply Pick.tail))))))); done) | fail) (seek_F (by assumption) (by first | k_dflt (assumption) | fail) (by first | (k_dflt (first | omega | exact Nat.zero_le _); done) | fail) (by first | k_dflt (assumption) | fail) (by first | k_dflt (assumption) | fail)) (by first | (k_dflt ((with_reducible repeat (first | exact App.nil | apply App.cons))); done) | fail) (by first | (k_dflt (((try dsimp only); omega)); done) | fail) (by first | (k_dflt (first | exact .inl rfl | exact .inr (by assumption)); done) | fail) ?_))) | ((with_reducible show Then _ _ _ _ _ _ _); first | ((with_reducible refine then_next ?_))) | ((with_reducible show W _ FR (execs _ _) _ _ _ _); first | ((with_reducible refine S_cons ?_)) | ((with_reducible refine S_nil ?_))) | ((with_reducible show W _ VR (eval (Expr.Name _ _) _) _ _ _ _); first | ((with_reducible refine W_local (by first | k_dflt (assumption) | fail) (by first | k_dflt (assumption) | fail) (by first | k_dflt (assumption) | fail) (by first | (k_dflt ((with_reducible repeat (first | exact Has.here | apply Has.there))); done) | fail) ?_)) | ((with_reducible refine W_globT (by first | k_dflt (assumption) | fail) (by first | k_dflt (assumption) | fail) (by first | k_dflt (assumption) | fail) (by first | (k_dflt ((with_reducible repeat (first | exact InN.here | apply InN.there))); done) | fail) (by first | (k_dflt ((with_reducible_and_instances repeat (first | exact List.Mem.head _ | apply List.Mem.tail))); done) | fail) ?_)) | ((with_reducible refine W_bltT (by first | k_dflt (assumption) | fail) (by first | k_dflt (assumption) | fail) (by first | k_dflt (assumption) | fail) (by first | (k_dflt ((with_reducible repeat (first | exact InN.here | apply InN.there))); done) | fail) (by first | (k_dflt ((with_reducible_and_instances repeat (first | exact List.Mem.head _ | apply List.Mem.tail))); done) | fail) ?_))) | ((with_reducible show W _ VR (eval (Expr.Constant Const.none _ _) _) _ _ _ _); first | ((with_reducible refine W_none ?_))) | ((with_reducible show W _ VR (eval (Expr.Constant (Const.int _) _ _) _) _ _ _ _); first | ((with_reducible refine W_int ?_))) | ((with_reducible show W _ VR (eval (Expr.Constant (Const.str _) _ _) _) _ _ _ _); first | ((with_reducible refine W_str lit0 ?_))) | ((with_reducible show W _ VR (eval (Expr.Attribute _ _ _) _) _ _ _ _); first | (refine W_Attr ?_)) | ((with_reducible show W _ VR (eval (Expr.Call (Expr.Attribute _ _ _) _ _ _) _) _ _ _ _); first | (refine W_Method (by assumption) (by rfl) ?_)) | ((with_reducible show W _ VR (eval (Expr.Call _ _ _ _) _) _ _ _ _); first | (refine W_Call (by assumption) (by rfl) ?_)) | ((with_reducible show W _ VR (eval (Expr.BinOp _ _ _ _) _) _ _ _ _); first | ((with_reducible refine W_BinOp ?_))) | ((with_reducible show W _ VR (eval (Expr.Subscript _ (Expr.Slice _ _ none _) _) _) _ _ _ _); first | (refine W_Slice ?_)) | ((with_reducible show W _ VR (eval (Expr.Subscript _ _ _) _) _ _ _ _); first | (refine W_Sub ?_)) | ((with_reducible show W _ VR (eval (Expr.List _ _) _) _ _ _ _); first | (refine W_List (by rfl) ?_)) | ((with_reducible show W _ FR (exec (Stmt.Assign [Expr.Name _ _] _ _) _) _ _ _ _); first | (refine S_Assign ?_)) | ((with_reducible show W _ FR (exec (Stmt.If _ _ _ _) _) _ _ _ _); first | ((with_reducible refine S_If ?_))) | ((with_reducible show W _ FR (exec (Stmt.Expr _ _) _) _ _ _ _); first | (refine S_ExprV ?_ (inter (by assumption)))) | ((with_reducible show W _ BR (isTrue (Expr.BoolOp _ _ _) _ _) _ _ _ _); first | ((with_reducible refine T_BoolOp ?_))) | ((with_reducible show W _ BR (isTrue (Expr.Compare _ _ _ _) _ _) _ _ _ _); first | (refine T_Compare ?_)) | ((with_reducible show W _ BR (isTrue _ _ _) _ _ _ _); first | (refine T_plain rfl ?_)) | ((with_reducible show Op2 _ _ _ _ _ _ _ _); first | ((with_reducible refine add_ints ?_)) | ((with_reducible refine eq_ints ?_)) | ((with_reducible refine ne_ints ?_)) | ((with_reducible refine ne_strs ?_))) | ((with_reducible show Tru _ _ _ _ _ _); first | ((with_reducible refine tru_bool ?_))) | ((with_reducible show Cal _ _ _ _ _ _ _); first | ((with_reducible refine cal_app ?_))) | ((with_reducible show Br false _ _); first | ((with_reducible refine br_f ?_))) | ((with_reducible show Br (decide _) _ _); first | ((with_reducible refine br_ne_self ?_)) | ((with_reducible refine br_no (by assumption) ?_))) | ((with_reducible show Br _ _ _); first | (with_reducible refine br_b ?_ ?_ <;> intro _)) | ((with_reducible show Args _ _ _ _ _ _); first | ((with_reducible refine args_cons' ?_)) | ((with_reducible refine args_nil' ?_))) | ((with_reducible show TstAll _ _ _ _ _ _ _); first | ((with_reducible refine tst_and ?_)) | ((with_reducible refine tst_or ?_)) | ((with_reducible refine tst_or_nil ?_))) | ((with_reducible show Kp _ _ ∧ _); first | ((with_reducible refine kp_and kp_blt ?_)) | ((with_reducible refine kp_met (by first | k_dflt (assumption) | fail) (by first | (k_dflt ((with_reducible_and_instances repeat (first | exact List.Mem.head _ | apply List.Mem.tail))); done) | fail) ?_)) | ((with_reducible refine kp_fun (by first | k_dflt (assumption) | fail) (by first | (k_dflt ((with_reducible_and_instances repeat (first | exact List.Mem.head _ | apply List.Mem.tail))); done) | fail) ?_))) | ((with_reducible show _ ≤ _ ∧ _); first | ((with_reducible refine disp (by first | (k_dflt ((first | assumption | omega | decide | (simp only [List.length_append, List.length_cons, List.length_nil, List.length_drop, List.length_take, List.length_map]; omega) | (simp only [List.length_append, List.length_cons, List.length_nil, List.length_drop, List.length_take, List.length_map] at *; omega))); done) | fail) ?_); intro _)) | ((with_reducible show plainV _ = true ∧ _); first | ((with_reducible refine plain_and rfl ?_))) | ((with_reducible show Asg _ _ _ _ _ _ _); first | ((with_reducible refine asg_name ?_))) | ((with_reducible show Sto _ _ _ _ _ _ _); first | ((with_reducible refine Sto_local (by first | k_dflt (assumption) | fail) (by first | k_dflt (assumption) | fail) (by first | k_dflt (assumption) | fail) (by first | (k_dflt ((with_reducible repeat (first | exact Put.here | apply Put.there))); done) | fail) ?_))) | ((with_reducible show Part _ _ _ _ _ _); first | ((with_reducible refine part_none ?_)) | ((with_reducible refine part_some ?_))) | ((with_reducible show ∃ _, V.int _ = V.int _ ∧ _); first | ((with_reducible refine int_ex ?_))) | ((with_reducible show GetM _ _ _ _ _ _ _); first | (with_reducible refine getm_str PySem.F.slot_str_join PySem.F.type_str_join ?_) | ((with_reducible refine getm_tk (by first | k_dflt (assumption) | fail) (by first | k_dflt (assumption) | fail) (by first | (k_dflt ((with_reducible_and_instances repeat (first | exact List.Mem.head _ | apply List.Mem.tail))); done) | fail) (by first | (k_dflt ((with_reducible_and_instances repeat (first | exact List.Mem.head _ | apply List.Mem.tail))); done) | fail) (by first | (k_dflt ((with_reducible_and_instances repeat (first | exact List.Mem.head _ | apply List.Mem.tail))); done) | fail) (by first | (k_dflt ((repeat (first | with_reducible exact NoEnt.nil | (with_reducible apply NoEnt.cons; (focus decide))))); done) | fail) ?_))) | ((with_reducible show GetA _ _ _ _ _ _ _); first | ((with_reducible refine geta_tk (by first | k_dflt (assumption) | fail) (by first | k_dflt (assumption) | fail) (by first | (k_dflt ((with_reducible_and_instances repeat (first | exact List.Mem.head _ | apply List.Mem.tail))); done) | fail) (by first | (k_dflt ((with_reducible_and_instances repeat (first | exact List.Mem.head _ | apply List.Mem.tail))); done) | fail) (by first | (k_dflt ((with_reducible_and_instances repeat (first | exact List.Mem.head _ | apply List.Mem.tail))); done) | fail) (by first | (k_dflt ((with_reducible repeat (first | exact Ent.here | (apply Ent.there; (focus decide))))); done) | fail) (by first | (k_dflt (first | exact rfl | exact handed_ovV _ | assumption); done) | fail) ?_))) | fail)
            all_goals first
              | (refine' hT2 (i2, o2) _ _ _ ?gl ?gp trivial; (case gl => (with_reducible repeat (first | exact LoS.nil | apply LoS.keep | apply LoS.drop))); (case gp => (with_reducible repeat (first | exact Picks.nil | (apply Picks.cons; (focus (with_reducible repeat (first | exact Pick.head | apply Pick.tail))))))))
end Mine
end
theorem PySem.Challenge.cw_kq0017_07_holds : PySem.Challenge.rw_kq0017_07.Holds := by
  exact Mine.foo
