import PyProof.Rows.All
import PyProof.AssignAttr
import PyProof.AutoIntG3
import PyProof.ForAny
import PyProof.EqKinds
import PyProof.NeKinds
import PyProof.StationsW
import PyProof.ListMulRight
import PyProof.Rows.TupIter
import PyProof.Rows.StrMul
import PyProof.Rows.MaxTwoN
import KE.KxBytes
import KE.BytesMake
import KE.KItem
import KE.LcSums
import KE.KBytesAny
import KE.LcTurns
import KE.KLcFree
import KE.KState
import KE.KIsBytes
import KE.KSliceW
import KE.KTryMore
import KE.KxDecode
import KE.RegKTryMore
import Wide.FinOn
import OpenK.AllK
import Wide.All
import Lean
import PySem.Challenge.RW_kq0017_11
set_option genSizeOf false
set_option compiler.extract_closed false
section
open PySem PySem.W PyProof.Rows
set_option Elab.async false
namespace Mine
set_option maxRecDepth 100000
set_option maxHeartbeats 8000000
open_top hd for PySem.Challenge.rw_kq0017_11
end Mine
end
section
open PySem PySem.W PySem.Calls PySem.Spec PyProof.Rows
set_option Elab.async false
set_option maxRecDepth 100000
set_option linter.unusedVariables false
namespace Mine

/-- a ledger is a front and the frames behind it -/
inductive Sfx : List (Addr × Obj) → List (Addr × Obj) → List (Addr × Obj) → Prop
  | nil {f} : Sfx [] f f
  | app {r f} : Sfx r f (r ++ f)
  | cons {x n f l} : Sfx n f l → Sfx (x :: n) f (x :: l)
  | app2 {r n f l} : Sfx n f l → Sfx (r ++ n) f (r ++ l)
  | all {l} : Sfx l [] l
theorem Sfx.eq {n f l : List (Addr × Obj)} (h : Sfx n f l) : l = n ++ f := by
  induction h with
  | nil => rfl
  | app => rfl
  | cons _ ih => rw [ih]; rfl
  | app2 _ ih => rw [ih, List.append_assoc]
  | all => rw [List.append_nil]

/-- the frames of the callers: their dict objects, turned in their slots alone since frs0 -/
structure Fram (l : List Env) (frs0 frs : List (Addr × Obj)) : Prop where
  fs : TI.Frs l frs
  su : TI.SameUp frs0 frs
theorem Fram.up {l : List Env} {a b c : List (Addr × Obj)} (x : Fram l a b) (y : TI.SameUp b c) : Fram l a c := ⟨TI.Frs.up x.fs y, TI.SameUp.trans x.su y⟩
theorem sameUp_addrs : ∀ {a b : List (Addr × Obj)}, TI.SameUp a b → b.map (·.1) = a.map (·.1)
  | [], [], _ => rfl
  | [], _ :: _, h => h.elim
  | _ :: _, [], h => h.elim
  | p :: a, q :: b, h => by
    obtain ⟨h1, _, h3⟩ := h
    simp only [List.map_cons, h1, sameUp_addrs h3]

abbrev Apt (as : List Addr) (frs : List (Addr × Obj)) : Prop := ∀ a ∈ as, a ∉ frs.map (·.1)
theorem Apt.up {as : List Addr} {a b : List (Addr × Obj)} (h : Apt as a) (su : TI.SameUp a b) : Apt as b := fun x hx => by rw [sameUp_addrs su]; exact h x hx

section
variable {prog : Program} {w : World} {A : Around} {s : Shared} {hb : Heap} {L : Addr} {m : Str → Option Value} {K : Frag} {p : Program} {loose : List Str} {mean : ExcName → Option Value} {mg mb : Str → Option Value}
  {env : Env} {outer : List Env} {σ frs : List (Addr × Obj)} {R : Result → Shared → Prop}
  {name qual : Str} {params : Arguments} {body : List Stmt} {scope : Scope} {dV kV doc pm cdv ct oc : Value} {an od : Option Addr} {osl : Array (Option Value)} {f : Addr} {args : Args} {binds : List (Str × Value)}

end
section
variable {prog : Program} {w : World} {A₀ : Around} {s' : Shared} {hb h : Heap} {L a e : Addr} {m : Str → Option Value} {name : Str} {scope : Scope} {cd : Value} {l : List Env} {frs0 frs new led : List (Addr × Obj)} {X : String} {Q : Unit → Shared → Prop} {E : Value → Shared → Prop}
end

/-- a text by its signs' numbers -/
def tx (l : List Nat) : Str := ⟨l.toArray⟩
theorem tx_length (l : List Nat) : (tx l).length = l.length := by simp [tx, Str.length]
theorem tx_append (a b : List Nat) : tx a ++ tx b = tx (a ++ b) := by
  show Str.append (tx a) (tx b) = _
  simp [tx, Str.append]
theorem tx_inj {a b : List Nat} : tx a = tx b ↔ a = b := by
  constructor
  · intro h
    have := congrArg (fun z : Str => z.cps.toList) h
    simpa [tx] using this
  · intro h; rw [h]
theorem tx_beq (a b : List Nat) : (tx a == tx b) = decide (a = b) := by
  by_cases h : a = b
  · subst h; simp
  · rw [decide_eq_false h]
    exact beq_eq_false_iff_ne.mpr fun e => h (tx_inj.mp e)
theorem tx_get (l : List Nat) (i : Nat) : (tx l).cps[i]? = l[i]? := by simp [tx]

section
variable {prog : Program} {w : World} {A : Around} {E : Value → Shared → Prop} {s : Shared} {t u : Tok}
theorem str_item_T {value slice : Expr} {l : List Nat} {i : Int} {Q : Value → Shared → Prop} (hh : A.handled = none) (h0 : 0 ≤ i) (h63 : i < 9223372036854775808)
    (hin : ∀ c, l[i.toNat]? = some c → Q (.str (tx [c]) s.toks) { s with toks := s.toks + 1 })
    (hout : l[i.toNat]? = none → ∀ h' tk e, Heap.NewExc s.heap h' e "IndexError" → E (.ref e) { s with heap := h', toks := tk })
    (hs : subscripted slice false (.str (tx l) t) (.int i u) = operate [.str (tx l) t, .int i u] (getItem (.str (tx l) t) (.int i u)) := by with_unfolding_all rfl) :
    wpAny (model prog w) A (subscriptTail value slice (.str (tx l) t) (.int i u)) Q E s := by
  have hr : (decide (i < -(2 ^ 63 : Int)) || decide (i ≥ 2 ^ 63)) = false := by
    rw [Bool.or_eq_false_iff]
    exact ⟨decide_eq_false (by omega), decide_eq_false (by omega)⟩
  refine tail_any (typeIs_str s (tx l) t) F.slot_str_getitem.lookup ?_ hs
  cases hc : l[i.toNat]? with
  | some c =>
    have hlt : i.toNat < l.length := (List.getElem?_eq_some_iff.mp hc).1
    refine P.getItem_str hr (c := c) ?_ (hin c hc)
    have : seqIndex? i (tx l).length = some i.toNat := by
      rw [tx_length]
      unfold seqIndex?
      simp only [ge_iff_le]
      split <;> rename_i h1
      · omega
      · simp <;> omega
    rw [this]
    exact (tx_get l _).trans hc
  | none =>
    have hge : l.length ≤ i.toNat := List.getElem?_eq_none_iff.mp hc
    refine wpAny_getItem_slot (typeIs_str s (tx l) t) (by decide) F.slot_str_getitem ?_
    refine wpAny_call_entry F.slot_str_getitem (typeIs_str s (tx l) t) F.entry_str_getitem ?_ (F.args_str_getitem_2 _ _)
    have e : (seqIndex? i (tx l).length).bind ((tx l).cps[·]?) = none := by
      cases q : seqIndex? i (tx l).length with
      | none => rfl
      | some j =>
        rw [tx_length] at q
        unfold seqIndex? at q
        simp only [ge_iff_le] at q
        split at q <;> simp at q <;> omega
    show wpAny _ _ (if (decide (i < -(2 ^ 63 : Int)) || decide (i ≥ 2 ^ 63)) = true then _ else
          match (seqIndex? i (tx l).length).bind ((tx l).cps[·]?) with
          | some c => retStr ⟨#[c]⟩
          | none => (do rule "str.__getitem__.out-of-range"; raiseError "IndexError" "string index out of range")) _ _ _
    rw [hr, e]
    exact wpAny_bind (wpAny_rule (raiseErrorWords_exc excClass_IndexError hh (hout hc)))
end

section
variable {prog : Program} {w : World} {A : Around} {E : Value → Shared → Prop} {s : Shared} {t u : Tok}
theorem tx_iadd {a b : List Nat} {Q : Value → Shared → Prop} (hsz : a.length + b.length ≤ sizeLine) (h : ∀ t' k, Q (.str (tx (a ++ b)) t') { s with toks := k }) :
    wpAny (model prog w) A (inplaceOp .Add (.str (tx a) t) (.str (tx b) u)) Q E s :=
  SB.iadd (fun t' k => by rw [tx_append]; exact h t' k) (by rw [tx_length, tx_length]; exact hsz)
theorem tx_add {a b : List Nat} {Q : Value → Shared → Prop} (hsz : a.length + b.length ≤ sizeLine) (h : ∀ t' k, Q (.str (tx (a ++ b)) t') { s with toks := k }) :
    wpAny (model prog w) A (binaryOp .Add (.str (tx a) t) (.str (tx b) u)) Q E s :=
  SB.add (fun t' k => by rw [tx_append]; exact h t' k) (by rw [tx_length, tx_length]; exact hsz)
end

section
variable {prog : Program} {w : World} {A₀ : Around} {E : Value → Shared → Prop} {s' : Shared} {hb : Heap} {L a e : Addr} {m : Str → Option Value} {name : Str} {scope : Scope} {cd : Value} {K : Frag}
  {x : Str} {b₀ : Stmt} {suite : List Stmt} {pos np : Pos} {rest : List ExceptHandler} {Q : Flow → Shared → Prop} {news : List (Addr × Obj)} {X T' : String} {p : Program} {loose : List Str} {mean : ExcName → Option Value} {mg mb : Str → Option Value}
end

/-- what a tokenizer finds at a place: its index and its next sign; none: a lone backslash at the end -/
def nxt (l : List Nat) (i : Nat) : Option (Nat × Option (List Nat)) := match l[i]? with
  | none => some (i, none)
  | some c => if c = 92 then (match l[i + 1]? with | none => none | some d => some (i + 2, some [c, d])) else some (i + 1, some [c])
/-- a sign as a value -/
def ov (o : Option (List Nat)) (t : Tok) : Value := match o with
  | none => .none
  | some c => .str (tx c) t
theorem bs_tx : Str.ofString "\\" = tx [92] := by decide +kernel
theorem bs_beq (c : Nat) : (tx [c] == Str.ofString "\\") = decide (c = 92) := by
  rw [bs_tx, tx_beq]
  by_cases h : c = 92 <;> simp [h]
theorem nxt_end {l : List Nat} {i : Nat} (h : l[((i : Nat) : Int).toNat]? = none) : nxt l i = some (i, none) := by
  rw [Int.toNat_natCast] at h
  simp [nxt, h]
theorem nxt_one {l : List Nat} {i c : Nat} (h : l[((i : Nat) : Int).toNat]? = some c) (hc : (tx [c] == Str.ofString "\\") = false) : nxt l i = some (i + 1, some [c]) := by
  rw [Int.toNat_natCast] at h
  rw [bs_beq] at hc
  simp [nxt, h, of_decide_eq_false hc]
theorem nxt_two {l : List Nat} {i c d : Nat} (h : l[((i : Nat) : Int).toNat]? = some c) (hc : (tx [c] == Str.ofString "\\") = true) (h2 : l[((i : Nat) + 1 : Int).toNat]? = some d) : nxt l i = some (i + 2, some ([c] ++ [d])) := by
  rw [Int.toNat_natCast] at h
  rw [bs_beq] at hc
  have e : ((i : Nat) + 1 : Int).toNat = i + 1 := by omega
  rw [e] at h2
  have hc' := of_decide_eq_true hc
  subst hc'
  simp [nxt, h, h2]
theorem nxt_bad {l : List Nat} {i c : Nat} (h : l[((i : Nat) : Int).toNat]? = some c) (hc : (tx [c] == Str.ofString "\\") = true) (h2 : l[((i : Nat) + 1 : Int).toNat]? = none) : nxt l i = none := by
  rw [Int.toNat_natCast] at h
  rw [bs_beq] at hc
  have e : ((i : Nat) + 1 : Int).toNat = i + 1 := by omega
  rw [e] at h2
  have hc' := of_decide_eq_true hc
  subst hc'
  simp [nxt, h, h2]
theorem some_pair {α β : Type} {x : Option (α × β)} {a a' : α} {b b' : β} (h : x = some (a, b)) (h' : x = some (a', b')) : a = a' ∧ b = b' := by
  rw [h] at h'; cases h'; exact ⟨rfl, rfl⟩

section
variable {l : List Nat} {i j c d : Nat} {o : Option (List Nat)}
theorem step_end (hn : nxt l i = some (j, o)) (h : l[((i : Nat) : Int).toNat]? = none) : i = j ∧ none = o := some_pair (nxt_end h) hn
theorem step_one (hn : nxt l i = some (j, o)) (h : l[((i : Nat) : Int).toNat]? = some c) (hc : (tx [c] == Str.ofString "\\") = false) : i + 1 = j ∧ some [c] = o := some_pair (nxt_one h hc) hn
theorem step_two (hn : nxt l i = some (j, o)) (h : l[((i : Nat) : Int).toNat]? = some c) (hc : (tx [c] == Str.ofString "\\") = true) (h2 : l[((i : Nat) + 1 : Int).toNat]? = some d) : i + 2 = j ∧ some ([c] ++ [d]) = o := some_pair (nxt_two h hc h2) hn
theorem step_bad (hn : nxt l i = some (j, o)) (h : l[((i : Nat) : Int).toNat]? = some c) (hc : (tx [c] == Str.ofString "\\") = true) (h2 : l[((i : Nat) + 1 : Int).toNat]? = none) : False := by
  rw [nxt_bad h hc h2] at hn; cases hn
end

section
variable {d t : Addr} {o o' ot : Obj} {new new' frs frs' : List (Addr × Obj)} {hb h : Heap} {L : Addr}
theorem upd_mem : ∀ {l l' : List (Addr × Obj)}, Upd d o o' l l' → ∀ p ∈ l', p = (d, o') ∨ (p ∈ l ∧ p.1 ≠ d)
  | _, _, .head h, p, hp => by
    rcases List.mem_cons.mp hp with rfl | hp
    · exact .inl rfl
    · exact .inr ⟨.tail _ hp, h p hp⟩
  | _, _, .tail n r, p, hp => by
    rcases List.mem_cons.mp hp with rfl | hp
    · exact .inr ⟨.head _, n⟩
    · exact (upd_mem r p hp).imp id fun q => ⟨.tail _ q.1, q.2⟩
abbrev restOf (new : List (Addr × Obj)) (d : Addr) : List (Addr × Obj) := new.filter fun p => p.1 != d
end

abbrev tokD (P : Params) (k0 k1 k2 k3 k4 : Tok) (istext string decoded index next : Value) : List DictEntry :=
  [⟨PyData.keyHash P (Str.ofString "istext"), .str (Str.ofString "istext") k0, istext⟩, ⟨PyData.keyHash P (Str.ofString "string"), .str (Str.ofString "string") k1, string⟩, ⟨PyData.keyHash P (Str.ofString "decoded_string"), .str (Str.ofString "decoded_string") k2, decoded⟩,
   ⟨PyData.keyHash P (Str.ofString "index"), .str (Str.ofString "index") k3, index⟩, ⟨PyData.keyHash P (Str.ofString "next"), .str (Str.ofString "next") k4, next⟩]
abbrev tokO (P : Params) (k0 k1 k2 k3 k4 k5 : Tok) (it st : Value) (l : List Nat) (i : Nat) (t1 : Tok) (nx : Value) : Obj := dictOf (tokD P k0 k1 k2 k3 k4 it st (.str (tx l) k5) (.int (i : Int) t1) nx) 5

section
variable {prog : Program} {w : World} {A : Around} {E : Value → Shared → Prop} {s : Shared} {t u : Tok}
theorem eq_tx {a b : List Nat} {Q : Value → Shared → Prop} (h : Q (.bool (decide (a = b))) s) : wpAny (model prog w) A (compareOp .Eq (.str (tx a) t) (.str (tx b) u)) Q E s :=
  P.eq_str (by
    have e : ((tx a).cps.toList == (tx b).cps.toList) = decide (a = b) := by
      show (a.toArray.toList == b.toArray.toList) = _
      rw [List.toList_toArray, List.toList_toArray]
      by_cases q : a = b <;> simp [q]
    rw [e]; exact h)
theorem truthy_tx {a : List Nat} {Q : Bool → Shared → Prop} (hl : a.length ≤ 100000) (h : Q (decide (a ≠ [])) { s with toks := s.toks + 1 + 1 }) : wpAny (model prog w) A (truthy (.str (tx a) t)) Q E s :=
  SBL.truthy (by rw [tx_length]; omega) (by
    have e : (((tx a).length : Int) != 0) = decide (a ≠ []) := by
      rw [tx_length]
      cases a
      · rfl
      · simp; omega
    rw [e]; exact h)
theorem len_tx {a : List Nat} {Q : Value → Shared → Prop} (hl : a.length ≤ 100000) (h : Q (.int (a.length : Int) (s.toks + 1)) { s with toks := s.toks + 1 + 1 }) : wpAny (model prog w) A (call (.builtin "len") [.str (tx a) t]) Q E s :=
  SBL.len (by rw [tx_length]; omega) (by rw [tx_length]; exact h)
end

end Mine
end
section
open PySem PySem.W PyProof.Rows PySem.Spec PySem.Calls
set_option Elab.async false
namespace Mine
set_option maxRecDepth 100000
section
open PySem.Builtin PySem.Builtin._codecs
theorem loop_l {α : Type} (b : Array UInt8) (f : Nat → Nat × Array Nat × α → Sem (ForInStep (Nat × Array Nat × α))) (st : α)
   (hf : ∀ x i (out : Array Nat), i < b.size → out.size ≤ b.size → f x ⟨i, out, st⟩ = pure (.yield ⟨i + 1, out.push (b.getD i 0).toNat, st⟩)) :
   ∀ (k j i : Nat), i + k = b.size → forIn (List.range' j k) (i, ((b.toList.take i).map (·.toNat)).toArray, st) f = pure (b.size, b.map (·.toNat), st) := by
  intro k
  induction k with
  | zero =>
    intro j i h
    have : i = b.size := by omega
    subst this
    have : ((b.toList.take b.size).map (·.toNat)).toArray = b.map (·.toNat) := by
      apply Array.ext' 
      simp [List.take_of_length_le]
    rw [this]
    rfl
  | succ k ih =>
    intro j i h
    rw [List.range'_succ, List.forIn_cons, hf _ _ _ (by omega) (by simp; omega), pure_bind]
    have := ih (j + 1) (i + 1) (by omega)
    rw [← this]
    have hi : i < b.size := by omega
    have : ((List.take i b.toList).map (·.toNat)).toArray.push (b.getD i 0).toNat = ((List.take (i + 1) b.toList).map (·.toNat)).toArray := by
      simp [List.take_add_one, hi]
    rw [this]
theorem lat_run (id : String) (b : Array UInt8) (hb : b.size ≤ sizeLine) : runDecoder id latin1Decoder none true b 0 [] = pure (b.map (·.toNat), b.size) := by
  unfold runDecoder
  simp only [Std.Legacy.Range.forIn_eq_forIn_range', Std.Legacy.Range.size]
  refine (congrArg (· >>= _) (loop_l b _ _ ?_ ((b.size - 0 + 1 - 1) / 1) 0 0 ?_)).trans ?_
  · intro x i out hi ho
    dsimp only
    rw [if_neg (by omega), if_neg (by omega)]
    show pure (ForInStep.yield (i + 1, out ++ [(b.getD i 0).toNat].toArray, _)) = _
    simp
  · simp
  · rfl
theorem entry_l (c : UInt8) (cs : List UInt8) (t k : Tok) : «bytes.decode» ⟨[.bytes (c :: cs).toArray t], [("encoding", .str (PySem.Str.ofString "latin1") k)]⟩ = (mkStr (PySem.Str.ofString "utf-8") >>= fun _ => mkStr (PySem.Str.ofString "latin1") >>= fun e => mkStr (PySem.Str.ofString "bytes.decode") >>= fun d =>
    call (.builtin "_codecs.decode.text") [.bytes (c :: cs).toArray t, e, .none, d] >>= fun v => ret v) := by kernel_rfl
theorem road_l {id : String} {b : Array UInt8} : _codecs.decodeRoad id b (PySem.Str.ofString "latin1") none [] = (_codecs.runDecoder id _codecs.latin1Decoder none true b 0 [] >>= fun r => mkStr ⟨r.1⟩) := by kernel_rfl
theorem args_l (b : Array UInt8) (t k : Tok) : argsOk "bytes.decode" ⟨[.bytes b t], [("encoding", .str (PySem.Str.ofString "latin1") k)]⟩ := by unfold argsOk; kernel_rfl
theorem typeCall_l (b : Array UInt8) (t k : Tok) : checkTypeCall "str" ⟨[.bytes b t, .str (Str.ofString "latin1") k], []⟩ = pure () := by kernel_rfl
theorem newCall_l (b : Array UInt8) (t k : Tok) : checkBuiltinCall "str.__new__" ⟨[.type "str", .bytes b t, .str (Str.ofString "latin1") k], []⟩ = pure () := by kernel_rfl
theorem init_l (obj a b : Value) : argsOk "object.__init__" ⟨[obj, a, b], []⟩ := by unfold argsOk; kernel_rfl
def latOf (b : Array UInt8) : Str := ⟨b.map (·.toNat)⟩
theorem latOf_length (b : Array UInt8) : (latOf b).length = b.size := by show (b.map _).size = _; simp
section
variable {b : Array UInt8} {t : Tok}
theorem meets_text_l {t1 t2 : Tok} {d : PySem.Str} (hz : b.size ≤ sizeLine) :
    Meets («_codecs.decode.text» ⟨[.bytes b t, .str (PySem.Str.ofString "latin1") t1, .none, .str d t2], []⟩) (fun _ R s => R (.ok (.ret (.str (latOf b) s.toks))) { s with toks := s.toks + 1 }) := by
  refine .of_wp fun prog w A R s h => ?_
  show wpAny _ _ (Bytes.bytesLike _ (.bytes b t) >>= fun r => _) _ _ s
  refine wpAny_bind (wpAny_of_eq KBd.like_eq ?_)
  refine wpAny_bind (wpAny_of_eq KBd.held_eq ?_)
  show wpAny _ _ (_codecs.decodeRoad _ b (PySem.Str.ofString "latin1") none [] >>= fun v => _) _ _ s
  rw [road_l, lat_run _ _ hz]
  refine wpAny_bind (wpAny_bind (wpAny_pure ?_))
  exact wpAny_mkStr (wpAny_pure ⟨_, rfl, h⟩) (by show (latOf b).length ≤ _; rw [latOf_length]; exact hz)
theorem meets_decode_l {k : Tok} (hz : b.size ≤ sizeLine) :
    Meets («bytes.decode» ⟨[.bytes b t], [("encoding", .str (PySem.Str.ofString "latin1") k)]⟩) (fun _ R s => ∀ t' k', R (.ok (.ret (.str (latOf b) t'))) { s with toks := k' }) := by
  refine .of_wp fun prog w A R s h => ?_
  rcases b with ⟨bs⟩
  cases bs with
  | nil =>
    unfold «bytes.decode» Bytes.decodeM
    dsimp only
    refine wpAny_bind (wpAny_of_eq (a := [some (.str (PySem.Str.ofString "latin1") k), none]) (by kernel_rfl) ?_)
    dsimp only
    refine wpAny_bind (wpAny_of_eq (a := ()) (by kernel_rfl) ?_)
    refine wpAny_bind (wpAny_of_eq (a := ()) (by kernel_rfl) ?_)
    refine bm_if_false (by decide) ?_
    refine wpAny_bind (wpAny_pure ?_)
    refine bm_if_true rfl ?_
    refine wpAny_bind (wpAny_rule ?_)
    refine wpAny_bind (wpAny_mkStr ?_ (by decide))
    have e : Str.empty = latOf ⟨[]⟩ := by simp [latOf, Str.empty]
    exact wpAny_pure ⟨_, rfl, (by rw [e]; exact h s.toks (s.toks + 1))⟩
  | cons c cs =>
    rw [entry_l]
    refine wpAny_bind (wpAny_mkStr ?_ (by decide))
    refine wpAny_bind (wpAny_mkStr ?_ (by decide))
    refine wpAny_bind (wpAny_mkStr ?_ (by decide))
    exact wpAny_bind (call_function_meets KBd.kind_text KBd.plain_text KBd.entry_text (KBd.args_text _ _ _ _) (meets_text_l hz) (wpAny_pure ⟨_, rfl, h _ _⟩))
end
section
variable {prog : Program} {w : World} {A : Around} {E : Value → Shared → Prop} {s : Shared} {b : Array UInt8} {t k : Tok}
theorem callKw_meets {T : String} {name : Str} {id : String} {B : Builtin} {self : Value} {rest : List Value} {kw : List (Str × Value)} {S : PySem.Spec} {Q : Value → Shared → Prop} (slot : Slot T name id) (hT : s.TypeIs self T)
    (entry : entryFor table id = some B) (args : argsOk id ⟨self :: rest, kw⟩) (g : Meets (B ⟨self :: rest, kw⟩) S) (h : S A (wants Q E) s) :
    wpAny (model prog w) A (call (.builtin id) (self :: rest) kw) Q E s :=
  wpAny_call (codeAny_call_builtin slot.plain entry (slot.check _ _ _ _ _ _ _ _ hT args (g prog w A (wants Q E) s h)))
theorem meets_new_l (hz : b.size ≤ sizeLine) : Meets («str.__new__» ⟨[.type "str", .bytes b t, .str (Str.ofString "latin1") k], []⟩) (fun _ R s => ∀ t' k', R (.ok (.ret (.str (latOf b) t'))) { s with toks := k' }) := by
  refine .of_wp fun prog w A R s h => ?_
  unfold «str.__new__»
  dsimp only
  refine wpAny_bind (wpAny_of_eq (a := true) rfl ?_)
  refine bm_if_false rfl ?_
  refine wpAny_bind (wpAny_of_eq isSubtype_str_str ?_)
  refine bm_if_false rfl ?_
  refine bm_if_false rfl ?_
  refine wpAny_bind (wpAny_of_eq (a := [some (.bytes b t), some (.str (Str.ofString "latin1") k), none]) (by kernel_rfl) ?_)
  dsimp only
  refine wpAny_bind (wpAny_of_eq (a := some (Str.ofString "latin1")) (by kernel_rfl) ?_)
  refine wpAny_bind (wpAny_of_eq (a := none) (by kernel_rfl) ?_)
  refine bm_if_false rfl ?_
  refine wpAny_bind ?_
  refine wpAny_bind (wpAny_bind (wpAny_mkStr (wpAny_pure ?_) (by decide)))
  refine wpAny_bind (wpAny_pure ?_)
  refine wpAny_bind (wpAny_isInstance (typeIs_bytes _ _ _) F.bm_sub ?_)
  refine bm_if_true rfl ?_
  refine callKw_meets FB.slot_bytes_decode (typeIs_bytes _ _ _) FB.entry_bytes_decode (args_l _ _ _) (meets_decode_l hz) ?_
  intro t' k'
  refine bm_if_true rfl ?_
  exact wpAny_bind (wpAny_pure (wpAny_pure ⟨_, rfl, h _ _⟩))
theorem str_latin {Q : Value → Shared → Prop} (hz : b.size ≤ sizeLine) (h : ∀ t' k', Q (.str (latOf b) t') { s with toks := k' }) : wpAny (model prog w) A (call (.type "str") [.bytes b t, .str (Str.ofString "latin1") k]) Q E s :=
  callType_new F.called_str (by decide) (typeCall_l _ _ _) (newCall_l _ _ _) (fun obj => init_l obj _ _) F.entry_str_new
    (meets_new_l hz) fun t' k' => ⟨typeIs_str _ _ _, h _ _⟩
theorem latOf_tx (b : Array UInt8) {l : List Nat} (h : b.toList.map (·.toNat) = l) : latOf b = tx l := by subst h; simp only [latOf, tx]; congr 1; apply Array.ext'; simp
theorem str_latin_tx {Q : Value → Shared → Prop} {l : List Nat} (hb : b.toList.map (·.toNat) = l) (hz : l.length ≤ sizeLine) (h : ∀ t' k', Q (.str (tx l) t') { s with toks := k' }) : wpAny (model prog w) A (call (.type "str") [.bytes b t, .str (Str.ofString "latin1") k]) Q E s :=
  str_latin (by rw [← hb] at hz; simpa using hz) (by rw [latOf_tx b hb]; exact h)
end
end
end Mine
end
section
open PySem PySem.W PySem.Calls PySem.Spec PyProof.Rows
set_option Elab.async false
set_option maxRecDepth 100000
set_option linter.unusedVariables false
namespace Mine

theorem Fram.nil {l : List Env} {frs : List (Addr × Obj)} (h : Fram l [] frs) : frs = [] := by
  cases frs with
  | nil => rfl
  | cons a b => exact h.su.elim
theorem frames_call {A : Around} {C : Addr} {args : List Value} {l : List Env} (hA : A.frames = some l) : (A.under (.builtin "type.__call__" ⟨.ref C :: args, []⟩)).frames = some l := by
  obtain ⟨hd, d, fr, gs, u⟩ := A
  cases hA
  rfl
section
variable {prog : Program} {w : World} {A : Around} {E : Value → Shared → Prop} {s : Shared} {K : Frag} {C f : Addr} {hb : Heap} {L : Addr} {m : Str → Option Value} {p : Program} {loose : List Str} {mean : ExcName → Option Value} {mg mb : Str → Option Value}
  {env : Env} {outer : List Env}
end

/-- what is new lies off what was there -/
def Offs (new led : List (Addr × Obj)) : Prop := ∀ q ∈ new, ∀ p ∈ led, p.1 ≠ q.1
theorem Offs.nil {led : List (Addr × Obj)} : Offs [] led := fun _ h => nomatch h
theorem Offs.one {D : Addr} {o : Obj} {led fr : List (Addr × Obj)} (h : ∀ p ∈ led ++ fr, p.1 ≠ D) : Offs [(D, o)] led := fun q hq p hp => by
  rw [List.mem_singleton.mp hq]; exact h p (List.mem_append_left _ hp)
end Mine
end
section
open PySem PySem.W PySem.Calls PySem.Spec PyProof.Rows
set_option Elab.async false
set_option maxRecDepth 100000
set_option linter.unusedVariables false
namespace Mine
section
variable {prog : Program} {w : World} {A : Around} {E : Value → Shared → Prop} {s : Shared} {h₀ : Heap} {L : Addr} {m : Str → Option Value} {env : Env} {elt iter : Expr} {x : Str} {px pos : Pos} {scope : Scope} {cl : List (Str × Addr)}
  {news : List (Addr × Obj)} {n : Nat} {P G : Nat → Value → Prop} {S : List (Addr × Obj) → Prop} {Fin : List Value → List (Addr × Obj) → Prop}

end
end Mine
end
section
open PySem PySem.W PySem.Calls PySem.Spec PyProof.Rows
set_option Elab.async false
set_option maxRecDepth 100000
set_option linter.unusedVariables false
namespace Mine

abbrev heapOf {hb h : Heap} {L : Addr} {m : Str → Option Value} (_ : Fr hb L h m) : Heap := h
section
variable {prog : Program} {w : World} {A : Around} {E : Value → Shared → Prop} {Q : Flow → Shared → Prop} {s : Shared} {env : Env} {hb : Heap} {L : Addr} {outer : List Env} {frs0 frs : List (Addr × Obj)}

theorem fram0 : Fram [] [] [] := ⟨trivial, TI.SameUp.refl _⟩
end
end Mine
end
section
open PySem PySem.W PySem.Calls PySem.Spec PyProof.Rows
set_option Elab.async false
set_option maxRecDepth 100000
set_option linter.unusedVariables false
set_option pp.maxSteps 600
namespace Mine

theorem bytes_of (l : List Nat) (h : ∀ c ∈ l, c < 256) : (byteArr (l.map fun (c : Nat) => (c : Int))).toList.map (·.toNat) = l := by
  simp only [byteArr, List.map_map]
  conv => rhs; rw [← List.map_id l]
  refine List.map_congr_left fun c hc => ?_
  have := h c hc
  show ((c : Int).toNat.toUInt8).toNat = c
  simp
  omega

section
variable {prog : Program} {w : World} {A : Around} {E : Value → Shared → Prop} {s : Shared} {hb : Heap} {L D : Addr} {m : Str → Option Value} {led : List (Addr × Obj)} {ys : List Value} {l : List Nat}
end
/-- how many backslashes stand right ahead of p -/
def runAt (l : List Nat) : Nat → Nat
  | 0 => 0
  | p + 1 => if l[p]? = some 92 then runAt l p + 1 else 0
/-- the places ahead of n with an even run of backslashes ahead of them -/
def startsTo (l : List Nat) (n : Nat) : List Nat := (List.range n).filter fun p => runAt l p % 2 = 0
theorem startsTo_yes {l : List Nat} {n : Nat} (h : runAt l n % 2 = 0) : startsTo l (n + 1) = startsTo l n ++ [n] := by
  simp [startsTo, List.range_succ, h]
theorem startsTo_no {l : List Nat} {n : Nat} (h : runAt l n % 2 ≠ 0) : startsTo l (n + 1) = startsTo l n := by
  simp [startsTo, List.range_succ, h]
theorem run_out {l : List Nat} {i c : Nat} (hi : i < l.length) (h2 : l[(0 + (i : Int) - (c : Int) - 1).toNat]? = none) : False := by
  rw [List.getElem?_eq_none_iff] at h2
  omega
section
variable {prog : Program} {w : World} {A : Around} {E : Value → Shared → Prop} {s : Shared} {env : Env}
end

/-- a list's values are these texts -/
def StrsTx (ys : List Value) (cs : List (List Nat)) : Prop := ∃ l : List (Str × Tok), ys = strValues l ∧ l.map (·.1) = cs.map tx
theorem StrsTx.nil : StrsTx [] [] := ⟨[], rfl, rfl⟩
theorem StrsTx.length {ys : List Value} {cs : List (List Nat)} (h : StrsTx ys cs) : ys.length = cs.length := by
  obtain ⟨l, rfl, hl⟩ := h
  have := congrArg List.length hl
  simp only [List.length_map] at this
  simp [strValues, this]
theorem join_flat : ∀ cs : List (List Nat), Txt.join (tx []) (cs.map tx) = tx cs.flatten := by
  intro cs
  refine (StrLaws.glued_eq_join _ _).trans ?_
  induction cs with
  | nil => simp [Str.join, tx, Str.empty]
  | cons c cs ih =>
    cases cs with
    | nil => simp [Str.join]
    | cons d cs =>
      show tx c ++ tx [] ++ Str.join (tx []) ((d :: cs).map tx) = _
      rw [ih, tx_append, tx_append]
      simp
section
variable {prog : Program} {w : World} {A : Around} {E : Value → Shared → Prop} {s : Shared} {hb : Heap} {L D : Addr} {m : Str → Option Value} {led : List (Addr × Obj)} {ys : List Value} {cs : List (List Nat)} {l : List Nat} {t : Tok}
end
section
variable {prog : Program} {w : World} {A : Around} {E : Value → Shared → Prop} {s : Shared}
end
/-- one place of a loop that cuts l at mk: the pieces so far and the end of the last cut -/
def wstep (l mk : List Nat) (st : List (List Nat) × Nat) (p : Nat) : List (List Nat) × Nat :=
  if (l.drop p).take mk.length = mk then (st.1 ++ [(l.drop st.2).take (p - st.2)], p + mk.length) else st
def wfold (l mk : List Nat) (i : Nat) : List (List Nat) × Nat := ((startsTo l l.length).take i).foldl (wstep l mk) ([], 0)
/-- a text that does not end in a backslash is read everywhere -/
theorem nxt_ok {l l0 : List Nat} {c : Nat} (h : l0 ++ [c] = l) (hc : c ≠ 92) (i : Nat) : ∃ j o, nxt l i = some (j, o) := by
  unfold nxt
  cases h1 : l[i]? with
  | none => exact ⟨_, _, rfl⟩
  | some d =>
    dsimp only
    by_cases hd : d = 92
    · rw [if_pos hd]
      cases h2 : l[i + 1]? with
      | some e => exact ⟨_, _, rfl⟩
      | none =>
        exfalso
        rw [List.getElem?_eq_none_iff] at h2
        have hi := (List.getElem?_eq_some_iff.mp h1).1
        have hl : l.length = l0.length + 1 := by rw [← h]; simp
        have e : i = l0.length := by omega
        rw [← h, e, List.getElem?_append_right (Nat.le_refl _), Nat.sub_self] at h1
        simp at h1
        omega
    · rw [if_neg hd]; exact ⟨_, _, rfl⟩
/-- the pieces of l between the places where mk is cut out -/
def cuts (l mk : List Nat) : List (List Nat) := (wfold l mk (startsTo l l.length).length).1 ++ [l.drop (wfold l mk (startsTo l l.length).length).2]
theorem nxt_sign {l : List Nat} {i j : Nat} {s : List Nat} (h : nxt l i = some (j, some s)) : i < l.length ∧ j ≤ l.length ∧ j = i + s.length ∧ s ≠ [] ∧ s ≠ [92] ∧ s = (l.drop i).take s.length ∧ s.length ≤ 2 := by
  unfold nxt at h
  cases h1 : l[i]? with
  | none => rw [h1] at h; cases h
  | some c =>
    rw [h1] at h
    have hi := (List.getElem?_eq_some_iff.mp h1)
    have hd : l.drop i = c :: l.drop (i + 1) := by rw [List.drop_eq_getElem_cons hi.1, hi.2]
    dsimp only at h
    by_cases hc : c = 92
    · rw [if_pos hc] at h
      cases h2 : l[i + 1]? with
      | none => rw [h2] at h; cases h
      | some d =>
        rw [h2] at h
        have hi2 := (List.getElem?_eq_some_iff.mp h2)
        have hd2 : l.drop (i + 1) = d :: l.drop (i + 1 + 1) := by rw [List.drop_eq_getElem_cons hi2.1, hi2.2]
        cases h
        refine ⟨hi.1, hi2.1, rfl, by simp, by simp, ?_, by simp⟩
        rw [hd, hd2, hc]
        rfl
    · rw [if_neg hc] at h
      cases h
      refine ⟨hi.1, hi.1, rfl, by simp, by simpa using hc, ?_, by simp⟩
      rw [hd]
      rfl
theorem nxt_none {l : List Nat} {i j : Nat} (h : nxt l i = some (j, none)) : j = i ∧ l.length ≤ i := by
  unfold nxt at h
  cases h1 : l[i]? with
  | none => rw [h1] at h; cases h; exact ⟨rfl, List.getElem?_eq_none_iff.mp h1⟩
  | some c =>
    rw [h1] at h
    dsimp only at h
    by_cases hc : c = 92
    · rw [if_pos hc] at h
      cases h2 : l[i + 1]? with
      | none => rw [h2] at h; cases h
      | some d => rw [h2] at h; cases h
    · rw [if_neg hc] at h; cases h
section
variable {prog : Program} {w : World} {A : Around} {E : Value → Shared → Prop} {s : Shared} {t : Tok} {c : List Nat} {Q : Value → Shared → Prop}
end
end Mine
end
section
open PySem PySem.W PySem.Calls PySem.Spec PyProof.Rows
set_option Elab.async false
set_option maxRecDepth 100000
set_option linter.unusedVariables false
set_option pp.maxSteps 600
namespace Mine
section
open PySem.Builtin PySem.Builtin.Str
theorem idx_clip {i j : Int} {n : Nat} (hi : 0 ≤ i) (hj : 0 ≤ j) :
    strSliceIndices (some i) (some j) 1 n = strSliceIndices (some ((min i.toNat n : Nat) : Int)) (some ((max (min i.toNat n) (min j.toNat n) : Nat) : Int)) 1 n := by
  have h1 : ¬ (i < 0) := by omega
  have h2 : ¬ (j < 0) := by omega
  have h3 : ¬ (((min i.toNat n : Nat) : Int) < 0) := by omega
  have h4 : ¬ (((max (min i.toNat n) (min j.toNat n) : Nat) : Int) < 0) := by omega
  have e1 : max (0 : Int) (min i (n : Int)) = ((min i.toNat n : Nat) : Int) := by omega
  have e2 : max (0 : Int) (min j (n : Int)) = ((min j.toNat n : Nat) : Int) := by omega
  have e3 : max (0 : Int) (min ((min i.toNat n : Nat) : Int) (n : Int)) = ((min i.toNat n : Nat) : Int) := by omega
  have e4 : max (0 : Int) (min ((max (min i.toNat n) (min j.toNat n) : Nat) : Int) (n : Int)) = ((max (min i.toNat n) (min j.toNat n) : Nat) : Int) := by omega
  simp only [strSliceIndices, h1, h2, h3, h4, if_false, e1, e2, e3, e4, show ((1 : Int) > 0) = True from by simp, if_true]
  unfold sliceRange
  simp only [show ((1 : Int) > 0) = True from by simp, if_true]
  by_cases h : ((min i.toNat n : Nat) : Int) < ((min j.toNat n : Nat) : Int)
  · have : max (min i.toNat n) (min j.toNat n) = min j.toNat n := by omega
    rw [this]
  · rw [if_neg h, if_neg (by omega)]
end
theorem drop_take_clip (l : List Nat) (a b : Nat) : (l.drop (min a l.length)).take (max (min a l.length) (min b l.length) - min a l.length) = (l.drop a).take (b - a) := by
  by_cases ha : a ≤ l.length
  · have e1 : min a l.length = a := by omega
    rw [e1]
    apply List.ext_getElem?
    intro k
    simp only [List.getElem?_take, List.getElem?_drop]
    by_cases hk : a + k < l.length
    · by_cases h2 : k < b - a
      · rw [if_pos h2, if_pos (by omega)]
      · rw [if_neg h2, if_neg (by omega)]
    · have : l[a + k]? = none := List.getElem?_eq_none (by omega)
      rw [this]
      simp
  · have e1 : l.drop a = [] := List.drop_eq_nil_of_le (by omega)
    have e2 : l.drop (min a l.length) = [] := List.drop_eq_nil_of_le (by omega)
    rw [e1, e2]
    simp
theorem slice_tx (l : List Nat) {i j : Int} (hi : 0 ≤ i) (hj : 0 ≤ j) : Txt.slice (tx l) (some i) (some j) = tx ((l.drop i.toNat).take (j.toNat - i.toNat)) := by
  have hz : (tx l).length = l.length := tx_length l
  have h1 : Txt.slice (tx l) (some i) (some j) = StrLaws.sliceText (tx l) (some ((min i.toNat l.length : Nat) : Int)) (some ((max (min i.toNat l.length) (min j.toNat l.length) : Nat) : Int)) := by
    unfold Txt.slice StrLaws.sliceText
    rw [hz, idx_clip hi hj]
  rw [h1, StrLaws.sliceText_nat (tx l) (by omega) (by rw [hz]; omega)]
  show (⟨((l.toArray.toList.drop _).take _).toArray⟩ : Str) = _
  rw [drop_take_clip]
  rfl
theorem slice_from (l : List Nat) {i : Int} (hi : 0 ≤ i) : Txt.slice (tx l) (some i) none = tx (l.drop i.toNat) := by
  have h1 : Txt.slice (tx l) (some i) none = Txt.slice (tx l) (some i) (some (l.length : Int)) := by
    unfold Txt.slice
    rw [StrLaws.sliceIdx_none_hi, tx_length]
  rw [h1, slice_tx l hi (by omega)]
  congr 1
  rw [List.take_of_length_le]
  simp
theorem slice_to (l : List Nat) {j : Int} (hj : 0 ≤ j) : Txt.slice (tx l) none (some j) = tx (l.take j.toNat) := by
  have h1 : Txt.slice (tx l) none (some j) = Txt.slice (tx l) (some 0) (some j) := by
    unfold Txt.slice
    rw [StrLaws.sliceIdx_none_lo]
  rw [h1, slice_tx l (by decide) hj]
  simp
section
variable {prog : Program} {w : World} {A : Around} {E : Value → Shared → Prop} {s : Shared} {hb : Heap} {L : Addr} {m : Str → Option Value} {led : List (Addr × Obj)} {l : List Nat} {t : Tok} {value slice : Expr} {Q : Value → Shared → Prop}
theorem cut_sn {i : Int} {ui : Tok} (F : Fr hb L s.heap m) (N : News hb L s.heap led) (hi : 0 ≤ i) (hl : l.length ≤ 16777216) (h : ∀ h' t' k, Fr hb L h' m → News hb L h' led → Q (.str (tx (l.drop i.toNat)) t') { s with heap := h', toks := k })
    (hs : subscripted slice false (.str (tx l) t) (.ref s.heap.objs.size) = operate [.ref s.heap.objs.size, .str (tx l) t] (getItem (.str (tx l) t) (.ref s.heap.objs.size)) := by with_unfolding_all rfl)
    (ht : ∀ r, letTemporaryGo value (.str (tx l) t) r = pure () := by intro _; with_unfolding_all rfl) :
    wpAny (model prog w) A (subscriptTail value slice (.str (tx l) t) (.ref s.heap.objs.size)) Q E { s with heap := s.heap.push { cls := .type "slice", data := .fields #[.int i ui, .none, .none] } } :=
  slice_strN_sn F N (fun h' t' k F' N' => by rw [slice_from l hi]; exact h h' t' k F' N') hs ht (by rw [tx_length, sizeLine_eq]; exact hl)
theorem cut_ns {j : Int} {uj : Tok} (F : Fr hb L s.heap m) (N : News hb L s.heap led) (hj : 0 ≤ j) (hl : l.length ≤ 16777216) (h : ∀ h' t' k, Fr hb L h' m → News hb L h' led → Q (.str (tx (l.take j.toNat)) t') { s with heap := h', toks := k })
    (hs : subscripted slice false (.str (tx l) t) (.ref s.heap.objs.size) = operate [.ref s.heap.objs.size, .str (tx l) t] (getItem (.str (tx l) t) (.ref s.heap.objs.size)) := by with_unfolding_all rfl)
    (ht : ∀ r, letTemporaryGo value (.str (tx l) t) r = pure () := by intro _; with_unfolding_all rfl) :
    wpAny (model prog w) A (subscriptTail value slice (.str (tx l) t) (.ref s.heap.objs.size)) Q E { s with heap := s.heap.push { cls := .type "slice", data := .fields #[.none, .int j uj, .none] } } :=
  slice_strN_ns F N (fun h' t' k F' N' => by rw [slice_to l hj]; exact h h' t' k F' N') hs ht (by rw [tx_length, sizeLine_eq]; exact hl)
end
end Mine
end
section
open PySem PySem.W PySem.Calls PySem.Spec PyProof.Rows
set_option Elab.async false
set_option maxRecDepth 100000
set_option linter.unusedVariables false
namespace Mine

/-- values without tokens -/
inductive V where
  | none
  | bool (b : Bool)
  | int (i : Int)
  | str (l : List Nat)
  | bytes (l : List Nat)
  | ref (a : Addr)
  | cv (v : Value)

def VR : V → Value → Prop
  | .none, c => c = Value.none
  | .bool b, c => c = .bool b
  | .int i, c => ∃ t, c = .int i t
  | .str l, c => ∃ t, c = .str (tx l) t
  | .bytes l, c => ∃ b t, c = .bytes b t ∧ b.toList.map (·.toNat) = l
  | .ref a, c => c = .ref a
  | .cv v, c => c = v

inductive VRs : List V → List Value → Prop
  | nil : VRs [] []
  | cons {v c vs cs} : VR v c → VRs vs cs → VRs (v :: vs) (c :: cs)
theorem VRs.length : ∀ {vs : List V} {cs : List Value}, VRs vs cs → vs.length = cs.length
  | _, _, .nil => rfl
  | _, _, .cons _ r => by simp [r.length]
theorem VRs.append : ∀ {vs vs' : List V} {cs cs' : List Value}, VRs vs cs → VRs vs' cs' → VRs (vs ++ vs') (cs ++ cs')
  | _, _, _, _, .nil, h => h
  | _, _, _, _, .cons a r, h => .cons a (r.append h)
theorem VRs.one {v : V} {c : Value} (h : VR v c) : VRs [v] [c] := .cons h .nil
theorem VRs.get : ∀ {vs : List V} {cs : List Value}, VRs vs cs → ∀ (i : Nat) (v : V), vs[i]? = some v → ∃ c, cs[i]? = some c ∧ VR v c
  | _, _, .nil, i, v, h => by simp at h
  | _, _, .cons a r, 0, v, h => by simp at h; subst h; exact ⟨_, rfl, a⟩
  | _, _, .cons a r, i + 1, v, h => by
    obtain ⟨c, h1, h2⟩ := r.get i v (by simpa using h)
    exact ⟨c, by simpa using h1, h2⟩
theorem VRs.get' : ∀ {vs : List V} {cs : List Value}, VRs vs cs → ∀ (i : Nat) (c : Value), cs[i]? = some c → ∃ v, vs[i]? = some v ∧ VR v c
  | _, _, .nil, i, v, h => by simp at h
  | _, _, .cons a r, 0, v, h => by simp at h; subst h; exact ⟨_, rfl, a⟩
  | _, _, .cons a r, i + 1, v, h => by
    obtain ⟨c, h1, h2⟩ := r.get' i v (by simpa using h)
    exact ⟨c, by simpa using h1, h2⟩

/-- objects without tokens -/
inductive Ob where
  | list (vs : List V)
  | tup (vs : List V)
  | inst (C d : Addr)
  | dct (es : List (Str × V))
  | set (fz : Bool) (vs : List V)
  | exc (cls : Value) (d : Option Addr) (arg : Option V)
  | cell (v : V)
  | rng (a b : Int)
  | raw (o : Obj)

inductive ERs (P : Params) : List (Str × V) → List DictEntry → Prop
  | nil : ERs P [] []
  | cons {k v t c es cs} : VR v c → ERs P es cs → ERs P ((k, v) :: es) (⟨PyData.keyHash P k, .str k t, c⟩ :: cs)

def obR (P : Params) : Ob → Obj → Prop
  | .list vs, o => ∃ cs n, o = W.listOf cs.toArray n ∧ VRs vs cs
  | .tup vs, o => o.cls = .type "tuple" ∧ ∃ cs n, o.data = .seq cs.toArray n ∧ VRs vs cs
  | .inst C d, o => o = instObj C d
  | .dct es, o => ∃ cs n, o = dictOf cs n ∧ ERs P es cs
  | .set fz vs, o => o.cls = .type (if fz then "frozenset" else "set")
  | .exc cls d arg, o => o.cls = cls ∧ (∀ dd, d = some dd → o.dict = some dd) ∧ ∃ a vs, o.data = .fields (#[a] ++ vs) ∧ vs.size = 5 ∧ ∀ v, arg = some v → VR v a
  | .cell v, o => ∃ c, o.data = .cell (some c) ∧ VR v c
  | .rng a b, o => ∃ t1 t2 t3, o = { cls := .type "range", dict := none, data := .fields #[.int a t1, .int b t2, .int 1 t3], slots := #[] }
  | .raw o', o => o = o'

inductive ORs (P : Params) : List (Addr × Ob) → List (Addr × Obj) → Prop
  | nil : ORs P [] []
  | cons {a b o bs os} : obR P b o → ORs P bs os → ORs P ((a, b) :: bs) ((a, o) :: os)
theorem ORs.map {P : Params} : ∀ {bs : List (Addr × Ob)} {os : List (Addr × Obj)}, ORs P bs os → os.map (·.1) = bs.map (·.1)
  | _, _, .nil => rfl
  | _, _, .cons _ r => by simp [r.map]
theorem ORs.append {P : Params} : ∀ {bs bs' : List (Addr × Ob)} {os os' : List (Addr × Obj)}, ORs P bs os → ORs P bs' os' → ORs P (bs ++ bs') (os ++ os')
  | _, _, _, _, .nil, h => h
  | _, _, _, _, .cons a r, h => .cons a (r.append h)
theorem ORs.split {P : Params} : ∀ {bs bs' : List (Addr × Ob)} {os : List (Addr × Obj)}, ORs P (bs ++ bs') os → ∃ o1 o2, os = o1 ++ o2 ∧ ORs P bs o1 ∧ ORs P bs' o2
  | [], _, os, h => ⟨[], os, rfl, .nil, h⟩
  | b :: bs, bs', _, .cons a r => by
    obtain ⟨o1, o2, rfl, h1, h2⟩ := r.split
    exact ⟨_ :: o1, o2, rfl, .cons a h1, h2⟩
theorem ORs.mem {P : Params} : ∀ {bs : List (Addr × Ob)} {os : List (Addr × Obj)}, ORs P bs os → ∀ {a : Addr} {b : Ob}, (a, b) ∈ bs → ∃ o, (a, o) ∈ os ∧ obR P b o
  | _, _, .nil, _, _, h => nomatch h
  | _, _, .cons x r, a, b, h => by
    rcases List.mem_cons.mp h with e | h
    · cases e; exact ⟨_, .head _, x⟩
    · obtain ⟨o, h1, h2⟩ := r.mem h
      exact ⟨o, .tail _ h1, h2⟩

abbrev Loc := List (Option V)
abbrev Obs := List (Addr × Ob)
abbrev Nms := List (Str × NameKind)

/-- x stands for v -/
inductive Has : Nms → Loc → Str → V → Prop
  | here {x v ns lo} : Has ((x, .local) :: ns) (some v :: lo) x v
  | there {x v p u ns lo} : Has ns lo x v → Has (p :: ns) (u :: lo) x v
/-- storing v under x -/
inductive Put : Nms → Loc → Str → Option V → Loc → Prop
  | here {x v u ns lo} : Put ((x, .local) :: ns) (u :: lo) x v (v :: lo)
  | there {x v p u ns lo lo'} : Put ns lo x v lo' → Put (p :: ns) (u :: lo) x v (u :: lo')
theorem Has.mem {ns : Nms} {lo : Loc} {x : Str} {v : V} (h : Has ns lo x v) : (x, NameKind.local) ∈ ns := by
  induction h with
  | here => exact .head _
  | there _ ih => exact .tail _ ih
theorem Put.mem {ns : Nms} {lo lo' : Loc} {x : Str} {v : Option V} (h : Put ns lo x v lo') : (x, NameKind.local) ∈ ns := by
  induction h with
  | here => exact .head _
  | there _ ih => exact .tail _ ih
theorem lookup_of_mem {ns : Nms} {x : Str} (hn : (ns.map (·.1)).Nodup) (h : (x, NameKind.local) ∈ ns) : ns.lookup x = some .local := by
  induction ns with
  | nil => cases h
  | cons p r ih =>
    obtain ⟨y, k⟩ := p
    rw [List.map_cons, List.nodup_cons] at hn
    rcases List.mem_cons.mp h with e | h
    · cases e; simp [List.lookup]
    · have : x ≠ y := fun e => hn.1 (by rw [← e]; exact List.mem_map_of_mem (f := (·.1)) h)
      rw [List.lookup_cons]
      have e : (x == y) = false := by simpa using this
      rw [e]
      exact ih hn.2 h
theorem Put.has {ns : Nms} {lo lo' : Loc} {x : Str} {v : Option V} (hn : (ns.map (·.1)).Nodup) (h : Put ns lo x v lo') {y : Str} {u : V} (g : Has ns lo' y u) : (y = x ∧ v = some u) ∨ (y ≠ x ∧ Has ns lo y u) := by
  induction h with
  | here =>
    rw [List.map_cons, List.nodup_cons] at hn
    cases g with
    | here => exact .inl ⟨rfl, rfl⟩
    | there g => exact .inr ⟨fun e => hn.1 (by rw [← e]; exact List.mem_map_of_mem (f := (·.1)) g.mem), .there g⟩
  | there h ih =>
    rw [List.map_cons, List.nodup_cons] at hn
    cases g with
    | here => exact .inr ⟨fun e => hn.1 (by rw [e]; exact List.mem_map_of_mem (f := (·.1)) h.mem), .here⟩
    | there g => exact (ih hn.2 g).imp id fun q => ⟨q.1, .there q.2⟩

def LR (ns : Nms) (lo : Loc) (m : Str → Option Value) : Prop := ∀ x v, Has ns lo x v → ∃ c, m x = some c ∧ VR v c

/-- the ground -/
structure G where
  prog : Program
  w : World
  K : Frag
  hb : Heap
  p : Program
  loose : List Str
  mean : ExcName → Option Value
  mg : Str → Option Value
  mb : Str → Option Value
  os0 : OsState
  gens0 : Array GenState
structure G.Ok (g : G) : Prop where
  X : g.K.In g.hb
  T : Top g.p g.loose g.mean g.mg g.mb g.hb
abbrev G.M (g : G) : Model := model g.prog g.w

/-- x is of kind k -/
inductive InN : Nms → Str → NameKind → Prop
  | here {x k ns} : InN ((x, k) :: ns) x k
  | there {x k p ns} : InN ns x k → InN (p :: ns) x k
theorem InN.mem : ∀ {ns : Nms} {x : Str} {k : NameKind}, InN ns x k → (x, k) ∈ ns
  | _, _, _, .here => .head _
  | _, _, _, .there h => .tail _ h.mem
theorem InN.lookup {ns : Nms} {x : Str} {k : NameKind} (h : InN ns x k) (hn : (ns.map (·.1)).Nodup) : ns.lookup x = some k := by
  induction h with
  | here => simp [List.lookup]
  | @there x k p ns h ih =>
    obtain ⟨y, k'⟩ := p
    rw [List.map_cons, List.nodup_cons] at hn
    have : x ≠ y := fun e => hn.1 (by rw [← e]; exact List.mem_map_of_mem (f := (·.1)) h.mem)
    rw [List.lookup_cons]
    have e : (x == y) = false := by simpa using this
    rw [e]
    exact ih hn.2

/-- the frame at hand; cv: a comprehension's own namespace -/
structure Cx where
  g : G
  B : Around
  env : Env
  fenv : Env
  ns : Nms
  outer : List Env
  frs0 : List (Addr × Obj)
  rest : List (Addr × Obj)
  cv : Option (List (Str × V))
  d : Nat
abbrev Cx.L (c : Cx) : Addr := c.fenv.locals

structure Cx.Ok (c : Cx) : Prop where
  g : c.g.Ok
  fr : c.B.frames = some (c.fenv :: c.outer)
  fns : c.fenv.scope.names = c.ns
  nd : (c.ns.map (·.1)).Nodup
  fframe : c.fenv.frame = some c.fenv.locals
  fkind : c.fenv.scope.kind = .function
  frame : c.env.frame = c.fenv.frame
  kind : c.env.scope.kind = .function
  glob : c.env.globals = mainGlobals
  blt : c.env.builtins = builtinsNs
  nd' : (c.env.scope.names.map (·.1)).Nodup
  room : c.B.depth + c.d < recursionLimit
  un : c.B.units + 4 * c.d + 100 < cLine
  fn : c.cv = none → c.env = c.fenv
  cm : ∀ kv, c.cv = some kv → ∃ oC m, (c.env.locals, oC) ∈ c.rest ∧ LCg.NsObj oC m ∧ ∀ p ∈ kv, ∃ v, m p.1 = some v ∧ VR p.2 v

/-- the world outside stands -/
def Og (s s' : Shared) : Prop := s'.os = s.os ∧ s'.gens = s.gens
theorem Og.tr {s s' : Shared} {a : OsState} {b : Array GenState} (h : Og s s') (x : s.os = a ∧ s.gens = b) : s'.os = a ∧ s'.gens = b := ⟨h.1.trans x.1, h.2.trans x.2⟩
structure NowAt (c : Cx) (z : List (Addr × Obj)) (lo : Loc) (ob : Obs) (s : Shared) (m : Str → Option Value) (os frs : List (Addr × Obj)) : Prop where
  F : Fr c.g.hb c.L s.heap m
  lr : LR c.ns lo m
  rs : ORs c.g.w.params ob os
  N : News c.g.hb c.L s.heap (os ++ ((c.rest ++ z) ++ frs))
  nd : ((os ++ (c.rest ++ z)).map (·.1)).Nodup
  fm : Fram c.outer c.frs0 frs
  ap : Apt ((os ++ (c.rest ++ z)).map (·.1)) c.frs0
  og : s.os = c.g.os0 ∧ s.gens = c.g.gens0
def Now (c : Cx) (z : List (Addr × Obj)) (lo : Loc) (ob : Obs) (s : Shared) : Prop := ∃ m os frs, NowAt c z lo ob s m os frs

/-- the traceback of an exception that is on its way -/
def TbOk (c : Cx) (as : List Addr) (h : Heap) (a : Addr) : Prop := ∃ oe vs, h.get? a = some oe ∧ oe.data = .fields vs ∧
  (vs[1]? = some .none ∨ ∃ b ot ts, vs[1]? = some (.ref b) ∧ h.get? b = some ot ∧ ot.data = .fields ts ∧ 3 < ts.size ∧ b ≠ c.L ∧ c.g.hb.get? b = none ∧ b ∉ as)
def Exc (c : Cx) (z : List (Addr × Obj)) (a : Addr) (lo : Loc) (ob : Obs) (s : Shared) : Prop := (∃ cls d arg, (a, Ob.exc cls d arg) ∈ ob) ∧ ∃ m os frs, NowAt c z lo ob s m os frs ∧ TbOk c ((os ++ ((c.rest ++ z) ++ frs)).map (·.1)) s.heap a

abbrev QT (β : Type) := β → Loc → Obs → Prop
def LQ {α β : Type} (c : Cx) (z : List (Addr × Obj)) (rel : β → α → Prop) (Q : QT β) : α → Shared → Prop := fun a s => ∃ b lo ob, rel b a ∧ Now c z lo ob s ∧ Q b lo ob
def LX (c : Cx) (z : List (Addr × Obj)) (X : QT Addr) : Value → Shared → Prop := fun e s => ∃ a lo ob, e = .ref a ∧ Exc c z a lo ob s ∧ X a lo ob

def W {α β : Type} (c : Cx) (rel : β → α → Prop) (t : Sem α) (Q : QT β) (X : QT Addr) (lo : Loc) (ob : Obs) : Prop :=
  ∀ z s, Now c z lo ob s → wpAny c.g.M c.B t (LQ c z rel Q) (LX c z X) s

section
variable {α β γ δ : Type} {c : Cx} {rel : β → α → Prop} {rel' : δ → γ → Prop} {t : Sem α} {Q Q' : QT β} {X X' : QT Addr} {lo : Loc} {ob : Obs}
theorem W.mono (h : W c rel t Q X lo ob) (hQ : ∀ b lo ob, Q b lo ob → Q' b lo ob) (hX : ∀ b lo ob, X b lo ob → X' b lo ob) : W c rel t Q' X' lo ob := fun z s n =>
  wpAny_mono (h z s n) (fun a s' ⟨b, lo, ob, h1, h2, h3⟩ => ⟨b, lo, ob, h1, h2, hQ _ _ _ h3⟩) fun e s' ⟨a, lo, ob, h1, h2, h3⟩ => ⟨a, lo, ob, h1, h2, hX _ _ _ h3⟩
theorem W.bind {f : α → Sem γ} {Q : QT δ} (h : W c rel t (fun b lo ob => ∀ a, rel b a → W c rel' (f a) Q X lo ob) X lo ob) : W c rel' (t >>= f) Q X lo ob := fun z s n =>
  wpAny_bind (wpAny_mono (h z s n) (fun a s' ⟨b, lo, ob, h1, h2, h3⟩ => h3 a h1 z s' h2) fun _ _ x => x)
end

theorem NowAt.toks {c : Cx} {z : List (Addr × Obj)} {lo : Loc} {ob : Obs} {s : Shared} {m : Str → Option Value} {os frs : List (Addr × Obj)} (n : NowAt c z lo ob s m os frs) {s' : Shared} (e : s'.heap = s.heap) (hog : Og s s' := by exact ⟨rfl, rfl⟩) : NowAt c z lo ob s' m os frs :=
  ⟨e ▸ n.F, n.lr, n.rs, e ▸ n.N, n.nd, n.fm, n.ap, hog.tr n.og⟩
theorem Now.toks {c : Cx} {z : List (Addr × Obj)} {lo : Loc} {ob : Obs} {s : Shared} (n : Now c z lo ob s) {s' : Shared} (e : s'.heap = s.heap) (hog : Og s s' := by exact ⟨rfl, rfl⟩) : Now c z lo ob s' := by
  obtain ⟨m, os, frs, n⟩ := n
  exact ⟨m, os, frs, n.toks e hog⟩

/-- forgetting objects -/
inductive Sub : Obs → Obs → Prop
  | nil {l} : Sub [] l
  | cons {p s l} : p ∈ l → Sub s l → Sub (p :: s) l
end Mine
end
section
open PySem PySem.W PySem.Calls PySem.Spec PyProof.Rows
set_option Elab.async false
set_option maxRecDepth 100000
set_option linter.unusedVariables false
namespace Mine

abbrev BR : Bool → Bool → Prop := fun b a => a = b
abbrev UR : Unit → Unit → Prop := fun _ _ => True
inductive AF where
  | next | brk | cont
  | ret (v : V)
def FR : AF → Flow → Prop
  | .next, f => f = .next
  | .brk, f => f = .brk
  | .cont, f => f = .cont
  | .ret v, f => ∃ c, f = .ret c ∧ VR v c

def Op1 (c : Cx) (f : Value → Sem Value) (a : V) (Q : QT V) (X : QT Addr) (lo : Loc) (ob : Obs) : Prop := ∀ ca, VR a ca → W c VR (f ca) Q X lo ob
def Op2 (c : Cx) (f : Value → Value → Sem Value) (a b : V) (Q : QT V) (X : QT Addr) (lo : Loc) (ob : Obs) : Prop := ∀ ca cb, VR a ca → VR b cb → W c VR (f ca cb) Q X lo ob
abbrev Bin (c : Cx) (op : Operator) := Op2 c (binaryOp op)
abbrev Inp (c : Cx) (op : Operator) := Op2 c (inplaceOp op)
abbrev Cmp (c : Cx) (op : CmpOp) := Op2 c (compareOp op)
abbrev Una (c : Cx) (op : UnaryOp) := Op1 c (unaryOp op)
def Tru (c : Cx) (a : V) (Q : QT Bool) (X : QT Addr) (lo : Loc) (ob : Obs) : Prop := ∀ ca, VR a ca → W c BR (truthy ca) Q X lo ob
/-- a call of a value -/
def Cal (c : Cx) (f : V) (as : List V) (Q : QT V) (X : QT Addr) (lo : Loc) (ob : Obs) : Prop := ∀ cf cas, VR f cf → VRs as cas → W c VR (call cf cas) Q X lo ob
def Sub2 (c : Cx) (value slice : Expr) (a b : V) (Q : QT V) (X : QT Addr) (lo : Loc) (ob : Obs) : Prop := ∀ ca cb, VR a ca → VR b cb → W c VR (subscriptTail value slice ca cb) Q X lo ob
def Br (b : Bool) (P P' : Prop) : Prop := (b = true → P) ∧ (b = false → P')

section
variable {c : Cx} {lo : Loc} {ob : Obs} {X : QT Addr} {Q : QT V}
theorem LQ.mk {α β : Type} {z : List (Addr × Obj)} {rel : β → α → Prop} {Q : QT β} {a : α} {b : β} {s : Shared} (hr : rel b a) (n : Now c z lo ob s) (h : Q b lo ob) : LQ c z rel Q a s := ⟨b, lo, ob, hr, n, h⟩

theorem W_none {k : Nat} {p : Pos} (h : Q .none lo ob) : W c VR (eval (.Constant .none k p) c.env) Q X lo ob := fun z s n => (wpAny_pure (LQ.mk (rel := VR) (b := V.none) rfl n h) : wpAny _ _ (pure Value.none) _ _ _)
theorem W_bool {b : Bool} {k : Nat} {p : Pos} (h : Q (.bool b) lo ob) : W c VR (eval (.Constant (.bool b) k p) c.env) Q X lo ob := fun z s n => (wpAny_pure (LQ.mk (rel := VR) (b := V.bool b) rfl n h) : wpAny _ _ (pure (Value.bool b)) _ _ _)
theorem W_int {i : Int} {k : Nat} {p : Pos} (h : Q (.int i) lo ob) : W c VR (eval (.Constant (.int i) k p) c.env) Q X lo ob := fun z s n => (wpAny_mkInt (LQ.mk (rel := VR) (b := V.int i) ⟨_, rfl⟩ (n.toks rfl) h) : wpAny _ _ (mkInt i) _ _ _)
theorem W_str {x : Str} {l : List Nat} {k : Nat} {p : Pos} (e : x = tx l) (h : Q (.str l) lo ob) : W c VR (eval (.Constant (.str x) k p) c.env) Q X lo ob := fun z s n => by
  subst e
  exact (wpAny_mkText (LQ.mk (rel := VR) (b := V.str l) ⟨_, rfl⟩ (n.toks rfl) h) : wpAny _ _ (mkText (tx l)) _ _ _)
theorem Now.K {z : List (Addr × Obj)} {s : Shared} (ok : c.Ok) (n : Now c z lo ob s) : c.g.K.In s.heap := by
  obtain ⟨m, os, frs, n⟩ := n
  exact ok.g.X.keeps n.F.keep

theorem W_local {x : Str} {v : V} {p : Pos} {ns : Nms} (ok : c.Ok) (hv : c.cv = none) (hns : c.ns = ns) (hx : Has ns lo x v) (h : Q v lo ob) (hd : (x == ("__debug__" : Str)) = false := by decide) : W c VR (eval (.Name x p) c.env) Q X lo ob := fun z s n => by
  subst hns
  obtain ⟨m, os, frs, n'⟩ := n
  obtain ⟨cv, hm, hr⟩ := n'.lr x v hx
  have e := ok.fn hv
  refine wpAny_Name (wpAny_loadName_local (m := m) ok.kind ?_ ?_ hm (LQ.mk hr ⟨m, os, frs, n'⟩ h)) hd
  · rw [e]
    show c.fenv.scope.names.lookup x = _
    rw [ok.fns]
    exact lookup_of_mem ok.nd hx.mem
  · rw [e]; exact n'.F.ns
theorem W_comp {x : Str} {v : V} {p : Pos} {kv : List (Str × V)} {ns : Nms} (ok : c.Ok) (hv : c.cv = some kv) (hns : c.env.scope.names = ns) (hk : InN ns x .local) (hx : (x, v) ∈ kv) (h : Q v lo ob) (hd : (x == ("__debug__" : Str)) = false := by decide) : W c VR (eval (.Name x p) c.env) Q X lo ob := fun z s n => by
  subst hns
  obtain ⟨m, os, frs, n'⟩ := n
  obtain ⟨oC, m2, h1, h2, h3⟩ := ok.cm kv hv
  obtain ⟨cv, hm, hr⟩ := h3 _ hx
  have hC := (n'.N _ (List.mem_append_right _ (List.mem_append_left _ (List.mem_append_left _ h1)))).1
  exact wpAny_Name (wpAny_loadName_local (m := m2) ok.kind (hk.lookup ok.nd') (h2.ns hC) hm (LQ.mk hr ⟨m, os, frs, n'⟩ h)) hd
theorem W_glob {x : Str} {v : Value} {p : Pos} {ns : Nms} (ok : c.Ok) (hns : c.env.scope.names = ns) (hk : InN ns x .globalImplicit) (hx : nsIn c.g.K mainGlobals x = some (some v)) {u : V} (hu : VR u v) (h : Q u lo ob) (hd : (x == ("__debug__" : Str)) = false := by decide) : W c VR (eval (.Name x p) c.env) Q X lo ob := fun z s n => by
  subst hns
  obtain ⟨m, os, frs, n'⟩ := n
  refine Calls.Name_function_global ok.kind (hk.lookup ok.nd') (Calls.loadGlobal_global (mg := c.g.mg) ?_ (mg_of ok.g.X ok.g.T.g hx) (LQ.mk hu ⟨m, os, frs, n'⟩ h)) hd
  rw [ok.glob]; exact ok.g.T.g.keeps n'.F.keep
theorem W_blt {x : Str} {v : Value} {p : Pos} {ns : Nms} (ok : c.Ok) (hns : c.env.scope.names = ns) (hk : InN ns x .globalImplicit) (hx : nsIn c.g.K mainGlobals x = some none) (hb : bootBuiltins x = some v) {u : V} (hu : VR u v) (h : Q u lo ob) (hn : x ≠ "__name__" := by decide) (hd : (x == ("__debug__" : Str)) = false := by decide) : W c VR (eval (.Name x p) c.env) Q X lo ob := fun z s n => by
  subst hns
  obtain ⟨m, os, frs, n'⟩ := n
  refine Calls.Name_function_global ok.kind (hk.lookup ok.nd') (Calls.loadGlobal_builtin (mg := c.g.mg) (mb := c.g.mb) ?_ (mg_none_of ok.g.X ok.g.T.g hx) ?_ ((ok.g.T.builtins x hn).trans hb) (LQ.mk hu ⟨m, os, frs, n'⟩ h)) hd
  · rw [ok.glob]; exact ok.g.T.g.keeps n'.F.keep
  · rw [ok.blt]; exact ok.g.T.b.keeps n'.F.keep

theorem W_BinOp {l r : Expr} {op : Operator} {p : Pos} (h : W c VR (eval l c.env) (fun a lo ob => W c VR (eval r c.env) (fun b lo ob => Bin c op a b Q X lo ob) X lo ob) X lo ob) : W c VR (eval (.BinOp l op r p) c.env) Q X lo ob := fun z s n =>
  wpAny_BinOp (wpAny_mono (h z s n) (fun ca s' ⟨a, lo, ob, ha, n, h⟩ => wpAny_mono (h z s' n) (fun cb s' ⟨b, lo, ob, hb, n, h⟩ => h ca cb ha hb z s' n) fun _ _ x => x) fun _ _ x => x)
theorem W_Compare {l r : Expr} {op : CmpOp} {p : Pos} (h : W c VR (eval l c.env) (fun a lo ob => W c VR (eval r c.env) (fun b lo ob => Cmp c op a b Q X lo ob) X lo ob) X lo ob) (hm : behindInMarks op r = false := by with_unfolding_all rfl) : W c VR (eval (.Compare l [op] [r] p) c.env) Q X lo ob := fun z s n =>
  wpAny_Compare1 (wpAny_mono (h z s n) (fun ca s' ⟨a, lo, ob, ha, n, h⟩ => wpAny_mono (h z s' n) (fun cb s' ⟨b, lo, ob, hb, n, h⟩ => h ca cb ha hb z s' n) fun _ _ x => x) fun _ _ x => x) hm
/-- tests -/
abbrev Tst (c : Cx) (e : Expr) (Q : QT Bool) (X : QT Addr) (lo : Loc) (ob : Obs) : Prop := W c BR (isTrue e c.env (eval e c.env)) Q X lo ob
variable {QB : QT Bool}
theorem T_Compare {l r : Expr} {op : CmpOp} {p : Pos} (h : W c VR (eval l c.env) (fun a lo ob => W c VR (eval r c.env) (fun b lo ob => Cmp c op a b (fun v lo ob => Tru c v QB X lo ob) X lo ob) X lo ob) X lo ob) (hm : behindInMarks op r = false := by with_unfolding_all rfl) : Tst c (.Compare l [op] [r] p) QB X lo ob := fun z s n =>
  wpAny_isTrue_Compare1 (wpAny_mono (h z s n) (fun ca s' ⟨a, lo, ob, ha, n, h⟩ => wpAny_mono (h z s' n) (fun cb s' ⟨b, lo, ob, hb, n, h⟩ => wpAny_mono (h ca cb ha hb z s' n) (fun cv s' ⟨v, lo, ob, hv, n, h⟩ => h cv hv z s' n) fun _ _ x => x) fun _ _ x => x) fun _ _ x => x) hm
theorem T_Not {x : Expr} {p : Pos} (h : Tst c x (fun b lo ob => QB (!b) lo ob) X lo ob) : Tst c (.UnaryOp .Not x p) QB X lo ob := fun z s n =>
  wpAny_isTrue_Not (wpAny_mono (h z s n) (fun cv s' ⟨v, lo, ob, hv, n, h⟩ => by subst hv; exact ⟨_, lo, ob, rfl, n, h⟩) fun _ _ x => x)
theorem T_plain {e : Expr} (he : isTrue e c.env (eval e c.env) = (do let v ← eval e c.env; standAt e.pos; holding [v] (truthy v)) := by rfl) (h : W c VR (eval e c.env) (fun v lo ob => Tru c v QB X lo ob) X lo ob) : Tst c e QB X lo ob := fun z s n => by
  rw [he]
  exact wpAny_bind (wpAny_mono (h z s n) (fun ca s' ⟨a, lo, ob, ha, n, h⟩ => wpAny_bind (wpAny_standAt (wpAny_holding (h ca ha z s' n)))) fun _ _ x => x)
def TstAll (c : Cx) (op : BoolOp) : List Expr → QT Bool → QT Addr → Loc → Obs → Prop
  | [], Q, _, lo, ob => Q (op == .And) lo ob
  | e :: r, Q, X, lo, ob => Tst c e (fun v lo ob => Br v (if op == .And then TstAll c op r Q X lo ob else Q true lo ob) (if op == .And then Q false lo ob else TstAll c op r Q X lo ob)) X lo ob
theorem T_all {op : BoolOp} : ∀ {es : List Expr} {lo : Loc} {ob : Obs}, TstAll c op es QB X lo ob → W c BR (allTrue op es c.env) QB X lo ob
  | [], lo, ob, h => fun z s n => (wpAny_pure (LQ.mk (rel := BR) (b := (op == .And)) rfl n h) : wpAny _ _ (pure (op == .And)) _ _ _)
  | e :: r, lo, ob, h => fun z s n => by
    show wpAny _ _ (isTrue e c.env (eval e c.env) >>= fun v => match op, v with | .And, false => pure false | .Or, true => pure true | _, _ => allTrue op r c.env) _ _ _
    refine wpAny_bind (wpAny_mono (h z s n) (fun cv s' ⟨v, lo, ob, hv, n, h⟩ => ?_) fun _ _ x => x)
    subst hv
    cases op <;> cases cv
    · exact wpAny_pure (LQ.mk (rel := BR) (b := false) rfl n (h.2 rfl))
    · exact T_all (h.1 rfl) z s' n
    · exact T_all (h.2 rfl) z s' n
    · exact wpAny_pure (LQ.mk (rel := BR) (b := true) rfl n (h.1 rfl))
theorem T_BoolOp {op : BoolOp} {es : List Expr} {p : Pos} (h : TstAll c op es QB X lo ob) : Tst c (.BoolOp op es p) QB X lo ob := T_all h

def ValAll (c : Cx) (op : BoolOp) : List Expr → QT V → QT Addr → Loc → Obs → Prop
  | [], _, _, _, _ => False
  | [e], Q, X, lo, ob => W c VR (eval e c.env) Q X lo ob
  | e :: r, Q, X, lo, ob => W c VR (eval e c.env) (fun v lo ob => Tru c v (fun b lo ob => Br b (if op == .And then ValAll c op r Q X lo ob else Q v lo ob) (if op == .And then Q v lo ob else ValAll c op r Q X lo ob)) X lo ob) X lo ob
theorem W_valAll {op : BoolOp} {p : Pos} : ∀ {es : List Expr} {lo : Loc} {ob : Obs}, ValAll c op es Q X lo ob → W c VR (boolOp p op (evalEach es c.env)) Q X lo ob
  | [], _, _, h => h.elim
  | [e], lo, ob, h => h
  | e :: e' :: r, lo, ob, h => fun z s n => by
    show wpAny _ _ (eval e c.env >>= fun v => standAt p >>= fun _ => holding [v] (truthy v) >>= fun t => match op, t with | .And, false => pure v | .Or, true => pure v | _, _ => boolOp p op (evalEach (e' :: r) c.env)) _ _ _
    refine wpAny_bind (wpAny_mono (h z s n) (fun ca s' ⟨a, lo, ob, ha, n, h⟩ => wpAny_bind (wpAny_standAt (wpAny_bind (wpAny_holding (wpAny_mono (h ca ha z s' n) (fun cv s' ⟨v, lo, ob, hv, n, h⟩ => ?_) fun _ _ x => x))))) fun _ _ x => x)
    subst hv
    cases op <;> cases cv
    · exact wpAny_pure (LQ.mk ha n (h.2 rfl))
    · exact W_valAll (h.1 rfl) z s' n
    · exact W_valAll (h.2 rfl) z s' n
    · exact wpAny_pure (LQ.mk ha n (h.1 rfl))
theorem W_BoolOp {op : BoolOp} {es : List Expr} {p : Pos} (h : ValAll c op es Q X lo ob) : W c VR (eval (.BoolOp op es p) c.env) Q X lo ob := W_valAll h

/-- the parts of a call or a display, one by one -/
def Args (c : Cx) : List Expr → (List V → Loc → Obs → Prop) → QT Addr → Loc → Obs → Prop
  | [], Q, _, lo, ob => Q [] lo ob
  | e :: r, Q, X, lo, ob => W c VR (eval e c.env) (fun v lo ob => Args c r (fun vs lo ob => Q (v :: vs) lo ob) X lo ob) X lo ob
def noStar : List Expr → Bool
  | [] => true
  | .Starred _ _ :: _ => false
  | _ :: r => noStar r
theorem starEach_of : ∀ {es : List Expr} {env : Env}, noStar es = true → starEach es env = es.map fun e => (false, eval e env)
  | [], _, _ => rfl
  | e :: r, env, h => by
    cases e <;> first | (cases h; done) | (show _ :: starEach r env = _; rw [starEach_of (by exact h)]; rfl)
theorem spliced_of {p : Pos} : ∀ {es : List Expr} {lo : Loc} {ob : Obs} {QS : QT (List V)}, Args c es QS X lo ob → W c VRs (spliced (backTo p (es.map fun e => (false, eval e c.env)))) QS X lo ob
  | [], lo, ob, QS, h => fun z s n => (wpAny_pure (LQ.mk (rel := VRs) (b := []) VRs.nil n h) : wpAny _ _ (pure []) _ _ _)
  | e :: r, lo, ob, QS, h => fun z s n => by
    refine Calls.spliced_cons (wpAny_mono (h z s n) (fun ca s' ⟨a, lo, ob, ha, n, h⟩ => ?_) fun _ _ x => x)
    exact wpAny_mono (spliced_of h z s' n) (fun cs s' ⟨vs, lo, ob, hvs, n, h⟩ => ⟨_, lo, ob, .cons ha hvs, n, h⟩) fun _ _ x => x
end
end Mine
end
section
open PySem PySem.W PySem.Calls PySem.Spec PyProof.Rows
set_option Elab.async false
set_option maxRecDepth 100000
set_option linter.unusedVariables false
namespace Mine

/-- an object is turned -/
inductive OUpd (a : Addr) (b b' : Ob) : Obs → Obs → Prop
  | head {r} : OUpd a b b' ((a, b) :: r) ((a, b') :: r)
  | tail {p r r'} : OUpd a b b' r r' → OUpd a b b' (p :: r) (p :: r')

theorem upd_app {a : Addr} {o o' : Obj} : ∀ {l l' t : List (Addr × Obj)}, (∀ p ∈ t, p.1 ≠ a) → Upd a o o' l l' → Upd a o o' (l ++ t) (l' ++ t)
  | _, _, _, ht, .head h => .head fun p hp => (List.mem_append.mp hp).elim (h p) (ht p)
  | _, _, _, ht, .tail h r => .tail h (upd_app ht r)
theorem nodup_ne {a : Addr} {r : List Addr} (h : (a :: r).Nodup) : ∀ b ∈ r, b ≠ a := fun b hb e => (List.nodup_cons.mp h).1 (e ▸ hb)
theorem ORs.upd {P : Params} {a : Addr} {b b' : Ob} : ∀ {ob ob' : Obs} {os : List (Addr × Obj)}, ORs P ob os → OUpd a b b' ob ob' → (os.map (·.1)).Nodup →
    ∃ o, obR P b o ∧ (a, o) ∈ os ∧ ∀ o', obR P b' o' → ∃ os', Upd a o o' os os' ∧ ORs P ob' os' ∧ os'.map (·.1) = os.map (·.1)
  | _, _, _, .cons (o := o) h r, .head, hn => by
    refine ⟨o, h, .head _, fun o' ho' => ⟨_, .head fun p hp => ?_, .cons ho' r, rfl⟩⟩
    exact nodup_ne hn _ (List.mem_map_of_mem hp)
  | _, _, _, .cons h r, .tail u, hn => by
    obtain ⟨o, h1, hm, h2⟩ := ORs.upd r u (List.nodup_cons.mp hn).2
    refine ⟨o, h1, .tail _ hm, fun o' ho' => ?_⟩
    obtain ⟨os', u', r', e⟩ := h2 o' ho'
    refine ⟨_, .tail ?_ u', .cons h r', by simp [e]⟩
    intro e2
    exact nodup_ne hn a (List.mem_map_of_mem (f := (·.1)) hm) e2.symm

section
variable {c : Cx} {z : List (Addr × Obj)} {lo : Loc} {ob : Obs} {s : Shared} {m : Str → Option Value} {os frs : List (Addr × Obj)}
theorem NowAt.frs_lt (n : NowAt c z lo ob s m os frs) : ∀ p ∈ os ++ ((c.rest ++ z) ++ frs), p.1 < s.heap.objs.size := fun p hp => Heap.lt_size (n.N p hp).1
theorem NowAt.apt (n : NowAt c z lo ob s m os frs) : ∀ p ∈ os ++ (c.rest ++ z), ∀ q ∈ frs, q.1 ≠ p.1 := fun p hp q hq e => by
  refine n.ap p.1 (List.mem_map_of_mem (f := (·.1)) hp) ?_
  rw [← sameUp_addrs n.fm.su, ← e]
  exact List.mem_map_of_mem (f := (·.1)) hq
/-- the same objects at a later heap -/
theorem NowAt.go (n : NowAt c z lo ob s m os frs) {s' : Shared} (F : Fr c.g.hb c.L s'.heap m) (N : News c.g.hb c.L s'.heap (os ++ ((c.rest ++ z) ++ frs))) (hog : Og s s' := by exact ⟨rfl, rfl⟩) : NowAt c z lo ob s' m os frs := ⟨F, n.lr, n.rs, N, n.nd, n.fm, n.ap, hog.tr n.og⟩
/-- one object more -/
theorem NowAt.add (n : NowAt c z lo ob s m os frs) {s' : Shared} {D : Addr} {o : Obj} {b : Ob} (F : Fr c.g.hb c.L s'.heap m) (N : News c.g.hb c.L s'.heap ((D, o) :: (os ++ ((c.rest ++ z) ++ frs)))) (hb : obR c.g.w.params b o)
    (hD : ∀ p ∈ os ++ ((c.rest ++ z) ++ frs), p.1 ≠ D) (hog : Og s s' := by exact ⟨rfl, rfl⟩) : NowAt c z lo ((D, b) :: ob) s' m ((D, o) :: os) frs := by
  refine ⟨F, n.lr, .cons hb n.rs, N, ?_, n.fm, ?_, hog.tr n.og⟩
  · rw [List.cons_append, List.map_cons, List.nodup_cons]
    refine ⟨fun hm => ?_, n.nd⟩
    obtain ⟨p, hp, e⟩ := List.mem_map.mp hm
    exact hD p (by rw [← List.append_assoc]; exact List.mem_append_left _ hp) e
  · intro a ha hm
    rw [List.cons_append, List.map_cons] at ha
    rcases List.mem_cons.mp ha with rfl | ha
    · rw [← sameUp_addrs n.fm.su] at hm
      obtain ⟨p, hp, e⟩ := List.mem_map.mp hm
      exact hD p (List.mem_append_right _ (List.mem_append_right _ hp)) e
    · exact n.ap a ha hm
theorem NowAt.push (n : NowAt c z lo ob s m os frs) {s' : Shared} {o : Obj} {b : Ob} (hb : obR c.g.w.params b o) (e : s'.heap = s.heap.push o) (hf : o.isFreed = false := by rfl) (hog : Og s s' := by exact ⟨rfl, rfl⟩) : NowAt c z lo ((s.heap.objs.size, b) :: ob) s' m ((s.heap.objs.size, o) :: os) frs := by
  refine n.add (by rw [e]; exact n.F.push _) (by rw [e]; exact n.N.push n.F _ hf) hb (fun p hp => Nat.ne_of_lt (n.frs_lt p hp)) hog
theorem nd_left {α β : Type} {a b : List (α × β)} (h : ((a ++ b).map (·.1)).Nodup) : (a.map (·.1)).Nodup := by
  rw [List.map_append] at h
  exact (List.nodup_append.mp h).1
/-- an object is turned -/
theorem NowAt.upd (n : NowAt c z lo ob s m os frs) {a : Addr} {b b' : Ob} {ob' : Obs} (u : OUpd a b b' ob ob') :
    ∃ o, obR c.g.w.params b o ∧ (a, o) ∈ os ∧ ∀ o', obR c.g.w.params b' o' → ∃ os', Upd a o o' (os ++ ((c.rest ++ z) ++ frs)) (os' ++ ((c.rest ++ z) ++ frs)) ∧
      ∀ s' : Shared, Og s s' → Fr c.g.hb c.L s'.heap m → News c.g.hb c.L s'.heap (os' ++ ((c.rest ++ z) ++ frs)) → NowAt c z lo ob' s' m os' frs := by
  obtain ⟨o, h1, hm, h2⟩ := n.rs.upd u (nd_left n.nd)
  refine ⟨o, h1, hm, fun o' ho' => ?_⟩
  obtain ⟨os', u', r', e⟩ := h2 o' ho'
  have e2 : (os' ++ (c.rest ++ z)).map (·.1) = (os ++ (c.rest ++ z)).map (·.1) := by rw [List.map_append, e, ← List.map_append]
  refine ⟨os', upd_app (fun p hp => ?_) u', fun s' hog F N => ⟨F, n.lr, r', N, by rw [e2]; exact n.nd, n.fm, by rw [e2]; exact n.ap, hog.tr n.og⟩⟩
  rcases List.mem_append.mp hp with hp | hp
  · have := n.nd
    rw [List.map_append, List.nodup_append] at this
    exact fun q => this.2.2 a (List.mem_map_of_mem (f := (·.1)) hm) p.1 (List.mem_map_of_mem (f := (·.1)) hp) q.symm
  · exact n.apt (a, o) (List.mem_append_left _ hm) p hp
theorem NowAt.mem (n : NowAt c z lo ob s m os frs) {a : Addr} {b : Ob} (h : (a, b) ∈ ob) : ∃ o, (a, o) ∈ os ∧ (a, o) ∈ os ++ ((c.rest ++ z) ++ frs) ∧ s.heap.get? a = some o ∧ obR c.g.w.params b o := by
  obtain ⟨o, h1, h2⟩ := n.rs.mem h
  have h3 := List.mem_append_left ((c.rest ++ z) ++ frs) h1
  exact ⟨o, h1, h3, (n.N _ h3).1, h2⟩
end


section
variable {c : Cx} {z : List (Addr × Obj)} {lo : Loc} {ob : Obs} {Q : QT V} {s : Shared}
theorem LQ.none (n : Now c z lo ob s) (h : Q .none lo ob) : LQ c z VR Q Value.none s := ⟨V.none, lo, ob, rfl, n, h⟩
theorem LQ.bool {b : Bool} (n : Now c z lo ob s) (h : Q (.bool b) lo ob) : LQ c z VR Q (.bool b) s := ⟨V.bool b, lo, ob, rfl, n, h⟩
theorem LQ.bool' {b b' : Bool} (e : b' = b) (n : Now c z lo ob s) (h : Q (.bool b) lo ob) : LQ c z VR Q (.bool b') s := ⟨V.bool b, lo, ob, by rw [e]; rfl, n, h⟩
theorem LQ.int {i : Int} {t : Tok} (n : Now c z lo ob s) (h : Q (.int i) lo ob) : LQ c z VR Q (.int i t) s := ⟨V.int i, lo, ob, ⟨_, rfl⟩, n, h⟩
theorem LQ.str {l : List Nat} {t : Tok} (n : Now c z lo ob s) (h : Q (.str l) lo ob) : LQ c z VR Q (.str (tx l) t) s := ⟨V.str l, lo, ob, ⟨_, rfl⟩, n, h⟩
theorem LQ.bytes {l : List Nat} {b : Array UInt8} {t : Tok} (e : b.toList.map (·.toNat) = l) (n : Now c z lo ob s) (h : Q (.bytes l) lo ob) : LQ c z VR Q (.bytes b t) s := ⟨V.bytes l, lo, ob, ⟨_, _, rfl, e⟩, n, h⟩
theorem LQ.ref {a : Addr} (n : Now c z lo ob s) (h : Q (.ref a) lo ob) : LQ c z VR Q (.ref a) s := ⟨V.ref a, lo, ob, rfl, n, h⟩
theorem LQ.b {b : Bool} {Q : QT Bool} (n : Now c z lo ob s) (h : Q b lo ob) : LQ c z BR Q b s := ⟨b, lo, ob, rfl, n, h⟩
end
section
variable {c : Cx} {lo : Loc} {ob : Obs} {X : QT Addr} {Q : QT V} {i j : Int} {a b : List Nat}
/- ints -/
theorem add_ints (h : Q (.int (i + j)) lo ob) : Bin c .Add (.int i) (.int j) Q X lo ob := by rintro _ _ ⟨t, rfl⟩ ⟨u, rfl⟩ z s n; exact PyProof.Rows.add_int (LQ.int (n.toks rfl) h)
theorem sub_ints (h : Q (.int (i - j)) lo ob) : Bin c .Sub (.int i) (.int j) Q X lo ob := by rintro _ _ ⟨t, rfl⟩ ⟨u, rfl⟩ z s n; exact PyProof.Rows.sub_int (LQ.int (n.toks rfl) h)
theorem mod_ints (hj : j ≠ 0) (h : Q (.int (i.fmod j)) lo ob) : Bin c .Mod (.int i) (.int j) Q X lo ob := by rintro _ _ ⟨t, rfl⟩ ⟨u, rfl⟩ z s n; exact PyProof.Rows.mod_int' hj (LQ.int (n.toks rfl) h)
theorem iadd_ints (h : Q (.int (i + j)) lo ob) : Inp c .Add (.int i) (.int j) Q X lo ob := by rintro _ _ ⟨t, rfl⟩ ⟨u, rfl⟩ z s n; exact PyProof.Rows.iadd_int (LQ.int (n.toks rfl) h)
theorem lt_ints (h : Q (.bool (decide (i < j))) lo ob) : Cmp c .Lt (.int i) (.int j) Q X lo ob := by rintro _ _ ⟨t, rfl⟩ ⟨u, rfl⟩ z s n; exact PyProof.Rows.lt_int (LQ.bool (n.toks rfl) h)
theorem eq_ints (h : Q (.bool (decide (i = j))) lo ob) : Cmp c .Eq (.int i) (.int j) Q X lo ob := by
  rintro _ _ ⟨t, rfl⟩ ⟨u, rfl⟩ z s n
  exact PyProof.Rows.eq_int (LQ.bool' (by by_cases q : i = j <;> simp [q]) (n.toks rfl) h)
theorem ne_ints (h : Q (.bool (decide (i ≠ j))) lo ob) : Cmp c .NotEq (.int i) (.int j) Q X lo ob := by
  rintro _ _ ⟨t, rfl⟩ ⟨u, rfl⟩ z s n
  exact PyProof.Rows.ne_int (LQ.bool' (by by_cases q : i = j <;> simp [q]) (n.toks rfl) h)
/- texts -/
theorem add_strs (hz : a.length + b.length ≤ 1000000) (h : Q (.str (a ++ b)) lo ob) : Bin c .Add (.str a) (.str b) Q X lo ob := by
  rintro _ _ ⟨t, rfl⟩ ⟨u, rfl⟩ z s n; exact tx_add (by rw [sizeLine_eq]; omega) fun t k => LQ.str (n.toks rfl) h
theorem iadd_strs (hz : a.length + b.length ≤ 1000000) (h : Q (.str (a ++ b)) lo ob) : Inp c .Add (.str a) (.str b) Q X lo ob := by
  rintro _ _ ⟨t, rfl⟩ ⟨u, rfl⟩ z s n; exact tx_iadd (by rw [sizeLine_eq]; omega) fun t k => LQ.str (n.toks rfl) h
theorem eq_strs (h : Q (.bool (decide (a = b))) lo ob) : Cmp c .Eq (.str a) (.str b) Q X lo ob := by rintro _ _ ⟨t, rfl⟩ ⟨u, rfl⟩ z s n; exact eq_tx (LQ.bool n h)
/- None -/
theorem eq_none_none (h : Q (.bool true) lo ob) : Cmp c .Eq .none .none Q X lo ob := by rintro _ _ rfl rfl z s n; exact EqNone.eq_none_none (LQ.bool n h)
theorem eq_none_str (h : Q (.bool false) lo ob) : Cmp c .Eq .none (.str b) Q X lo ob := by rintro _ _ rfl ⟨t, rfl⟩ z s n; exact EqNone.eq_none_str (LQ.bool n h)
theorem eq_str_none (h : Q (.bool false) lo ob) : Cmp c .Eq (.str a) .none Q X lo ob := by rintro _ _ ⟨t, rfl⟩ rfl z s n; exact EqNone.eq_str_none (LQ.bool n h)
theorem isnot_none_none (h : Q (.bool false) lo ob) : Cmp c .IsNot .none .none Q X lo ob := by rintro _ _ rfl rfl z s n; exact wpAny_isNot_self (by rfl) (LQ.bool n h)
theorem isnot_str_none' (h : Q (.bool true) lo ob) : Cmp c .IsNot (.str a) .none Q X lo ob := by rintro _ _ ⟨t, rfl⟩ rfl z s n; exact isnot_str_none (LQ.bool n h)
/- truth -/
theorem tru_bool {b : Bool} {Q : QT Bool} (h : Q b lo ob) : Tru c (.bool b) Q X lo ob := by rintro _ rfl z s n; exact wpAny_truthy_bool (LQ.b n h)
theorem tru_none {Q : QT Bool} (h : Q false lo ob) : Tru c .none Q X lo ob := by rintro _ rfl z s n; exact truthy_none (LQ.b n h)
theorem tru_str {Q : QT Bool} (hz : a.length ≤ 100000) (h : Q (decide (a ≠ [])) lo ob) : Tru c (.str a) Q X lo ob := by rintro _ ⟨t, rfl⟩ z s n; exact truthy_tx hz (LQ.b (n.toks rfl) h)
end
end Mine
end
section
open PySem PySem.W PySem.Calls PySem.Spec PyProof.Rows
set_option Elab.async false
set_option maxRecDepth 100000
set_option linter.unusedVariables false
namespace Mine

/-- storing a value under a name -/
def Sto (c : Cx) (x : Str) (v : V) (Q : Loc → Obs → Prop) (X : QT Addr) (lo : Loc) (ob : Obs) : Prop := ∀ cv, VR v cv → W c UR (storeName c.env x cv) (fun _ => Q) X lo ob
def Then (c : Cx) (r : List Stmt) (Q : QT AF) (X : QT Addr) : QT AF := fun f lo ob => match f with
  | .next => W c FR (execs r c.env) Q X lo ob
  | f => Q f lo ob

section
variable {c : Cx} {lo lo' : Loc} {ob : Obs} {X : QT Addr} {Q : QT AF} {r : List Stmt}
theorem NowAt.set {z : List (Addr × Obj)} {s : Shared} {m : Str → Option Value} {os frs : List (Addr × Obj)} (n : NowAt c z lo ob s m os frs) {x : Str} {v : Option V} {cv : Option Value} {h' : Heap} {tk : Nat} (ok : c.Ok) (p : Put c.ns lo x v lo')
    (hv : ∀ u, v = some u → ∃ cu, cv = some cu ∧ VR u cu) (hn : h'.Ns c.L (fun y => if y = x then cv else m y)) (hs : Heap.SameBut c.L s.heap h') : Now c z lo' ob { s with heap := h', toks := tk } := by
  refine ⟨_, os, frs, ⟨n.F.set hn hs, fun y u hy => ?_, n.rs, n.N.set hs, n.nd, n.fm, n.ap, n.og⟩⟩
  rcases p.has ok.nd hy with ⟨rfl, hu⟩ | ⟨hne, h⟩
  · obtain ⟨cu, e, hr⟩ := hv u hu
    exact ⟨cu, by rw [if_pos rfl]; exact e, hr⟩
  · obtain ⟨cu, e, hr⟩ := n.lr y u h
    exact ⟨cu, by rw [if_neg hne]; exact e, hr⟩
theorem Sto_local {x : Str} {v : V} {ns : Nms} {Q : Loc → Obs → Prop} (ok : c.Ok) (hv : c.cv = none) (hns : c.ns = ns) (p : Put ns lo x (some v) lo') (h : Q lo' ob) : Sto c x v Q X lo ob := by
  subst hns
  rintro cv hr z s ⟨m, os, frs, n⟩
  have e := ok.fn hv
  refine wpAny_storeName_local (m := m) ?_ ?_ (fun h' hn hs => ⟨(), lo', ob, trivial, n.set ok p (fun u hu => ⟨cv, rfl, by cases hu; exact hr⟩) (by rw [e] at hn; exact hn) (by rw [e] at hs; exact hs), h⟩) ?_
  · rw [e]
    show c.fenv.scope.names.lookup x = _
    rw [ok.fns]
    exact lookup_of_mem ok.nd p.mem
  · rw [e]; exact n.F.ns
  · rw [ok.kind]; rfl

/-- a value goes to a target -/
def Asg (c : Cx) (tg : Expr) (v : V) (Q : Loc → Obs → Prop) (X : QT Addr) (lo : Loc) (ob : Obs) : Prop := ∀ cv, VR v cv → W c UR (assign tg c.env cv) (fun _ => Q) X lo ob
theorem asg_name {x : Str} {px : Pos} {v : V} {Q : Loc → Obs → Prop} (h : Sto c x v Q X lo ob) : Asg c (.Name x px) v Q X lo ob := fun cv hv z s n => wpAny_assign_Name (h cv hv z s n)
def AsgEach (c : Cx) : List Expr → List V → (Loc → Obs → Prop) → QT Addr → Loc → Obs → Prop
  | [], [], Q, _, lo, ob => Q lo ob
  | e :: es, v :: vs, Q, X, lo, ob => Asg c e v (fun lo ob => AsgEach c es vs Q X lo ob) X lo ob
  | _, _, _, _, _, _ => False
theorem asg_nil {Q : Loc → Obs → Prop} (h : Q lo ob) : AsgEach c [] [] Q X lo ob := h
theorem asg_cons {e : Expr} {es : List Expr} {v : V} {vs : List V} {Q : Loc → Obs → Prop} (h : Asg c e v (fun lo ob => AsgEach c es vs Q X lo ob) X lo ob) : AsgEach c (e :: es) (v :: vs) Q X lo ob := h
theorem asgEach_of : ∀ {es : List Expr} {vs : List V} {cs : List Value} {Q : Loc → Obs → Prop} {lo : Loc} {ob : Obs}, VRs vs cs → AsgEach c es vs Q X lo ob → W c UR (assignInOrder (es.map fun e => assign e c.env) cs) (fun _ => Q) X lo ob
  | [], [], _, Q, lo, ob, .nil, h => fun z s n => assignInOrder_nil ⟨(), lo, ob, trivial, n, h⟩
  | [], v :: vs, _, Q, lo, ob, _, h => h.elim
  | e :: es, [], _, Q, lo, ob, _, h => h.elim
  | e :: es, v :: vs, _, Q, lo, ob, .cons hv hr, h => fun z s n =>
    assignInOrder_cons (wpAny_mono (h _ hv z s n) (fun _ s' ⟨_, lo, ob, _, n, h⟩ => asgEach_of hr h z s' n) fun _ _ x => x)

theorem S_nil (h : Q .next lo ob) : W c FR (execs [] c.env) Q X lo ob := fun z s n => wpAny_execs_nil ⟨AF.next, lo, ob, rfl, n, h⟩
theorem S_cons {st : Stmt} (h : W c FR (exec st c.env) (Then c r Q X) X lo ob) : W c FR (execs (st :: r) c.env) Q X lo ob := fun z s n =>
  wpAny_execs_cons (wpAny_mono (h z s n) (fun f s' ⟨g, lo, ob, hf, n, h⟩ => by
    cases g with
    | next => cases hf; exact h z s' n
    | brk => cases hf; exact ⟨AF.brk, lo, ob, rfl, n, h⟩
    | cont => cases hf; exact ⟨AF.cont, lo, ob, rfl, n, h⟩
    | ret v => obtain ⟨cv, rfl, hr⟩ := hf; exact ⟨AF.ret v, lo, ob, ⟨cv, rfl, hr⟩, n, h⟩) fun _ _ x => x)
theorem then_next (h : W c FR (execs r c.env) Q X lo ob) : Then c r Q X .next lo ob := h
theorem then_ret {v : V} (h : Q (.ret v) lo ob) : Then c r Q X (.ret v) lo ob := h
theorem S_Assign {x : Str} {px pos : Pos} {e : Expr} (h : W c VR (eval e c.env) (fun v lo ob => Sto c x v (Q .next) X lo ob) X lo ob)
    (hs : swapsWith e (some (.Name x px)) pos.line c.env = pure false := by rfl) : W c FR (exec (.Assign [.Name x px] e pos) c.env) Q X lo ob := fun z s n =>
  wpAny_Assign_Name (wpAny_mono (h z s n) (fun ca s' ⟨a, lo, ob, ha, n, h⟩ => wpAny_mono (h ca ha z s' n) (fun _ s' ⟨_, lo, ob, _, n, h⟩ => ⟨AF.next, lo, ob, rfl, n, h⟩) fun _ _ x => x) fun _ _ x => x) hs
theorem S_Aug {x : Str} {px pos : Pos} {op : Operator} {e : Expr} {ns : Nms} {old : V} (ok : c.Ok) (hv : c.cv = none) (hns : c.ns = ns) (hx : Has ns lo x old) (h : W c VR (eval e c.env) (fun v lo ob => Inp c op old v (fun u lo ob => Sto c x u (Q .next) X lo ob) X lo ob) X lo ob) :
    W c FR (exec (.AugAssign (.Name x px) op e pos) c.env) Q X lo ob := fun z s n => by
  subst hns
  obtain ⟨m, os, frs, n'⟩ := n
  obtain ⟨co, hm, hr⟩ := n'.lr x old hx
  have e := ok.fn hv
  refine wpAny_AugAssign_Name (wpAny_loadName_local (m := m) ok.kind ?_ ?_ hm ?_)
  · rw [e]
    show c.fenv.scope.names.lookup x = _
    rw [ok.fns]
    exact lookup_of_mem ok.nd hx.mem
  · rw [e]; exact n'.F.ns
  · exact wpAny_mono (h z s ⟨m, os, frs, n'⟩) (fun ca s' ⟨a, lo, ob, ha, n, h⟩ => wpAny_mono (h co ca hr ha z s' n) (fun cu s' ⟨u, lo, ob, hu, n, h⟩ => wpAny_mono (h cu hu z s' n) (fun _ s' ⟨_, lo, ob, _, n, h⟩ => ⟨AF.next, lo, ob, rfl, n, h⟩) fun _ _ x => x) fun _ _ x => x) fun _ _ x => x
theorem S_If {t : Expr} {a b : List Stmt} {pos : Pos} (h : Tst c t (fun v lo ob => Br v (W c FR (execs a c.env) Q X lo ob) (W c FR (execs b c.env) Q X lo ob)) X lo ob) : W c FR (exec (.If t a b pos) c.env) Q X lo ob := fun z s n =>
  wpAny_If (wpAny_mono (h z s n) (fun cv s' ⟨v, lo, ob, hv, n, h⟩ => by
    subst hv
    cases cv
    · exact h.2 rfl z s' n
    · exact h.1 rfl z s' n) fun _ _ x => x)
theorem S_Return {e : Expr} {pos : Pos} (h : W c VR (eval e c.env) (fun v lo ob => Q (.ret v) lo ob) X lo ob) : W c FR (exec (.Return (some e) pos) c.env) Q X lo ob := fun z s n =>
  wpAny_Return_some (wpAny_mono (h z s n) (fun ca s' ⟨a, lo, ob, ha, n, h⟩ => ⟨AF.ret a, lo, ob, ⟨ca, rfl, ha⟩, n, h⟩) fun _ _ x => x)
theorem S_Return0 {pos : Pos} (h : Q (.ret .none) lo ob) : W c FR (exec (.Return none pos) c.env) Q X lo ob := fun z s n => wpAny_Return_none ⟨AF.ret V.none, lo, ob, ⟨_, rfl, rfl⟩, n, h⟩
theorem inter (ok : c.Ok) : interactive c.env = false := by
  unfold interactive
  rw [ok.kind]; rfl

end
end Mine
end
section
open PySem PySem.W PySem.Calls PySem.Spec PyProof.Rows
set_option Elab.async false
set_option maxRecDepth 100000
set_option linter.unusedVariables false
namespace Mine

theorem ORs.perm {P : Params} {ob ob2 : Obs} (p : ob.Perm ob2) : ∀ {os : List (Addr × Obj)}, ORs P ob os → ∃ os2, ORs P ob2 os2 ∧ os.Perm os2 := by
  induction p with
  | nil => intro os h; cases h; exact ⟨[], .nil, .nil⟩
  | cons x _ ih =>
    intro os h
    cases h with
    | cons a r =>
      obtain ⟨o2, h2, p2⟩ := ih r
      exact ⟨_, .cons a h2, .cons _ p2⟩
  | swap x y l =>
    intro os h
    cases h with
    | cons a r => cases r with
      | cons b r => exact ⟨_, .cons b (.cons a r), .swap _ _ _⟩
  | trans _ _ ih1 ih2 =>
    intro os h
    obtain ⟨o2, h2, p2⟩ := ih1 h
    obtain ⟨o3, h3, p3⟩ := ih2 h2
    exact ⟨o3, h3, p2.trans p3⟩

section
variable {c : Cx} {z z' : List (Addr × Obj)} {lo : Loc} {ob ob2 : Obs} {s : Shared} {m : Str → Option Value} {os os2 frs : List (Addr × Obj)}
theorem NowAt.re (n : NowAt c z lo ob s m os frs) (h : ORs c.g.w.params ob2 os2) (p : (os ++ (c.rest ++ z)).Perm (os2 ++ (c.rest ++ z'))) : NowAt c z' lo ob2 s m os2 frs := by
  refine ⟨n.F, n.lr, h, fun q hq => n.N q ?_, (p.map _).nodup_iff.mp n.nd, n.fm, fun a ha => n.ap a ((p.map _).mem_iff.mpr ha), n.og⟩
  rw [← List.append_assoc] at hq ⊢
  rcases List.mem_append.mp hq with hq | hq
  · exact List.mem_append_left _ (p.mem_iff.mpr hq)
  · exact List.mem_append_right _ hq
theorem NowAt.perm (n : NowAt c z lo ob s m os frs) (p : ob.Perm ob2) : ∃ os2, NowAt c z lo ob2 s m os2 frs ∧ os.Perm os2 := by
  obtain ⟨os2, h2, p2⟩ := n.rs.perm p
  exact ⟨os2, n.re h2 (p2.append_right _), p2⟩
theorem Now.perm (n : Now c z lo ob s) (p : ob.Perm ob2) : Now c z lo ob2 s := by
  obtain ⟨m, os, frs, n⟩ := n
  obtain ⟨os2, n2, _⟩ := n.perm p
  exact ⟨m, os2, frs, n2⟩
theorem perm_mid {α : Type} (a b r z : List α) : (a ++ b ++ (r ++ z)).Perm (a ++ (r ++ (b ++ z))) := by
  rw [List.append_assoc]
  refine List.Perm.append_left _ ?_
  rw [← List.append_assoc, ← List.append_assoc]
  exact List.Perm.append_right _ List.perm_append_comm
/-- objects go into the rest and come back -/
theorem NowAt.out {oth : Obs} (n : NowAt c z lo (ob ++ oth) s m os frs) : ∃ o1 o2, ORs c.g.w.params oth o2 ∧ os = o1 ++ o2 ∧ NowAt c (o2 ++ z) lo ob s m o1 frs := by
  obtain ⟨o1, o2, rfl, h1, h2⟩ := n.rs.split
  exact ⟨o1, o2, h2, rfl, n.re h1 (perm_mid _ _ _ _)⟩
theorem NowAt.back {oth : Obs} {o2 : List (Addr × Obj)} (h : ORs c.g.w.params oth o2) (n : NowAt c (o2 ++ z) lo ob s m os frs) : NowAt c z lo (ob ++ oth) s m (os ++ o2) frs :=
  n.re (n.rs.append h) (perm_mid _ _ _ _).symm
theorem NowAt.drop (n : NowAt c z lo ob s m os frs) (h : ORs c.g.w.params ob2 os2) (p : List.Sublist (os2 ++ (c.rest ++ z')) (os ++ (c.rest ++ z))) : NowAt c z' lo ob2 s m os2 frs := by
  refine ⟨n.F, n.lr, h, fun q hq => n.N q ?_, n.nd.sublist (p.map _), n.fm, fun a ha => n.ap a ((p.map _).mem ha), n.og⟩
  rw [← List.append_assoc] at hq ⊢
  rcases List.mem_append.mp hq with hq | hq
  · exact List.mem_append_left _ (p.mem hq)
  · exact List.mem_append_right _ hq
theorem NowAt.less {a : List (Addr × Obj)} (n : NowAt c (a ++ z) lo ob s m os frs) : NowAt c z lo ob s m os frs :=
  n.drop n.rs (List.Sublist.append_left (List.Sublist.append_left (List.sublist_append_right _ _) _) _)
theorem Now.less {a : List (Addr × Obj)} (n : Now c (a ++ z) lo ob s) : Now c z lo ob s := by
  obtain ⟨m, os, frs, n⟩ := n
  exact ⟨m, os, frs, n.less⟩
theorem Now.at {p : Addr × Obj} (n : Now c z lo ob s) (h : p ∈ z) : s.heap.get? p.1 = some p.2 := by
  obtain ⟨m, os, frs, n⟩ := n
  exact (n.N p (List.mem_append_right _ (List.mem_append_left _ (List.mem_append_right _ h)))).1
theorem TbOk.sub {as as' : List Addr} {h : Heap} {a : Addr} (t : TbOk c as h a) (hs : ∀ b ∈ as', b ∈ as) : TbOk c as' h a := by
  obtain ⟨oe, vs, h1, h2, h3⟩ := t
  refine ⟨oe, vs, h1, h2, h3.imp id ?_⟩
  rintro ⟨b, ot, ts, e1, e2, e3, e4, e5, e6, e7⟩
  exact ⟨b, ot, ts, e1, e2, e3, e4, e5, e6, fun hm => e7 (hs _ hm)⟩
theorem mem_sub4 {α β : Type} {a b r z y f : List (α × β)} (h : ∀ x ∈ z, x ∈ y) : ∀ x ∈ (a ++ ((r ++ z) ++ f)).map (·.1), x ∈ (a ++ ((r ++ y) ++ f)).map (·.1) := by
  intro x hx
  simp only [List.map_append, List.mem_append, List.mem_map] at hx ⊢
  rcases hx with h1 | (h1 | ⟨q, h1, rfl⟩) | h1
  · exact .inl h1
  · exact .inr (.inl (.inl h1))
  · exact .inr (.inl (.inr ⟨q, h _ h1, rfl⟩))
  · exact .inr (.inr h1)
theorem Exc.less {a : List (Addr × Obj)} {e : Addr} (n : Exc c (a ++ z) e lo ob s) : Exc c z e lo ob s := by
  obtain ⟨he, m, os, frs, n, t⟩ := n
  refine ⟨he, m, os, frs, n.less, t.sub (mem_sub4 (b := []) fun x hx => List.mem_append_right _ hx)⟩
theorem Exc.perm {e : Addr} (n : Exc c z e lo ob s) (p : ob.Perm ob2) : Exc c z e lo ob2 s := by
  obtain ⟨⟨k, d, r, he⟩, m, os, frs, n, t⟩ := n
  obtain ⟨os2, n2, p2⟩ := n.perm p
  refine ⟨⟨k, d, r, p.mem_iff.mp he⟩, m, os2, frs, n2, t.sub fun b hb => ?_⟩
  rw [List.map_append] at hb ⊢
  rcases List.mem_append.mp hb with hb | hb
  · exact List.mem_append_left _ ((p2.map _).mem_iff.mpr hb)
  · exact List.mem_append_right _ hb
end

inductive Pick (p : Addr × Ob) : Obs → Obs → Prop
  | head {r} : Pick p (p :: r) r
  | tail {q r r'} : Pick p r r' → Pick p (q :: r) (q :: r')
inductive Picks : Obs → Obs → Obs → Prop
  | nil {f} : Picks f [] f
  | cons {p f f' s o} : Pick p f f' → Picks f' s o → Picks f (p :: s) o
theorem Pick.perm {p : Addr × Ob} {f f' : Obs} (h : Pick p f f') : f.Perm (p :: f') := by
  induction h with
  | head => exact .refl _
  | tail _ ih => exact (List.Perm.cons _ ih).trans (.swap _ _ _)
theorem Picks.perm {f s o : Obs} (h : Picks f s o) : f.Perm (s ++ o) := by
  induction h with
  | nil => exact .refl _
  | cons h _ ih => exact h.perm.trans (.cons _ ih)

section
variable {α β : Type} {c : Cx} {rel : β → α → Prop} {t : Sem α} {Q Q' : QT β} {X X' : QT Addr} {lo : Loc} {ob small oth : Obs}
theorem W.perm {ob2 : Obs} (p : ob.Perm ob2) (h : W c rel t Q X lo ob2) : W c rel t Q X lo ob := fun z s n => h z s (n.perm p)
theorem W.frame (p : Picks ob small oth) (h : W c rel t (fun b lo ob => Q b lo (ob ++ oth)) (fun a lo ob => X a lo (ob ++ oth)) lo small) : W c rel t Q X lo ob := W.perm p.perm fun z s n => by
  obtain ⟨m, os, frs, n⟩ := n
  obtain ⟨o1, o2, ho, rfl, n1⟩ := n.out
  refine wpAny_mono (h (o2 ++ z) s ⟨m, o1, frs, n1⟩) (fun a s' ⟨b, lo, ob, hr, n, hq⟩ => ?_) fun e s' ⟨a, lo, ob, he, n, hx⟩ => ?_
  · obtain ⟨m, os, frs, n⟩ := n
    exact ⟨b, lo, _, hr, ⟨m, _, frs, n.back ho⟩, hq⟩
  · obtain ⟨⟨k, d, r, hm⟩, m, os, frs, n, t⟩ := n
    refine ⟨a, lo, _, he, ⟨⟨k, d, r, List.mem_append_left _ hm⟩, m, _, frs, n.back ho, t.sub fun x hx => ?_⟩, hx⟩
    simp only [List.map_append, List.mem_append] at hx ⊢
    rcases hx with (h | h) | (h | h) | h
    · exact .inl h
    · exact .inr (.inl (.inr (.inl h)))
    · exact .inr (.inl (.inl h))
    · exact .inr (.inl (.inr (.inr h)))
    · exact .inr (.inr h)
end
end Mine
end
section
open PySem PySem.W PySem.Calls PySem.Spec PyProof.Rows
set_option Elab.async false
set_option maxRecDepth 100000
set_option linter.unusedVariables false
namespace Mine

/-- forgetting locals -/
inductive LoS : Loc → Loc → Prop
  | nil : LoS [] []
  | keep {x a b} : LoS a b → LoS (x :: a) (x :: b)
  | drop {x a b} : LoS a b → LoS (x :: a) (none :: b)
theorem LoS.has {a b : Loc} (h : LoS a b) : ∀ {ns : Nms} {x : Str} {v : V}, Has ns b x v → Has ns a x v := by
  induction h with
  | nil => intro ns x v g; cases g
  | keep _ ih => intro ns x v g; cases g with
    | here => exact .here
    | there g => exact .there (ih g)
  | drop _ ih => intro ns x v g; cases g with
    | there g => exact .there (ih g)
theorem LoS.refl : ∀ {a : Loc}, LoS a a
  | [] => .nil
  | _ :: _ => .keep LoS.refl
/-- forgetting locals and objects -/
def Wkn (P : Loc → Obs → Prop) (lo : Loc) (ob : Obs) : Prop := ∃ lo2 ob2 d, LoS lo lo2 ∧ Picks ob ob2 d ∧ P lo2 ob2
theorem Picks.all : ∀ {f : Obs}, Picks f f []
  | [] => .nil
  | _ :: _ => .cons .head Picks.all
theorem Wkn.of {P : Loc → Obs → Prop} {lo : Loc} {ob : Obs} (h : P lo ob) : Wkn P lo ob := ⟨lo, ob, [], .refl, .all, h⟩

section
variable {c : Cx} {z : List (Addr × Obj)} {lo lo2 : Loc} {ob ob2 d : Obs} {s : Shared}
theorem Now.loc (n : Now c z lo ob s) (h : LoS lo lo2) : Now c z lo2 ob s := by
  obtain ⟨m, os, frs, n⟩ := n
  exact ⟨m, os, frs, n.F, fun x v hx => n.lr x v (h.has hx), n.rs, n.N, n.nd, n.fm, n.ap, n.og⟩
theorem Now.forget (n : Now c z lo ob s) (p : Picks ob ob2 d) : Now c z lo ob2 s := by
  obtain ⟨m, os, frs, n⟩ := n.perm p.perm
  obtain ⟨o1, o2, _, rfl, n1⟩ := n.out
  exact ⟨m, o1, frs, n1.less⟩
theorem Now.wkn {P : Loc → Obs → Prop} (n : Now c z lo ob s) (h : Wkn P lo ob) : ∃ lo2 ob2, Now c z lo2 ob2 s ∧ P lo2 ob2 := by
  obtain ⟨lo2, ob2, d, h1, h2, h3⟩ := h
  exact ⟨lo2, ob2, (n.loc h1).forget h2, h3⟩
end
section
variable {α β : Type} {c : Cx} {rel : β → α → Prop} {t : Sem α} {Q : QT β} {X : QT Addr} {lo lo2 : Loc} {ob ob2 d : Obs}
theorem W.forget (p : Picks ob ob2 d) (h : W c rel t Q X lo ob2) : W c rel t Q X lo ob := fun z s n => h z s (n.forget p)
theorem W.loc (p : LoS lo lo2) (h : W c rel t Q X lo2 ob) : W c rel t Q X lo ob := fun z s n => h z s (n.loc p)
theorem W.wkn (h : Wkn (W c rel t Q X) lo ob) : W c rel t Q X lo ob := fun z s n => by
  obtain ⟨lo2, ob2, n2, h⟩ := n.wkn h
  exact h z s n2
end

/-- exceptions pass through a loop's own activation -/
def Passes (c : Cx) (X : QT Addr) : Prop := ∀ z, PassesOwn c.g.M c.B c.env (LX c z X)
theorem passes_never {c : Cx} : Passes c (fun _ _ _ => False) := fun _ _ _ ⟨_, _, _, _, _, h⟩ => h.elim

section
variable {c : Cx} {lo : Loc} {ob : Obs} {X : QT Addr} {Q : QT AF}
def WhileQ (c : Cx) (I : Nat → Loc → Obs → Prop) (n : Nat) (Q : QT AF) : QT AF := fun f lo ob => match f with
  | .brk => Q .next lo ob
  | .ret v => Q (.ret v) lo ob
  | _ => Wkn (fun lo ob => ∃ k, k < n ∧ I k lo ob) lo ob
theorem S_While {t : Expr} {body : List Stmt} {pos : Pos} (I : Nat → Loc → Obs → Prop) (hE : Passes c X) (h0 : Wkn (fun lo ob => ∃ n, I n lo ob) lo ob)
    (turn : ∀ n lo ob, I n lo ob → Tst c t (fun b lo ob => Br b (W c FR (execs body c.env) (WhileQ c I n Q) X lo ob) (Q .next lo ob)) X lo ob) : W c FR (exec (.While t body [] pos) c.env) Q X lo ob := by
  intro z s n
  obtain ⟨lo1, ob1, n1, n₀, h1⟩ := n.wkn h0
  refine wpAny_While (codeAny_whileLoop (fun k s' => ∃ lo ob, I k lo ob ∧ Now c z lo ob s') (fun k s' hI => ?_) n₀ ⟨lo1, ob1, h1, n1⟩)
  obtain ⟨lo2, ob2, h2, n2⟩ := hI
  refine wpAny_mono (turn k lo2 ob2 h2 z s' n2) (fun b s₂ hb => ?_) (hE z)
  obtain ⟨b', lo3, ob3, rfl, n3, h3⟩ := hb
  cases b with
  | false =>
    simp only [Bool.false_eq_true, if_false]
    exact wpAny_execs_nil ⟨AF.next, lo3, ob3, rfl, n3, h3.2 rfl⟩
  | true =>
    simp only [if_true]
    refine wpAny_mono (h3.1 rfl z s₂ n3) (fun f s₃ hf => ?_) (hE z)
    obtain ⟨g, lo4, ob4, hg, n4, h4⟩ := hf
    cases g with
    | next => cases hg; obtain ⟨lo5, ob5, n5, j, hj, h5⟩ := n4.wkn h4; exact ⟨j, hj, lo5, ob5, h5, n5⟩
    | cont => cases hg; obtain ⟨lo5, ob5, n5, j, hj, h5⟩ := n4.wkn h4; exact ⟨j, hj, lo5, ob5, h5, n5⟩
    | brk => cases hg; exact ⟨AF.next, lo4, ob4, rfl, n4, h4⟩
    | ret v => obtain ⟨cv, rfl, hr⟩ := hg; exact ⟨AF.ret v, lo4, ob4, ⟨cv, rfl, hr⟩, n4, h4⟩

/-- the turns of a for over these items -/
def ForW (c : Cx) (tg : Expr) (body : List Stmt) (Q : QT AF) (X : QT Addr) : List V → Loc → Obs → Prop
  | [], lo, ob => Q .next lo ob
  | v :: vs, lo, ob => Asg c tg v (fun lo ob => W c FR (execs body c.env) (fun f lo ob => match f with
      | .brk => Q .next lo ob
      | .ret v => Q (.ret v) lo ob
      | _ => Wkn (ForW c tg body Q X vs) lo ob) X lo ob) X lo ob
/-- a loop's target takes no tuple out of its iterator -/
def GoesOn (c : Cx) (tg : Expr) (I : Addr) (St : Nat → Heap → Prop) : Prop := ∀ i v (s : Shared) (Q : Unit → Shared → Prop) (E : Value → Shared → Prop), St (i + 1) s.heap → Q () s → wpAny c.g.M c.B (letOwnedTupleGo tg (.ref I) v) Q E s
theorem goesOn_cls {c : Cx} {tg : Expr} {I : Addr} {St : Nat → Heap → Prop} {T : String} (hst : ∀ i h, St i h → ∃ o, h.get? I = some o ∧ o.cls = .type T) (hT : ["enumerate", "zip", "dict_itemiterator", "dict_reverseitemiterator", "odict_iterator", "itertools.zip_longest", "itertools.pairwise"].contains T = false := by decide) : GoesOn c tg I St := by
  intro i v s Q E st hQ
  unfold letOwnedTupleGo
  obtain ⟨o, ho, hc⟩ := hst _ _ st
  split
  all_goals first
    | exact wpAny_pure hQ
    | (cases v <;> first
        | exact wpAny_pure hQ
        | (refine wpAny_bind (wpAny_load ho ?_)
           simp only [hc]
           split
           · rename_i hq hq2
             cases hq
             simp only [hT, Bool.false_and, Bool.false_eq_true, if_false]
             exact wpAny_pure hQ
           · exact wpAny_pure hQ))

/-- an iterator over items -/
structure IterOK (c : Cx) (z : List (Addr × Obj)) (items : List V) (I : Addr) (St : Nat → Heap → Prop) : Prop where
  wk : ∃ fp P, Walks c.g.prog c.g.w c.B I fp [I] items.length P St ∧ (∀ i v, i < items.length → P i v → ∃ u, items[i]? = some u ∧ VR u v) ∧ (∀ b ∈ fp, b = I ∨ (∃ o, (b, o) ∈ z) ∨ ∃ o, c.g.hb.get? b = some o)
  has : ∀ i h, St i h → ∃ o, h.get? I = some o

theorem Now.swapI {z : List (Addr × Obj)} {s s' : Shared} {I : Addr} {oI oI' : Obj} (n : Now c ((I, oI) :: z) lo ob s) (hk : ∀ b o, b ∉ [I] → s.heap.get? b = some o → s'.heap.get? b = some o) (hI : s'.heap.get? I = some oI') (hog : Og s s' := by exact ⟨rfl, rfl⟩) : Now c ((I, oI') :: z) lo ob s' := by
  obtain ⟨m, os, frs, n⟩ := n
  have hz := n.N (I, oI) (List.mem_append_right _ (List.mem_append_left _ (List.mem_append_right _ (.head _))))
  have e : (os ++ (c.rest ++ (I, oI') :: z)).map (·.1) = (os ++ (c.rest ++ (I, oI) :: z)).map (·.1) := by simp
  have hne : ∀ p ∈ os ++ (c.rest ++ z), p.1 ≠ I := by
    have hnd := n.nd
    have p : (os ++ (c.rest ++ (I, oI) :: z)).Perm ((I, oI) :: (os ++ (c.rest ++ z))) := by
      rw [← List.append_assoc, ← List.append_assoc]
      exact List.perm_middle
    have := (p.map (·.1)).nodup_iff.mp hnd
    rw [List.map_cons] at this
    exact fun q hq => nodup_ne this _ (List.mem_map_of_mem hq)
  have hfr : ∀ p ∈ frs, p.1 ≠ I := n.apt (I, oI) (List.mem_append_right _ (List.mem_append_right _ (.head _)))
  have hL : c.L ≠ I := Ne.symm hz.2.1
  refine ⟨m, os, frs, ⟨⟨n.F.ns.at' fun o e => hk _ o (by simpa using hL) e, fun b o e => hk b o (fun hm => ?_) (n.F.keep b o e), n.F.above⟩, n.lr, n.rs, fun p hp => ?_, e ▸ n.nd, n.fm, e ▸ n.ap, hog.tr n.og⟩⟩
  · rw [List.mem_singleton.mp hm, hz.2.2] at e; cases e
  · have old : ∀ p, p.1 ≠ I → p ∈ os ++ ((c.rest ++ (I, oI) :: z) ++ frs) → s'.heap.get? p.1 = some p.2 ∧ p.1 ≠ c.L ∧ c.g.hb.get? p.1 = none := fun p h1 h2 => ⟨hk _ _ (by simpa using h1) (n.N p h2).1, (n.N p h2).2⟩
    simp only [List.mem_append, List.mem_cons] at hp
    rcases hp with h | (h | rfl | h) | h
    · exact old p (hne p (by simp [h])) (by simp [h])
    · exact old p (hne p (by simp [h])) (by simp [h])
    · exact ⟨hI, hz.2⟩
    · exact old p (hne p (by simp [h])) (by simp [h])
    · exact old p (hfr p h) (by simp [h])
theorem IterOK.keep {z : List (Addr × Obj)} {items : List V} {I : Addr} {oI : Obj} {St : Nat → Heap → Prop} (K : IterOK c z items I St) {lo' : Loc} {ob' : Obs} {s s' : Shared} {i : Nat} (n : Now c ((I, oI) :: z) lo ob s) (n' : Now c ((I, oI) :: z) lo' ob' s') (h : St i s.heap) : St i s'.heap := by
  obtain ⟨⟨fp, P, wk, _, hf⟩, _⟩ := K
  refine wk.frame i _ _ h fun b hb o e => ?_
  rcases hf b hb with rfl | ⟨o', ho'⟩ | ⟨o', ho'⟩
  · have h1 : s.heap.get? b = some oI := n.at (p := (b, oI)) (.head _)
    have h2 : s'.heap.get? b = some oI := n'.at (p := (b, oI)) (.head _)
    rw [h1] at e; cases e; exact h2
  · have h1 : s.heap.get? b = some o' := n.at (p := (b, o')) (.tail _ ho')
    have h2 : s'.heap.get? b = some o' := n'.at (p := (b, o')) (.tail _ ho')
    rw [h1] at e; cases e; exact h2
  · obtain ⟨_, _, _, n1⟩ := n
    obtain ⟨_, _, _, n2⟩ := n'
    have h1 := n1.F.keep b o' ho'
    rw [h1] at e; cases e; exact n2.F.keep _ _ ho'

theorem for_loop {tg : Expr} {body : List Stmt} {z : List (Addr × Obj)} {items : List V} {I : Addr} {oI : Obj} {St : Nat → Heap → Prop} (K : IterOK c z items I St) (hgo : GoesOn c tg I St) (hE : Passes c X) {s : Shared}
    (hst : St 0 s.heap) (n : Now c ((I, oI) :: z) lo ob s) (h : ForW c tg body Q X items lo ob) :
    codeAny c.g.M c.B (.forLoop tg (.ref I) body [] c.env) (fun r s' => match r with | .ok f => LQ c z FR Q f s' | .error e => cameBackBy c.g.M c.B c.env (LX c z X) e s') s := by
  obtain ⟨fp, P, wk, hP, hf⟩ := K.wk
  have hX : ∀ {oI : Obj} e s', LX c ((I, oI) :: z) X e s' → LX c z X e s' := fun e s' ⟨a, lo, ob, he, hx, hX⟩ => ⟨a, lo, ob, he, Exc.less (a := [_]) hx, hX⟩
  have hX2 : ∀ {oI : Obj} e s', LX c ((I, oI) :: z) X e s' → notedBy c.g.M c.B c.env (fun e s' => cameBackBy c.g.M c.B c.env (LX c z X) e s') e s' := fun e s' hx => hE z e s' (hX e s' hx)
  refine codeAny_forLoop_any (fun k s' => ∃ i lo ob oI, i ≤ items.length ∧ k = items.length + 1 - i ∧ St i s'.heap ∧ Now c ((I, oI) :: z) lo ob s' ∧ ForW c tg body Q X (items.drop i) lo ob) ?_ (items.length + 1)
    ⟨0, lo, ob, oI, Nat.zero_le _, rfl, hst, n, h⟩
  rintro k s1 ⟨i, lo1, ob1, oI1, hi, rfl, st1, n1, h1⟩
  by_cases hlt : i < items.length
  · refine wk.item i s1 _ _ hlt st1 fun v h' tk hPv st2 hk => ?_
    obtain ⟨u, hu, hr⟩ := hP i v hlt hPv
    obtain ⟨oI2, hI2⟩ := K.has _ _ st2
    have n2 : Now c ((I, oI2) :: z) lo1 ob1 { s1 with heap := h', toks := tk } := n1.swapI hk hI2
    have e : items.drop i = u :: items.drop (i + 1) := by
      rw [List.drop_eq_getElem_cons hlt]
      congr 1
      rw [List.getElem?_eq_getElem hlt] at hu
      exact Option.some.inj hu
    rw [e] at h1
    refine hgo _ _ _ _ _ st2 ?_
    refine (wpAny_mono (h1 v hr _ _ n2) (fun _ s3 ⟨_, lo3, ob3, _, n3, h3⟩ => ?_) hX2)
    have st3 := K.keep n2 n3 st2
    refine wpAny_mono (h3 _ s3 n3) (fun f s4 ⟨g, lo4, ob4, hg, n4, h4⟩ => ?_) hX2
    have st4 := K.keep n3 n4 st3
    cases g with
    | next => cases hg; obtain ⟨lo5, ob5, n5, h5⟩ := n4.wkn h4; exact ⟨items.length + 1 - (i + 1), by omega, i + 1, lo5, ob5, oI2, hlt, rfl, st4, n5, h5⟩
    | cont => cases hg; obtain ⟨lo5, ob5, n5, h5⟩ := n4.wkn h4; exact ⟨items.length + 1 - (i + 1), by omega, i + 1, lo5, ob5, oI2, hlt, rfl, st4, n5, h5⟩
    | brk => cases hg; exact ⟨AF.next, lo4, ob4, rfl, Now.less (a := [_]) n4, h4⟩
    | ret v => obtain ⟨cv, rfl, hr⟩ := hg; exact ⟨AF.ret v, lo4, ob4, ⟨cv, rfl, hr⟩, Now.less (a := [_]) n4, h4⟩
  · have e : i = items.length := by omega
    subst e
    rw [List.drop_length] at h1
    refine wk.done s1 _ _ st1 fun h' tk hk => wpAny_execs_nil ?_
    refine ⟨AF.next, lo1, ob1, rfl, ?_, h1⟩
    -- the iterator is dropped
    obtain ⟨m, os, frs, n1⟩ := n1
    have hz := n1.N (I, oI1) (List.mem_append_right _ (List.mem_append_left _ (List.mem_append_right _ (.head _))))
    have n2 := NowAt.less (a := [(I, oI1)]) n1
    have hne : ∀ p ∈ os ++ (c.rest ++ z), p.1 ≠ I := by
      have p : (os ++ (c.rest ++ (I, oI1) :: z)).Perm ((I, oI1) :: (os ++ (c.rest ++ z))) := by
        rw [← List.append_assoc, ← List.append_assoc]
        exact List.perm_middle
      have := (p.map (·.1)).nodup_iff.mp n1.nd
      rw [List.map_cons] at this
      exact fun q hq => nodup_ne this _ (List.mem_map_of_mem hq)
    have hfr : ∀ p ∈ frs, p.1 ≠ I := n1.apt (I, oI1) (List.mem_append_right _ (List.mem_append_right _ (.head _)))
    have hL : c.L ≠ I := Ne.symm hz.2.1
    refine ⟨m, os, frs, ⟨⟨n2.F.ns.at' fun o e => hk _ o (by simpa using hL) e, fun b o e => hk b o (fun hm => ?_) (n2.F.keep b o e), n2.F.above⟩, n2.lr, n2.rs, fun p hp => ⟨hk _ _ ?_ (n2.N p hp).1, (n2.N p hp).2⟩, n2.nd, n2.fm, n2.ap, n2.og⟩⟩
    · rw [List.mem_singleton.mp hm, hz.2.2] at e; cases e
    · rw [List.mem_singleton]
      simp only [List.mem_append] at hp
      rcases hp with h | (h | h) | h
      · exact hne p (by simp [h])
      · exact hne p (by simp [h])
      · exact hne p (by simp [h])
      · exact hfr p h
end
end Mine
end
section
open PySem PySem.W PySem.Calls PySem.Spec PyProof.Rows
set_option Elab.async false
set_option maxRecDepth 100000
set_option linter.unusedVariables false
namespace Mine

def ForIn (c : Cx) (v : V) (tg : Expr) (body : List Stmt) (Q : QT AF) (X : QT Addr) (lo : Loc) (ob : Obs) : Prop :=
  ∀ z s cv, VR v cv → Now c z lo ob s → wpAny c.g.M c.B (pyIter cv) (fun it s₂ => codeAny c.g.M c.B (.forLoop tg it body [] c.env) (fun r s' => match r with | .ok f => LQ c z FR Q f s' | .error e => cameBackBy c.g.M c.B c.env (LX c z X) e s') s₂) (LX c z X) s

section
variable {c : Cx} {lo : Loc} {ob oth : Obs} {X : QT Addr} {Q : QT AF} {tg : Expr} {body : List Stmt} {a : Addr} {vs : List V}
theorem S_For {iter : Expr} {pos : Pos} (h : W c VR (eval iter c.env) (fun v lo ob => ForIn c v tg body Q X lo ob) X lo ob) (hs : ∀ x, foldedSetIterable iter c.env x = pure x := by intro _; rfl) :
    W c FR (exec (.For tg iter body [] pos) c.env) Q X lo ob := fun z s n =>
  wpAny_For (wpAny_mono (h z s n) (fun cv s' ⟨v, lo, ob, hv, n, h⟩ => h z s' cv hv n) fun _ _ x => x) hs

theorem NowAt.pushI {z : List (Addr × Obj)} {s : Shared} {m : Str → Option Value} {os frs : List (Addr × Obj)} (n : NowAt c z lo ob s m os frs) {o : Obj} (hf : o.isFreed = false := by rfl) : Now c ((s.heap.objs.size, o) :: z) lo ob { s with heap := s.heap.push o } := by
  have n2 : NowAt c z lo ((s.heap.objs.size, Ob.raw o) :: ob) { s with heap := s.heap.push o } m ((s.heap.objs.size, o) :: os) frs := n.push (b := .raw o) rfl rfl hf
  obtain ⟨o1, o2, h2, e, n3⟩ := (n2.re (ob2 := ob ++ [(s.heap.objs.size, Ob.raw o)]) (os2 := os ++ [(s.heap.objs.size, o)]) (z' := z) (n.rs.append (.cons rfl .nil)) (by
    rw [List.append_assoc]
    exact (List.perm_middle (l₁ := os)).symm)).out
  cases h2 with
  | cons h2 h3 =>
    cases h3
    obtain ⟨e1, e2⟩ := List.append_inj' e rfl
    cases e2
    cases h2
    exact ⟨m, o1, frs, n3⟩

theorem back_LQ {z o2 : List (Addr × Obj)} {src : Obs} (h2 : ORs c.g.w.params src o2) {f : Flow} {s : Shared} (h : LQ c (o2 ++ z) FR (fun f lo ob => Q f lo (ob ++ src)) f s) : LQ c z FR Q f s := by
  obtain ⟨b, lo, ob, hr, ⟨m, os, frs, n⟩, hq⟩ := h
  exact ⟨b, lo, _, hr, ⟨m, _, frs, n.back h2⟩, hq⟩
theorem back_LX {z o2 : List (Addr × Obj)} {src : Obs} (h2 : ORs c.g.w.params src o2) {e : Value} {s : Shared} (h : LX c (o2 ++ z) (fun a lo ob => X a lo (ob ++ src)) e s) : LX c z X e s := by
  obtain ⟨a, lo, ob, rfl, ⟨⟨k, d, r, hm⟩, m, os, frs, n, t⟩, hq⟩ := h
  refine ⟨a, lo, _, rfl, ⟨⟨k, d, r, List.mem_append_left _ hm⟩, m, _, frs, n.back h2, t.sub fun b hb => ?_⟩, hq⟩
  simp only [List.map_append, List.mem_append] at hb ⊢
  rcases hb with (h | h) | (h | h) | h
  · exact .inl h
  · exact .inr (.inl (.inr (.inl h)))
  · exact .inr (.inl (.inl h))
  · exact .inr (.inl (.inr (.inr h)))
  · exact .inr (.inr h)
theorem cameBack_mono {M : Model} {A : Around} {env : Env} {E E' : Value → Shared → Prop} (h : ∀ e s, E e s → E' e s) {e : Value} {s : Shared} (x : cameBackBy M A env E e s) : cameBackBy M A env E' e s :=
  wpAny_mono x (fun _ s' y => h _ _ y) fun _ s' y => h _ _ y

theorem For_tup (hh : c.B.handled = none) (hE : Passes c (fun e lo ob => X e lo (ob ++ [(a, .tup vs)]))) (p : Picks ob [(a, .tup vs)] oth) (h : Wkn (ForW c tg body (fun f lo ob => Q f lo (ob ++ [(a, .tup vs)])) (fun e lo ob => X e lo (ob ++ [(a, .tup vs)])) vs) lo oth) :
    ForIn c (.ref a) tg body Q X lo ob := by
  rintro z s _ rfl n
  obtain ⟨m, os, frs, n⟩ := n.perm (p.perm.trans List.perm_append_comm)
  obtain ⟨o1, o2, h2, rfl, n1⟩ := n.out
  have h2' := h2
  cases h2 with
  | cons h2 h3 =>
    rename_i o os'
    cases h3
    obtain ⟨hc, cs, k, hd, hr⟩ := h2
    have ha : s.heap.get? a = some o := Now.at ⟨m, o1, frs, n1⟩ (p := (a, o)) (.head _)
    have hl : s.heap.IsTuple a cs.toArray := ⟨_, ha, hc, _, hd⟩
    have hlt := Heap.lt_size ha
    refine wpAny_pyIter_tuple hl ?_
    have n2 := n1.pushI (o := { cls := .type "tuple_iterator", data := .fields #[.ref a, .int 0 0] })
    obtain ⟨lo2, ob2, n3, h3⟩ := n2.wkn h
    refine codeAny_mono (for_loop (St := fun i h => h.IsTupleIter s.heap.objs.size a i ∧ h.IsTuple a cs.toArray) ⟨⟨[s.heap.objs.size, a], fun i v => cs.toArray[i]? = some v, ?_, ?_, ?_⟩, ?_⟩ (goesOn_cls (T := "tuple_iterator") fun i h st => by obtain ⟨⟨o, ho, hc, _⟩, _⟩ := st; exact ⟨o, ho, hc⟩) hE ⟨⟨_, Heap.get?_push_size _ rfl, rfl, rfl⟩, hl.push _⟩ n3 h3) ?_
    · have := Walks.tuple (prog := c.g.prog) (w := c.g.w) hh s.heap.objs.size a (Nat.ne_of_lt hlt) cs.toArray
      rw [show vs.length = cs.toArray.size from by simp [hr.length]]
      exact this
    · intro i v hi hv
      obtain ⟨u, hu, hr'⟩ := hr.get' i v (by simpa using hv)
      exact ⟨u, hu, hr'⟩
    · intro b hb
      rcases List.mem_cons.mp hb with e | hb
      · exact .inl e
      · rw [List.mem_singleton.mp hb]; exact .inr (.inl ⟨_, .head _⟩)
    · rintro i h ⟨⟨o, ho, _⟩, _⟩; exact ⟨o, ho⟩
    · intro r s' hq
      cases r with
      | ok f => exact back_LQ h2' hq
      | error e => exact cameBack_mono (fun e s x => back_LX h2' x) hq

theorem For_range {p q : Int} {n : Nat} (hh : c.B.handled = none) (hE : Passes c X) (hp : Picks ob [(a, .rng p q)] oth) (hsm : Builtin.Range.small p q 1 = true) (hn : Builtin.Range.rangeSize p q 1 = ((n : Nat) : Int)) (h : Wkn (ForW c tg body Q X ((List.range n).map fun (i : Nat) => V.int (p + (i : Int)))) lo oth) :
    ForIn c (.ref a) tg body Q X lo ob := by
  rintro z s _ rfl n0
  obtain ⟨m, os, frs, n1⟩ := n0.perm hp.perm
  obtain ⟨o, _, _, ha, t1, t2, t3, rfl⟩ := n1.mem (a := a) (b := .rng p q) (.head _)
  have nn : Now c z lo oth s := by
    obtain ⟨m, os, frs, n⟩ := Now.perm ⟨m, os, frs, n1⟩ List.perm_append_comm
    obtain ⟨o1, o2, _, rfl, n1⟩ := n.out
    exact ⟨m, o1, frs, n1.less⟩
  obtain ⟨lo2, ob2, n2, h2⟩ := nn.wkn h
  obtain ⟨m, os, frs, n2⟩ := n2
  refine wpAny_pyIter_range ha hsm ?_
  refine for_loop (St := fun i h => IsRangeIter h s.heap.objs.size (p + (i : Nat) * 1) ((n : Int) - (i : Nat)) 1) ⟨⟨[s.heap.objs.size], fun i v => ∃ t, v = .int (p + (i : Int)) t, ?_, ?_, ?_⟩, ?_⟩ (goesOn_cls (T := "range_iterator") fun i h st => ⟨_, st, rfl⟩) hE (by show IsRangeIter _ _ _ _ _; rw [hn]; simpa using Heap.get?_push_size _ rfl) n2.pushI h2
  · have := LCg.range_walks (prog := c.g.prog) (w := c.g.w) (A := c.B) (I := s.heap.objs.size) hh p n
    simpa using this
  · rintro i v hi ⟨t, rfl⟩
    exact ⟨.int (p + (i : Int)), by simp at hi; simp [hi], t, rfl⟩
  · intro b hb
    exact .inl (List.mem_singleton.mp hb)
  · intro i h st
    exact ⟨_, st⟩
end
section
variable {c : Cx} {lo : Loc} {ob : Obs} {X : QT Addr} {Q : QT V}
theorem range_1 {q : Int} (h : ∀ a, Q (.ref a) lo ((a, .rng 0 q) :: ob)) : Cal c (.cv (.type "range")) [.int q] Q X lo ob := by
  rintro _ _ rfl hv
  cases hv with
  | cons h1 h2 =>
    cases h2
    obtain ⟨t, rfl⟩ := h1
    rintro z s ⟨m, os, frs, n⟩
    exact call_range_1 ⟨.ref s.heap.objs.size, lo, _, rfl, ⟨m, _, frs, n.push (b := .rng 0 q) ⟨_, _, _, rfl⟩ rfl⟩, h _⟩
end
end Mine
end
section
open PySem PySem.W PySem.Calls PySem.Spec PyProof.Rows
set_option Elab.async false
set_option maxRecDepth 100000
set_option linter.unusedVariables false
namespace Mine

/-- a thing that a call may stand on -/
def Kp (c : Cx) (f : V) : Prop := ∀ cf, VR f cf → ∀ h, c.g.K.In h → ∃ k, (k = Keeper.frame ∨ k = Keeper.machine ∨ k = Keeper.boundFrame) ∧ Looks c.g.M h (keeperOf cf) k
theorem kp_ref {c : Cx} {a : Addr} (hk : keepIn c.g.K (.ref a) = true) : Kp c (.ref a) := by rintro _ rfl h X; exact keeps_K hk h X
theorem kp_blt {c : Cx} {id : String} : Kp c (.cv (.builtin id)) := by rintro _ rfl h X; exact ⟨.machine, .inr (.inl rfl), Looks.now⟩
theorem kp_type {c : Cx} {id : String} : Kp c (.cv (.type id)) := by rintro _ rfl h X; exact ⟨.machine, .inr (.inl rfl), Looks.now⟩

section
variable {c : Cx} {lo : Loc} {ob : Obs} {X : QT Addr} {Q : QT V}
theorem backTo_any {p : Pos} {env : Env} : ∀ {es : List Expr}, noStar es = true → (backTo p (starEach es env)).any (·.1) = false
  | [], _ => rfl
  | e :: r, h => by
    rw [starEach_of h]
    simp [backTo]
theorem evalArgs_of {p : Pos} {es : List Expr} {f : Value} {QS : QT (List V)} (hs : noStar es = true) (h : Args c es QS X lo ob) :
    W c (fun (vs : List V) (a : PySem.Args) => VRs vs a.pos ∧ a.kw = []) (evalArgs f true (backTo p (starEach es c.env)) []) QS X lo ob := fun z s n => by
  rw [starEach_of hs]
  cases es with
  | nil => exact PyProof.Rows.evalArgs_none ⟨[], lo, ob, ⟨.nil, rfl⟩, n, h⟩
  | cons e r => exact Calls.evalArgs_plain (wpAny_mono (spliced_of h z s n) (fun cs s' ⟨vs, lo, ob, hv, n, hq⟩ => ⟨vs, lo, ob, ⟨hv, rfl⟩, n, hq⟩) fun _ _ x => x)
/-- the call behind its callee -/
theorem callWith_abs {p : Pos} {es : List Expr} {f : V} {cf : Value} {first : List V} {cfirst : List Value} (ok : c.Ok) (hf : VR f cf) (hfs : VRs first cfirst) (hk : Kp c f) (hs : noStar es = true)
    (h : Args c es (fun vs lo ob => Cal c f (first ++ vs) Q X lo ob) X lo ob) : W c VR (callWith p cf cfirst (backTo p (starEach es c.env)) []) Q X lo ob := fun z s n => by
  refine callWith_of (P := c.g.K.In) (by rw [backTo_any hs]; rfl) (hk cf hf) ?_
  refine wpAny_mono (evalArgs_of hs h z s n) (fun a s' ⟨vs, lo, ob, ⟨hv, hkw⟩, n, hq⟩ => ⟨n.K ok, ?_⟩) fun _ _ x => x
  rw [hkw]
  exact hq cf _ hf (hfs.append hv) z s' n
theorem W_Call {func : Expr} {es : List Expr} {p : Pos} (ok : c.Ok) (hs : noStar es = true) (h : W c VR (eval func c.env) (fun f lo ob => Kp c f ∧ Args c es (fun vs lo ob => Cal c f vs Q X lo ob) X lo ob) X lo ob)
    (he : eval (.Call func es [] p) c.env = (do callWith p (← eval func c.env) [] (backTo p (starEach es c.env)) (backToKw p (keywordEach [] c.env))) := by rfl) : W c VR (eval (.Call func es [] p) c.env) Q X lo ob := fun z s n =>
  Call_ (wpAny_mono (h z s n) (fun cf s' ⟨f, lo, ob, hf, n, hk, h⟩ => callWith_abs (first := []) ok hf .nil hk hs h z s' n) fun _ _ x => x) he

abbrev MR : V × List V → Value × List Value → Prop := fun b a => VR b.1 a.1 ∧ VRs b.2 a.2
def GetM (c : Cx) (v : V) (name : Str) (Q : V → List V → Loc → Obs → Prop) (X : QT Addr) (lo : Loc) (ob : Obs) : Prop := ∀ cv pl, VR v cv → W c MR (getMethod cv name pl) (fun b lo ob => Q b.1 b.2 lo ob) X lo ob
theorem W_Method {o : Expr} {name : Str} {es : List Expr} {p ap : Pos} {pl : Sem Bool} (ok : c.Ok) (hs : noStar es = true) (h : W c VR (eval o c.env) (fun v lo ob => GetM c v name (fun f first lo ob => Kp c f ∧ Args c es (fun vs lo ob => Cal c f (first ++ vs) Q X lo ob) X lo ob) X lo ob) X lo ob)
    (he : eval (.Call (.Attribute o name ap) es [] p) c.env = (do
      let ov ← eval o c.env
      standAt ap.atName
      let (f, first) ← holding [ov] (getMethod ov name pl)
      callWith p f first (backTo p (starEach es c.env)) []) := by rfl) : W c VR (eval (.Call (.Attribute o name ap) es [] p) c.env) Q X lo ob := fun z s n =>
  MethodCall_ (wpAny_mono (h z s n) (fun cv s' ⟨v, lo, ob, hv, n, h⟩ => wpAny_mono (h cv pl hv z s' n) (fun fx s' ⟨b, lo, ob, hb, n, hk, h⟩ => callWith_abs ok hb.1 hb.2 hk hs h z s' n) fun _ _ x => x) fun _ _ x => x) he

def GetA (c : Cx) (v : V) (name : Str) (Q : QT V) (X : QT Addr) (lo : Loc) (ob : Obs) : Prop := ∀ cv, VR v cv → W c VR (getAttr cv name true) Q X lo ob
theorem W_Attr {e : Expr} {name : Str} {p : Pos} (h : W c VR (eval e c.env) (fun v lo ob => GetA c v name Q X lo ob) X lo ob)
    (he : eval (.Attribute e name p) c.env = (do
      let o ← eval e c.env
      standAt p.atName
      let r ← holding [o] (getAttr o name true)
      letTemporaryGo e o r
      pure r) := by with_unfolding_all rfl)
    (hl : ∀ o r, letTemporaryGo e o r = pure () := by intro _ _; rfl) : W c VR (eval (.Attribute e name p) c.env) Q X lo ob := fun z s n => by
  rw [he]
  refine wpAny_bind (wpAny_mono (h z s n) (fun cv s' ⟨v, lo, ob, hv, n, h⟩ => wpAny_bind (wpAny_standAt (wpAny_bind (wpAny_holding (wpAny_mono (h cv hv z s' n) (fun cu s' hu => ?_) fun _ _ x => x))))) fun _ _ x => x)
  rw [hl]
  exact wpAny_bind (wpAny_pure (wpAny_pure hu))

/- an object's dict -/
theorem isStr_str (k name : Str) (t : Tok) : (Value.str k t).isStr name = (k == name) := rfl
inductive Ent : List (Str × V) → Str → V → Prop
  | here {k v r} : Ent ((k, v) :: r) k v
  | there {k k' v u r} : k' ≠ k → Ent r k v → Ent ((k', u) :: r) k v
inductive NoEnt : List (Str × V) → Str → Prop
  | nil {k} : NoEnt [] k
  | cons {k k' u r} : k' ≠ k → NoEnt r k → NoEnt ((k', u) :: r) k
inductive EPut : List (Str × V) → Str → V → List (Str × V) → Prop
  | nil {k v} : EPut [] k v [(k, v)]
  | here {k v u r} : EPut ((k, u) :: r) k v ((k, v) :: r)
  | there {k k' v u r r'} : k' ≠ k → EPut r k v r' → EPut ((k', u) :: r) k v ((k', u) :: r')
theorem ERs.noRef {P : Params} : ∀ {es : List (Str × V)} {cs : List DictEntry}, ERs P es cs → cs.any (·.refKey) = false
  | _, _, .nil => rfl
  | _, _, .cons _ r => by
    rw [List.any_cons, r.noRef]
    rfl
theorem ERs.get {P : Params} {name : Str} {v : V} {es : List (Str × V)} {cs : List DictEntry} (h : Ent es name v) (e : ERs P es cs) : ∃ cv, getL name cs = some (some cv) ∧ VR v cv := by
  induction h generalizing cs with
  | here =>
    cases e with
    | cons hv r =>
      refine ⟨_, ?_, hv⟩
      unfold getL
      rw [List.find?_cons, isStr_str]
      simp
  | there hne _ ih =>
    cases e with
    | cons hv r =>
      obtain ⟨cv, h1, h2⟩ := ih r
      refine ⟨cv, ?_, h2⟩
      unfold getL at h1 ⊢
      rw [List.find?_cons, isStr_str, beq_eq_false_iff_ne.mpr hne]
      rw [List.any_cons]
      exact h1
theorem ERs.no {P : Params} {name : Str} {es : List (Str × V)} {cs : List DictEntry} (h : NoEnt es name) (e : ERs P es cs) : getL name cs = some none := by
  have hf : cs.find? (·.key.isStr name) = none := by
    induction h generalizing cs with
    | nil => cases e; rfl
    | cons hne _ ih =>
      cases e with
      | cons hv r => rw [List.find?_cons, isStr_str, beq_eq_false_iff_ne.mpr hne]; exact ih r
  unfold getL
  rw [hf, e.noRef]
  rfl
theorem ERs.put {P : Params} {name : Str} {v : V} {es es' : List (Str × V)} (h : EPut es name v es') {cs : List DictEntry} (e : ERs P es cs) {cv : Value} (hv : VR v cv) (t : Tok) : ERs P es' (putL name (PyData.keyHash P name) (.str name t) cv cs) := by
  induction h generalizing cs with
  | nil => cases e; exact .cons hv .nil
  | here => cases e with
    | cons _ r => unfold putL; rw [isStr_str]; simp only [beq_self_eq_true, if_true]; exact .cons hv r
  | there hne _ ih => cases e with
    | cons hu r => unfold putL; rw [isStr_str, beq_eq_false_iff_ne.mpr hne]; exact .cons hu (ih r hv)
theorem ERs.length {P : Params} : ∀ {es : List (Str × V)} {cs : List DictEntry}, ERs P es cs → cs.length = es.length
  | _, _, .nil => rfl
  | _, _, .cons _ r => by simp [r.length]
theorem getL_some {P : Params} {name : Str} : ∀ {es : List (Str × V)} {cs : List DictEntry}, ERs P es cs → (getL name cs).isSome = true := by
  intro es cs e
  unfold getL
  rw [e.noRef]
  split <;> rfl

theorem InstAt.of {z : List (Addr × Obj)} {s : Shared} {x C d : Addr} {es : List (Str × V)} (n : Now c z lo ob s) (h1 : (x, .inst C d) ∈ ob) (h2 : (d, .dct es) ∈ ob) : ∃ cs k, InstAt s.heap x (instObj C d) C (some (dictOf cs k)) ∧ ERs c.g.w.params es cs := by
  obtain ⟨m, os, frs, n⟩ := n
  obtain ⟨o1, _, _, g1, e1⟩ := n.mem h1
  obtain ⟨o2, _, _, g2, cs, k, e2, hr⟩ := n.mem h2
  cases e1
  subst e2
  exact ⟨cs, k, ⟨g1, rfl, rfl, g2⟩, hr⟩
theorem getm_inst {x C d f : Addr} {es : List (Str × V)} {name : Str} {Q : V → List V → Loc → Obs → Prop} (ok : c.Ok) (h1 : (x, .inst C d) ∈ ob) (h2 : (d, .dct es) ∈ ob) (hg : plainGet c.g.K C name = true) (hf : findIn c.g.K (.ref C) name = some (some (.ref f))) (ht : isFn c.g.K (.ref f) = true) (hl : NoEnt es name)
    (h : Q (.ref f) [.ref x] lo ob) : GetM c (.ref x) name Q X lo ob := by
  rintro _ pl rfl z s n
  obtain ⟨cs, k, I, hr⟩ := InstAt.of n h1 h2
  have n0 := n
  obtain ⟨m, os, frs, n⟩ := n
  exact method_inst n.F ok.g.X I hg hf ht (hr.no hl) ⟨(.ref f, [.ref x]), lo, ob, ⟨rfl, .one rfl⟩, n0, h⟩
def handedV : V → Bool
  | .cv v => handedIn v
  | .ref a => handedIn (.ref a)
  | _ => true
theorem handed_of {v : V} {cv : Value} (h : VR v cv) (hh : handedV v = true) : handedIn cv = true := by
  cases v with
  | none => cases h; rfl
  | bool b => cases h; rfl
  | int i => obtain ⟨t, rfl⟩ := h; rfl
  | str l => obtain ⟨t, rfl⟩ := h; rfl
  | bytes l => obtain ⟨b, t, rfl, _⟩ := h; rfl
  | ref a => cases h; exact hh
  | cv v => cases h; exact hh
theorem geta_own {x C d : Addr} {es : List (Str × V)} {name : Str} {v : V} {attr : Option Value} (ok : c.Ok) (h1 : (x, .inst C d) ∈ ob) (h2 : (d, .dct es) ∈ ob) (hg : plainGet c.g.K C name = true) (hh : hasDictIn c.g.K C = true) (ha : findIn c.g.K (.ref C) name = some attr) (hn : noGet c.g.K attr = true) (hl : Ent es name v) (hv : handedV v = true)
    (h : Q v lo ob) : GetA c (.ref x) name Q X lo ob := by
  rintro _ rfl z s n
  obtain ⟨cs, k, I, hr⟩ := InstAt.of n h1 h2
  have n0 := n
  obtain ⟨m, os, frs, n⟩ := n
  obtain ⟨cv, e, hcv⟩ := hr.get hl
  exact get_own n.F ok.g.X I hg hh ha hn e (handed_of hcv hv) (LQ.mk hcv (n0.toks rfl) h)
end
end Mine
end
section
open PySem PySem.W PySem.Calls PySem.Spec PyProof.Rows
set_option Elab.async false
set_option maxRecDepth 100000
set_option linter.unusedVariables false
namespace Mine

/-- a function's own frame, called from c -/
abbrev callee (c : Cx) (A : Around) (env : Env) (L : Addr) (oL : Obj) (frs : List (Addr × Obj)) (d : Nat) : Cx :=
  { g := c.g, B := A.deeper env, env := env, fenv := env, ns := env.scope.names, outer := c.fenv :: c.outer, frs0 := (L, oL) :: frs, rest := [], cv := none, d := d }

/-- an exception leaves a function's frame -/
def LeavesOK (X : QT Addr) (X' : Addr → Obs → Prop) : Prop := ∀ (c : Cx) (A : Around) (env : Env) (oL : Obj) (frs : List (Addr × Obj)) (d : Nat) (m : Str → Option Value) (z : List (Addr × Obj)) (lo : Loc) (e : Value) (s : Shared),
  c.Ok → (callee c A env c.L oL frs d).Ok → Fram c.outer c.frs0 frs → LR c.ns lo m → (∃ es ep, oL.data = .dict es ep ∧ StrKeys es ∧ ∀ name, nsFind es name = m name) → c.g.hb.objs.size ≤ c.L → (∀ p ∈ frs, p.1 ≠ c.L) →
  LX (callee c A env c.L oL frs d) (c.rest ++ z) X e s →
  wpAny c.g.M (A.deeper env) (leaving env e) (fun _ s' => ∃ a ob, e = .ref a ∧ Exc c z a lo ob s' ∧ X' a ob) (fun e' s' => ∃ a ob, e' = .ref a ∧ Exc c z a lo ob s' ∧ X' a ob) s
theorem leaves_never {X' : Addr → Obs → Prop} : LeavesOK (fun _ _ _ => False) X' := by
  rintro c A env oL frs d m z lo e s _ _ _ _ _ _ _ ⟨_, _, _, _, _, h⟩
  exact h.elim

def FnR (c : Cx) (z : List (Addr × Obj)) (lo : Loc) (Q : V → Obs → Prop) (X : Addr → Obs → Prop) : Result → Shared → Prop := fun r s => match r with
  | .ok (.ret v) => ∃ u ob, VR u v ∧ Now c z lo ob s ∧ Q u ob
  | .ok _ => False
  | .error e => ∃ a ob, e = .ref a ∧ Exc c z a lo ob s ∧ X a ob
/-- what a function of the text's does; hq: it may be called where an exception is handled -/
def FnC (g : G) (f : Addr) (args : List V) (d : Nat) (hq : Bool) (Q : V → Obs → Prop) (X : Addr → Obs → Prop) (ob : Obs) : Prop :=
  ∀ (c : Cx) (A : Around), c.Ok → c.g = g → A.frames = some (c.fenv :: c.outer) → A.depth + d < recursionLimit → A.units + 4 * d + 100 < cLine → (hq = false → A.handled = none) → ∀ cas, VRs args cas → ∀ z lo s, Now c z lo ob s → codeAny g.M A (.call (.ref f) ⟨cas, []⟩) (FnR c z lo Q X) s

section
variable {c : Cx} {lo : Loc} {ob : Obs} {X : QT Addr} {Q : QT V}
theorem cal_fn {f : Addr} {args : List V} {d : Nat} {hq : Bool} {QF : V → Obs → Prop} {XF : Addr → Obs → Prop} (ok : c.Ok) (F : FnC c.g f args d hq QF XF ob) (hd : d ≤ c.d) (hh : hq = true ∨ c.B.handled = none) (hQ : ∀ v ob, QF v ob → Q v lo ob) (hX : ∀ a ob, XF a ob → X a lo ob) : Cal c (.ref f) args Q X lo ob := by
  rintro _ cas rfl hv z s n
  refine wpAny_call (codeAny_mono (F c c.B ok rfl ok.fr (by have := ok.room; omega) (by have := ok.un; omega) (fun h => hh.resolve_left (by rw [h]; simp)) cas hv z lo s n) fun r s' hr => ?_)
  match r with
  | .ok (.ret v) => obtain ⟨u, ob, hu, n, hq⟩ := hr; exact ⟨u, lo, ob, hu, n, hQ _ _ hq⟩
  | .ok .next => exact hr.elim
  | .ok .brk => exact hr.elim
  | .ok .cont => exact hr.elim
  | .error e => obtain ⟨a, ob, rfl, n, hq⟩ := hr; exact ⟨a, lo, ob, rfl, n, hX _ _ hq⟩
theorem FnC.mono {g : G} {f : Addr} {args : List V} {d : Nat} {hq : Bool} {Q Q' : V → Obs → Prop} {X X' : Addr → Obs → Prop} (F : FnC g f args d hq Q X ob) (hQ : ∀ v ob, Q v ob → Q' v ob) (hX : ∀ a ob, X a ob → X' a ob) : FnC g f args d hq Q' X' ob := by
  intro c A ok hg hf hd hu hh cas hv z lo s n
  refine codeAny_mono (F c A ok hg hf hd hu hh cas hv z lo s n) fun r s' hr => ?_
  match r with
  | .ok (.ret v) => obtain ⟨u, ob, hu, n, hq⟩ := hr; exact ⟨u, ob, hu, n, hQ _ _ hq⟩
  | .ok .next => exact hr.elim
  | .ok .brk => exact hr.elim
  | .ok .cont => exact hr.elim
  | .error e => obtain ⟨a, ob, rfl, n, hq⟩ := hr; exact ⟨a, ob, rfl, n, hX _ _ hq⟩
theorem FnC.frame {g : G} {f : Addr} {args : List V} {d : Nat} {hq : Bool} {Q : V → Obs → Prop} {X : Addr → Obs → Prop} {small oth : Obs} (p : Picks ob small oth) (F : FnC g f args d hq (fun v ob => Q v (ob ++ oth)) (fun a ob => X a (ob ++ oth)) small) : FnC g f args d hq Q X ob := by
  intro c A ok hg hf hd hu hh cas hv z lo s n
  obtain ⟨m, os, frs, n⟩ := n.perm p.perm
  obtain ⟨o1, o2, ho, rfl, n1⟩ := n.out
  refine codeAny_mono (F c A ok hg hf hd hu hh cas hv (o2 ++ z) lo s ⟨m, o1, frs, n1⟩) fun r s' hr => ?_
  match r with
  | .ok (.ret v) => obtain ⟨u, ob, hu, ⟨m, os, frs, n⟩, hq⟩ := hr; subst hg; exact ⟨u, _, hu, ⟨m, _, frs, n.back ho⟩, hq⟩
  | .ok .next => exact hr.elim
  | .ok .brk => exact hr.elim
  | .ok .cont => exact hr.elim
  | .error e =>
    obtain ⟨a, ob, rfl, ⟨⟨k, d, r, hm⟩, m, os, frs, n, t⟩, hq⟩ := hr
    refine ⟨a, _, rfl, ⟨⟨k, d, r, List.mem_append_left _ hm⟩, m, _, frs, n.back ho, t.sub fun x hx => ?_⟩, hq⟩
    simp only [List.map_append, List.mem_append] at hx ⊢
    rcases hx with (h | h) | (h | h) | h
    · exact .inl h
    · exact .inr (.inl (.inr (.inl h)))
    · exact .inr (.inl (.inl h))
    · exact .inr (.inl (.inr (.inr h)))
    · exact .inr (.inr h)

theorem mem_of_lookup {β : Type} {x : Str} {w : β} : ∀ {r : List (Str × β)}, r.lookup x = some w → (x, w) ∈ r
  | [], h => by cases h
  | (a, b) :: r, h => by
    rw [List.lookup_cons] at h
    by_cases q : x = a
    · subst q; simp at h; subst h; exact .head _
    · have e : (x == a) = false := by simpa using q
      rw [e] at h
      exact .tail _ (mem_of_lookup h)
/-- the locals at a function's start -/
def iniL (ns : Nms) (kv : List (Str × V)) : Loc := ns.map fun p => if p.2 == .local then kv.lookup p.1 else none
theorem iniL_has {kv : List (Str × V)} {x : Str} {v : V} : ∀ {ns : Nms}, Has ns (iniL ns kv) x v → kv.lookup x = some v := by
  intro ns
  induction ns with
  | nil => intro h; cases h
  | cons p r ih =>
    intro h
    generalize hl : iniL (p :: r) kv = l at h
    cases h with
    | here =>
      simp only [iniL, List.map_cons] at hl
      injection hl with h1 h2
    | there h =>
      simp only [iniL, List.map_cons] at hl
      injection hl with h1 h2
      subst h2
      exact ih h
theorem lookup_zip {pn : List Str} {vs : List V} {cs : List Value} (hr : VRs vs cs) (hn : pn.Nodup) {x : Str} {v : V} (h : (pn.zip vs).lookup x = some v) : ∃ cv, (pn.zip cs).reverse.lookup x = some cv ∧ VR v cv := by
  have key : ∀ {pn : List Str} {vs : List V} {cs : List Value}, VRs vs cs → (pn.zip vs).lookup x = some v → ∃ cv, (pn.zip cs).lookup x = some cv ∧ VR v cv := by
    intro pn vs cs hr h
    induction hr generalizing pn with
    | nil => cases pn <;> cases h
    | cons h1 _ ih =>
      cases pn with
      | nil => cases h
      | cons a pn =>
        rw [List.zip_cons_cons, List.lookup_cons] at h ⊢
        by_cases q : x = a
        · subst q; simp at h; subst h; exact ⟨_, by simp, h1⟩
        · have e : (x == a) = false := by simpa using q
          rw [e] at h ⊢
          exact ih h
  obtain ⟨cv, h1, h2⟩ := key hr h
  refine ⟨cv, ?_, h2⟩
  -- a lookup from behind is the same where the names differ
  have rev : ∀ {l : List (Str × Value)}, (l.map (·.1)).Nodup → l.reverse.lookup x = l.lookup x := by
    intro l hl
    induction l with
    | nil => rfl
    | cons p r ih =>
      obtain ⟨a, b⟩ := p
      rw [List.map_cons, List.nodup_cons] at hl
      rw [List.reverse_cons, List.lookup_append, ih hl.2, List.lookup_cons, List.lookup_cons]
      by_cases q : x = a
      · subst q
        have : r.lookup x = none := by
          cases hq : r.lookup x with
          | none => rfl
          | some w => exact absurd (List.mem_map_of_mem (f := (·.1)) (mem_of_lookup hq)) hl.1
        simp [this]
      · have e : (x == a) = false := by simpa using q
        simp [e]
  rw [rev ?_]
  · exact h1
  · have e : ((pn.zip cs).map (·.1)).Sublist pn := by
      clear h h1 h2 hr rev key
      induction pn generalizing cs with
      | nil => simp
      | cons a pn ih =>
        cases cs with
        | nil => simp
        | cons c cs => simp only [List.zip_cons_cons, List.map_cons]; exact (ih (List.nodup_cons.mp hn).2).cons_cons _
    exact hn.sublist e
end
end Mine
end
section
open PySem PySem.W PySem.Calls PySem.Spec PyProof.Rows
set_option Elab.async false
set_option maxRecDepth 100000
set_option linter.unusedVariables false
namespace Mine

/-- what a body hands back -/
def FnQ (Q : V → Obs → Prop) : QT AF := fun f _ ob => match f with
  | .ret v => Q v ob
  | _ => Q .none ob

/-- a function by its body -/
theorem fn_intro {g : G} {f : Addr} {args : List V} {d : Nat} {hq : Bool} {Q : V → Obs → Prop} {X : QT Addr} {X' : Addr → Obs → Prop} {ob : Obs} {lo0 : Loc} {pn : List Str}
    {name qual : Str} {params : Arguments} {body : List Stmt} {scope : Scope} {dV kV doc pm cdv ct oc : Value} {an od : Option Addr} {osl : Array (Option Value)}
    (ho : g.K.lookup f = some ⟨oc, od, .func (fnOf name qual params body scope dV kV doc pm an cdv ct), osl⟩) (hcd : codeIn g.K cdv qual = true)
    (hbind : ∀ (s : Shared) cas, g.K.In s.heap → VRs args cas → BindsTo s (fnOf name qual params body scope dV kV doc pm an cdv ct) ⟨cas, []⟩ (pn.zip cas))
    (hpn : pn.Nodup) (hlo : iniL scope.names (pn.zip args) = lo0) (hloc : ∀ y ∈ pn, scope.names.lookup y = some .local) (hnd : (scope.names.map (·.1)).Nodup)
    (hcell : ∀ x ∈ scope.names, x.2 ≠ .cell) (hX : LeavesOK X X')
    (h : ∀ c : Cx, c.Ok → c.g = g → c.env = envOf qual scope c.L f cdv → c.ns = scope.names → c.env.scope.names = scope.names → c.cv = none → c.d = d → (hq = false → c.B.handled = none) → W c FR (execs body c.env) (FnQ Q) X lo0 ob)
    (hco : scope.isCoroutine = false := by rfl) (hgen : scope.isGenerator = false := by rfl) (hk : scope.kind = .function := by rfl) : FnC g f args (d + 1) hq Q X' ob := by
  intro c A ok hg hf hd hun hh cas hv z lo s n
  subst hg
  have n0 := n
  obtain ⟨m, os, frs, n⟩ := n
  have F := n.F
  have X₀ := ok.g.X.keeps F.keep
  obtain ⟨oL, es, ep, hL, hLd, hLk, hLf⟩ := F.ns
  have hLt := Heap.lt_size hL
  have hfst : ∀ y ∈ pn.zip cas, scope.names.lookup y.1 = some .local := fun y hy => hloc _ (List.of_mem_zip hy).1
  refine codeAny_call_def (fd := fnOf name qual params body scope dV kV doc pm an cdv ct) (body := body) (binds := pn.zip cas) (by omega) (X₀ _ _ ho) rfl (ok.g.T.nolimit.keeps F.keep) (codeRec_of X₀ hcd) rfl (hbind _ _ X₀ hv) hcell hfst (fun h₁ hns hk₁ => ?_) hco hgen hk
  have up : ∀ b o, s.heap.get? b = some o → h₁.get? b = some o := fun b o e => hk₁ b o e
  have ok' : (callee c A (envOf qual scope s.heap.objs.size f cdv) c.L oL frs d).Ok := by
    refine ⟨ok.g, ?_, rfl, hnd, rfl, hk, rfl, hk, rfl, rfl, hnd, ?_, ?_, fun _ => rfl, fun _ h => nomatch h⟩
    · show A.frames.map _ = _
      rw [hf]; rfl
    · show A.depth + 1 + d < _
      omega
    · show A.units + 3 + 4 * d + 100 < _
      omega
  have n' : NowAt (callee c A (envOf qual scope s.heap.objs.size f cdv) c.L oL frs d) (c.rest ++ z) lo0 ob { s with heap := h₁, toks := s.toks + (pn.zip cas).length } (fun y => (pn.zip cas).reverse.lookup y) os ((c.L, oL) :: frs) := by
    refine ⟨⟨hns, fun b o e => up b o (F.keep b o e), Nat.le_trans F.above (Nat.le_of_lt hLt)⟩, fun x v hx => ?_, n.rs, fun q hq => ?_, n.nd, ⟨⟨?_, ok.fframe, ⟨es, ep, hLd⟩, n.fm.fs⟩, TI.SameUp.refl _⟩, (fun a ha hm => ?_), n.og⟩
    · subst hlo
      exact lookup_zip hv hpn (iniL_has hx)
    · have hin : s.heap.get? q.1 = some q.2 ∧ c.g.hb.get? q.1 = none := by
        simp only [List.nil_append, List.mem_append, List.mem_cons] at hq
        rcases hq with h | (h | h) | rfl | h
        · exact ⟨(n.N q (by simp [h])).1, (n.N q (by simp [h])).2.2⟩
        · exact ⟨(n.N q (by simp [h])).1, (n.N q (by simp [h])).2.2⟩
        · exact ⟨(n.N q (by simp [h])).1, (n.N q (by simp [h])).2.2⟩
        · exact ⟨hL, Heap.get?_none_of_le F.above⟩
        · exact ⟨(n.N q (by simp [h])).1, (n.N q (by simp [h])).2.2⟩
      exact ⟨up _ _ hin.1, Nat.ne_of_lt (Heap.lt_size hin.1), hin.2⟩
    · rw [ok.fkind]; decide
    · rcases List.mem_cons.mp hm with e | hm
      · obtain ⟨q, hq, e'⟩ := List.mem_map.mp ha
        have hq' : q ∈ os ++ ((c.rest ++ z) ++ frs) := by
          simp only [List.nil_append, List.mem_append] at hq ⊢
          rcases hq with h | h | h
          · exact .inl h
          · exact .inr (.inl (.inl h))
          · exact .inr (.inl (.inr h))
        exact (n.N q hq').2.1 (e'.trans e)
      · exact n.ap a ha (by rw [← sameUp_addrs n.fm.su]; exact hm)
  refine wpAny_mono (h _ ok' rfl rfl rfl rfl rfl rfl (fun q => hh q) (c.rest ++ z) _ ⟨_, os, _, n'⟩) (fun fl s' hl => ?_) fun e s' hx => ?_
  · obtain ⟨gf, lo', ob', hg', ⟨m', os', frs', nn⟩, hq'⟩ := hl
    have nn2 : Now c z lo ob' s' := by
      refine ⟨m, os', frs'.tail, ?_⟩
      have hsu := nn.fm.su
      cases frs' with
      | nil => exact hsu.elim
      | cons q qs =>
        obtain ⟨h1, ⟨sl, h2⟩, SU'⟩ := hsu
        have hq := (nn.N q (List.mem_append_right _ (List.mem_append_right _ List.mem_cons_self))).1
        have h1' : q.1 = c.L := h1
        have h2' : q.2 = { oL with slots := sl } := h2
        rw [h1', h2'] at hq
        have hap : ∀ a ∈ (os' ++ (c.rest ++ z)).map (·.1), a ≠ c.L ∧ a ∉ frs.map (·.1) := fun a ha => ⟨fun e => nn.ap a ha (by rw [e]; exact .head _), fun hm => nn.ap a ha (.tail _ hm)⟩
        refine ⟨⟨⟨_, es, ep, hq, hLd, hLk, hLf⟩, nn.F.keep, F.above⟩, n.lr, nn.rs, fun r hr => ?_, nn.nd, n.fm.up SU', (fun a ha hm => ?_), nn.og⟩
        · rw [List.tail_cons] at hr
          have hr' : r ∈ os' ++ (([] ++ (c.rest ++ z)) ++ q :: qs) := by
            simp only [List.nil_append, List.mem_append, List.mem_cons] at hr ⊢
            rcases hr with h | (h | h) | h
            · exact .inl h
            · exact .inr (.inl (.inl h))
            · exact .inr (.inl (.inr h))
            · exact .inr (.inr (.inr h))
          refine ⟨(nn.N r hr').1, ?_, (nn.N r hr').2.2⟩
          simp only [List.mem_append] at hr
          rcases hr with h | (h | h) | h
          · exact (hap r.1 (List.mem_map_of_mem (by simp [h]))).1
          · exact (hap r.1 (List.mem_map_of_mem (by simp [h]))).1
          · exact (hap r.1 (List.mem_map_of_mem (by simp [h]))).1
          · obtain ⟨r₀, hr₀, e⟩ := TI.SameUp.fwd SU' r h
            rw [e]
            exact (n.N r₀ (List.mem_append_right _ (List.mem_append_right _ hr₀))).2.1
        · exact (hap a ha).2 (by rw [← sameUp_addrs n.fm.su] at hm; exact hm)
    cases gf with
    | next => cases hg'; exact ⟨V.none, ob', rfl, nn2, hq'⟩
    | brk => cases hg'; exact ⟨V.none, ob', rfl, nn2, hq'⟩
    | cont => cases hg'; exact ⟨V.none, ob', rfl, nn2, hq'⟩
    | ret v => obtain ⟨cv, rfl, hr⟩ := hg'; exact ⟨v, ob', hr, nn2, hq'⟩
  · exact hX c A (envOf qual scope s.heap.objs.size f cdv) oL frs d m z lo e s' ok ok' n.fm n.lr ⟨es, ep, hLd, hLk, hLf⟩ F.above (fun p hp => (n.N p (List.mem_append_right _ (List.mem_append_right _ hp))).2.1) hx
end Mine
end
section
open PySem PySem.W PySem.Calls PySem.Spec PyProof.Rows
set_option Elab.async false
set_option maxRecDepth 100000
set_option linter.unusedVariables false
namespace Mine

section
variable {c : Cx} {lo : Loc} {ob : Obs} {X : QT Addr} {Q : QT V}
theorem exc_new {z : List (Addr × Obj)} {s : Shared} {m : Str → Option Value} {os frs : List (Addr × Obj)} (n : NowAt c z lo ob s m os frs) {h' : Heap} {tk : Nat} {e : Addr} {T : String} (hx : Heap.NewExc s.heap h' e T) :
    Exc c z e lo ((e, .exc (.type T) none none) :: ob) { s with heap := h', toks := tk } := by
  obtain ⟨o, t, he, hcls, hd⟩ := hx.there
  refine ⟨⟨_, _, _, .head _⟩, m, (e, o) :: os, frs, n.add (s' := { s with heap := h', toks := tk }) (n.F.keeps hx.keeps) (fun p hp => ?_) ⟨hcls, (by intro _ h; cases h), t, #[Value.none, Value.none, Value.none, Value.bool false, Value.none], hd, rfl, (by intro _ h; cases h)⟩ (fun p hp q => ?_), o, _, he, hd, .inl rfl⟩
  · rcases List.mem_cons.mp hp with rfl | hp
    · refine ⟨he, fun q => ?_, ?_⟩
      · obtain ⟨oL, es, ep, hL, _⟩ := n.F.ns
        have := hx.new
        rw [show e = c.L from q, hL] at this; cases this
      · cases hq : c.g.hb.get? e with
        | none => rfl
        | some w => have := n.F.keep e w hq; rw [hx.new] at this; cases this
    · exact ⟨hx.keeps _ _ (n.N p hp).1, (n.N p hp).2⟩
  · have := (n.N p hp).1
    rw [q, hx.new] at this; cases this
theorem VRs1 {v : V} {cs : List Value} (h : VRs [v] cs) : ∃ c, cs = [c] ∧ VR v c := by
  cases h with
  | cons a r => cases r; exact ⟨_, rfl, a⟩
theorem VRs2 {v w : V} {cs : List Value} (h : VRs [v, w] cs) : ∃ c d, cs = [c, d] ∧ VR v c ∧ VR w d := by
  cases h with
  | cons a r => cases r with
    | cons b r => cases r; exact ⟨_, _, rfl, a, b⟩
theorem sub_str {value slice : Expr} {l : List Nat} {i : Int} (hh : c.B.handled = none) (h0 : 0 ≤ i) (h63 : i < 9223372036854775808) (hin : ∀ k, l[i.toNat]? = some k → Q (.str [k]) lo ob)
    (hout : l[i.toNat]? = none → ∀ e, X e lo ((e, .exc (.type "IndexError") none none) :: ob)) (hs : ∀ t u, subscripted slice false (.str (tx l) t) (.int i u) = operate [.str (tx l) t, .int i u] (getItem (.str (tx l) t) (.int i u)) := by intro _ _; with_unfolding_all rfl) : Sub2 c value slice (.str l) (.int i) Q X lo ob := by
  rintro _ _ ⟨t, rfl⟩ ⟨u, rfl⟩ z s n
  refine str_item_T hh h0 h63 (fun k hk => LQ.str (n.toks rfl) (hin k hk)) (fun hn h' tk e hx => ?_) (hs t u)
  obtain ⟨m, os, frs, n⟩ := n
  exact ⟨e, lo, _, rfl, exc_new n hx, hout hn e⟩

theorem len_str {l : List Nat} (hz : l.length ≤ 100000) (h : Q (.int l.length) lo ob) : Cal c (.cv (.builtin "len")) [.str l] Q X lo ob := by
  rintro _ cs rfl hv z s n
  obtain ⟨_, rfl, t, rfl⟩ := VRs1 hv
  exact len_tx hz (LQ.int (n.toks rfl) h)
theorem ord_1 {k : Nat} (h : Q (.int k) lo ob) : Cal c (.cv (.builtin "ord")) [.str [k]] Q X lo ob := by
  rintro _ cs rfl hv z s n
  obtain ⟨_, rfl, t, rfl⟩ := VRs1 hv
  exact P.ord_of_char (LQ.int (n.toks rfl) h)
theorem isi_str_str {l : List Nat} (h : Q (.bool true) lo ob) : Cal c (.cv (.builtin "isinstance")) [.str l, .cv (.type "str")] Q X lo ob := by
  rintro _ cs rfl hv z s n
  obtain ⟨_, _, rfl, ⟨t, rfl⟩, rfl⟩ := VRs2 hv
  exact IsiPair.str_str (LQ.bool n h)
theorem isi_bytes_str {l : List Nat} (ok : c.Ok) (h : Q (.bool false) lo ob) : Cal c (.cv (.builtin "isinstance")) [.bytes l, .cv (.type "str")] Q X lo ob := by
  rintro _ cs rfl hv z s n
  obtain ⟨_, _, rfl, ⟨b, t, rfl, _⟩, rfl⟩ := VRs2 hv
  exact kia_one (K := c.g.K) (b := false) kitx_bytes (n.K ok) trivial (by kernel_rfl) (by intro e; cases e) fun tk => LQ.bool (n.toks rfl) h
theorem str_latin1 {l : List Nat} (hz : l.length ≤ 100000) (h : Q (.str l) lo ob) : Cal c (.cv (.type "str")) [.bytes l, .str [108, 97, 116, 105, 110, 49]] Q X lo ob := by
  rintro _ cs rfl hv z s n
  obtain ⟨_, _, rfl, ⟨b, t, rfl, hb⟩, u, rfl⟩ := VRs2 hv
  have e : tx [108, 97, 116, 105, 110, 49] = Str.ofString "latin1" := by decide +kernel
  rw [e]
  exact str_latin_tx hb (by rw [sizeLine_eq]; omega) fun t' k' => LQ.str (n.toks rfl) h
end
end Mine
namespace Mine
end Mine
end
section
open PySem PySem.W PySem.Calls PySem.Spec PyProof.Rows
set_option Elab.async false
set_option maxRecDepth 100000
set_option linter.unusedVariables false
namespace Mine
section
variable {c : Cx} {lo : Loc} {ob : Obs} {X : QT Addr} {Q : QT V} {QB : QT Bool} {P P' : Prop} {e : Expr} {r : List Expr}
theorem args_nil' {Q : List V → Loc → Obs → Prop} (h : Q [] lo ob) : Args c [] Q X lo ob := h
theorem args_cons' {Q : List V → Loc → Obs → Prop} (h : W c VR (eval e c.env) (fun v lo ob => Args c r (fun vs lo ob => Q (v :: vs) lo ob) X lo ob) X lo ob) : Args c (e :: r) Q X lo ob := h
theorem br_t (h : P) : Br true P P' := ⟨fun _ => h, fun h => nomatch h⟩
theorem br_f (h : P') : Br false P P' := ⟨fun h => (nomatch h), fun _ => h⟩
theorem br_not {b : Bool} (h : Br b P' P) : Br (!b) P P' := by cases b; exact br_t (h.2 rfl); exact br_f (h.1 rfl)
theorem br_dec {p : Prop} [Decidable p] (h1 : p → P) (h2 : ¬ p → P') : Br (decide p) P P' := ⟨fun h => h1 (of_decide_eq_true h), fun h => h2 (of_decide_eq_false h)⟩
theorem br_yes {p : Prop} [Decidable p] (hp : p) (h1 : P) : Br (decide p) P P' := br_dec (fun _ => h1) fun h => absurd hp h
theorem tst_and_nil (h : QB true lo ob) : TstAll c .And [] QB X lo ob := h
theorem tst_and (h : Tst c e (fun v lo ob => Br v (TstAll c .And r QB X lo ob) (QB false lo ob)) X lo ob) : TstAll c .And (e :: r) QB X lo ob := h
theorem tst_or_nil (h : QB false lo ob) : TstAll c .Or [] QB X lo ob := h
theorem tst_or (h : Tst c e (fun v lo ob => Br v (QB true lo ob) (TstAll c .Or r QB X lo ob)) X lo ob) : TstAll c .Or (e :: r) QB X lo ob := h
theorem val_one {op : BoolOp} (h : W c VR (eval e c.env) Q X lo ob) : ValAll c op [e] Q X lo ob := by cases op <;> exact h
theorem val_or {e' : Expr} (h : W c VR (eval e c.env) (fun v lo ob => Tru c v (fun b lo ob => Br b (Q v lo ob) (ValAll c .Or (e' :: r) Q X lo ob)) X lo ob) X lo ob) : ValAll c .Or (e :: e' :: r) Q X lo ob := h
theorem fnq_ret {Q : V → Obs → Prop} {v : V} (h : Q v ob) : FnQ Q (.ret v) lo ob := h
theorem fnq_next {Q : V → Obs → Prop} (h : Q .none ob) : FnQ Q .next lo ob := h
theorem kp_and {f : V} (h : Kp c f) (hp : P) : Kp c f ∧ P := ⟨h, hp⟩
end
end Mine
end
section
open PySem PySem.W PySem.Calls PySem.Spec PyProof.Rows
set_option Elab.async false
set_option maxRecDepth 100000
set_option linter.unusedVariables false
namespace Mine

section
variable {M : Model} {A : Around} {E : Value → Shared → Prop} {s : Shared}
theorem entry_raw {base : Heap} {env : Env} {outer : List Env} {L e : Addr} {oe : Obj} {vs : Array Value} {head : Value} {hadNext : Bool} {Q : Unit → Shared → Prop}
    (hfr : A.frames = some (env :: outer)) (hl : s.heap.FunFrames base (env :: outer)) (hf : env.frame = some L) (he : s.heap.get? e = some oe) (hd : oe.data = .fields vs) (hsz : 1 < vs.size)
    (h : ∀ h' T oT ts, (∀ b o, b ∉ (env :: outer).filterMap (·.frame) → b ≠ e → s.heap.get? b = some o → h'.get? b = some o) → (∀ b o, b ≠ e → s.heap.get? b = some o → ∃ sl, h'.get? b = some { o with slots := sl }) →
      h'.get? e = some (oe.mapFields (·.setIfInBounds 1 (.ref T))) → s.heap.get? T = none → h'.get? T = some oT → oT.data = .fields ts → ts[3]? = some (rawInt L) → Q () { s with heap := h' }) :
    wpAny M A (do let a ← frameOf env; let pl ← entryPlaceOf L hadNext; let b ← EntryCells.newEntry head a .none (rawInt L) .none pl; setField (.ref e) 1 b) Q E s := by
  have hene : e ∉ (env :: outer).filterMap (·.frame) := fun hm => by
    obtain ⟨_, o, ho, hnf⟩ := hl.mem hm
    rw [he] at ho; injection ho with ho; subst ho; exact hnf vs hd
  refine wpAny_bind (wpAny_frameOf_fun hfr hl hf fun h₁ hs₁ => ?_)
  refine wpAny_bind (wpAny_entryPlaceOf fun pl hpl => ?_)
  unfold EntryCells.newEntry newFields
  refine wpAny_bind (wpAny_newObj_type ?_ (hpl.sizeOk5 _ _ _ _ _))
  have he₁ : h₁.get? e = some oe := (hs₁.2.1 e hene).trans he
  have he₂ := Heap.get?_push_of_some (h := h₁) { cls := .type "traceback", dict := none, data := .fields ([head, .ref L, .none, rawInt L, .none] ++ (if pl.isEmpty then List.replicate 6 Value.none else pl)).toArray } he₁
  have hTe : h₁.objs.size ≠ e := Nat.ne_of_gt (Heap.lt_size he₁)
  have hd₃ := Obj.data_mapFields hd (·.setIfInBounds 1 (Value.ref h₁.objs.size))
  have keep : ∀ b o, b ≠ e → h₁.get? b = some o →
      ((h₁.push { cls := .type "traceback", dict := none, data := .fields ([head, .ref L, .none, rawInt L, .none] ++ (if pl.isEmpty then List.replicate 6 Value.none else pl)).toArray }).update e (Obj.mapFields (·.setIfInBounds 1 (Value.ref h₁.objs.size)))).get? b = some o :=
    fun b o hbe hb => by
      rw [Heap.get?_update_other _ _ (Ne.symm hbe)]
      exact Heap.get?_push_of_some _ hb
  refine wpAny_setField he₂ hd hsz (h _ h₁.objs.size _ _ (fun b o hb hbe e1 => keep b o hbe ((hs₁.2.1 b hb).trans e1)) (fun b o hbe e1 => ?_) (Heap.get?_update_self _ he₂ (Obj.isFreed_of_fields hd₃)) ?_
    ((Heap.get?_update_other _ _ (Ne.symm hTe)).trans (Heap.get?_push_size _ rfl)) rfl ?_)
  · obtain ⟨sl, e2⟩ := hs₁.2.2 b o e1
    exact ⟨sl, keep b _ hbe e2⟩
  · cases hq : s.heap.get? h₁.objs.size with
    | none => rfl
    | some o =>
      obtain ⟨sl, e2⟩ := hs₁.2.2 _ o hq
      exact absurd (Heap.lt_size e2) (Nat.lt_irrefl _)
  · rcases hpl with rfl | ⟨_, _, _, _, _, _, _, rfl⟩ <;> simp
end

/-- the traceback's head and whose flight it notes -/
def TbAt (c : Cx) (as : List Addr) (h : Heap) (a : Addr) (fl : Value) : Prop := ∃ oe vs b ot ts, h.get? a = some oe ∧ oe.data = .fields vs ∧ vs[1]? = some (.ref b) ∧ h.get? b = some ot ∧ ot.data = .fields ts ∧ ts[3]? = some fl ∧ b ≠ c.L ∧ c.g.hb.get? b = none ∧ b ∉ as
def HeldX (c : Cx) (z : List (Addr × Obj)) (a : Addr) (lo : Loc) (ob : Obs) (fl : Value) (s : Shared) : Prop := (∃ cls d arg, (a, Ob.exc cls d arg) ∈ ob) ∧ ∃ m os frs, NowAt c z lo ob s m os frs ∧ TbAt c ((os ++ ((c.rest ++ z) ++ frs)).map (·.1)) s.heap a fl
theorem HeldX.exc {c : Cx} {z : List (Addr × Obj)} {a : Addr} {lo : Loc} {ob : Obs} {fl : Value} {s : Shared} (h : HeldX c z a lo ob fl s) : Exc c z a lo ob s := by
  obtain ⟨hm, m, os, frs, n, oe, vs, b, ot, ts, h1, h2, h3, h4, h5, h6, h7, h8, h9⟩ := h
  exact ⟨hm, m, os, frs, n, oe, vs, h1, h2, .inr ⟨b, ot, ts, h3, h4, h5, (Array.getElem?_eq_some_iff.mp h6).1, h7, h8, h9⟩⟩
theorem HeldX.now {c : Cx} {z : List (Addr × Obj)} {a : Addr} {lo : Loc} {ob : Obs} {fl : Value} {s : Shared} (h : HeldX c z a lo ob fl s) : Now c z lo ob s := by
  obtain ⟨hm, m, os, frs, n, _⟩ := h
  exact ⟨m, os, frs, n⟩

theorem OUpd.same {a : Addr} {b : Ob} : ∀ {ob : Obs}, (a, b) ∈ ob → OUpd a b b ob ob
  | _ :: _, .head _ => .head
  | _ :: _, .tail _ h => .tail (OUpd.same h)
theorem exc_set {P : Params} {cls : Value} {d : Option Addr} {arg : Option V} {oe : Obj} (h : obR P (.exc cls d arg) oe) (T : Value) : obR P (.exc cls d arg) (oe.mapFields (·.setIfInBounds 1 T)) := by
  obtain ⟨h1, h2, a, vs, h3, h4, h5⟩ := h
  refine ⟨(Obj.cls_mapFields _ _).trans h1, fun dd e => ?_, a, vs.setIfInBounds 0 T, ?_, by simp [h4], h5⟩
  · obtain ⟨c, dct, dat, sl⟩ := oe
    obtain rfl : dat = _ := h3
    exact h2 dd e
  · rw [Obj.data_mapFields h3]
    congr 1
    apply Array.ext'
    simp

section
variable {c : Cx} {z : List (Addr × Obj)} {lo : Loc} {ob : Obs} {s : Shared} {m : Str → Option Value} {os frs : List (Addr × Obj)} {a : Addr}
/-- what stays when frames are noted: the ledger, the exception's own object turned -/
theorem NowAt.noted (n : NowAt c z lo ob s m os frs) {cls : Value} {d : Option Addr} {arg : Option V} (hm : (a, Ob.exc cls d arg) ∈ ob) {oe' : Obj} (ho : obR c.g.w.params (.exc cls d arg) oe') {s' : Shared}
    (hk : ∀ b o, b ∉ c.L :: frs.map (·.1) → b ≠ a → (b ∈ (os ++ (c.rest ++ z)).map (·.1) ∨ (c.g.hb.get? b).isSome) → s.heap.get? b = some o → s'.heap.get? b = some o)
    (hf : ∀ b o, b ∈ c.L :: frs.map (·.1) → s.heap.get? b = some o → ∃ sl, s'.heap.get? b = some { o with slots := sl }) (ha : s'.heap.get? a = some oe') (hog : Og s s' := by exact ⟨rfl, rfl⟩) :
    ∃ os' frs', NowAt c z lo ob s' m os' frs' ∧ os'.map (·.1) = os.map (·.1) ∧ frs'.map (·.1) = frs.map (·.1) := by
  obtain ⟨o, h1, hmo, h2⟩ := n.rs.upd (OUpd.same hm) (nd_left n.nd)
  obtain ⟨os', U, r', e⟩ := h2 oe' ho
  obtain ⟨frs', SU, ht⟩ := TI.sameUp_of (h' := s'.heap) (frs := frs) fun p hp => hf p.1 p.2 (.tail _ (List.mem_map_of_mem hp)) (n.N p (List.mem_append_right _ (List.mem_append_right _ hp))).1
  have ha' := n.N (a, o) (List.mem_append_left _ hmo)
  have apart : ∀ p ∈ os ++ (c.rest ++ z), p.1 ∉ c.L :: frs.map (·.1) := fun p hp hq => by
    rcases List.mem_cons.mp hq with e | hq
    · refine (n.N p ?_).2.1 e
      rw [← List.append_assoc]; exact List.mem_append_left _ hp
    · obtain ⟨q, hq, e⟩ := List.mem_map.mp hq
      exact n.apt p hp q hq e
  have hne : ∀ p ∈ c.rest ++ z, p.1 ≠ a := fun p hp q => by
    have := n.nd
    rw [List.map_append, List.nodup_append] at this
    exact this.2.2 a (List.mem_map_of_mem (f := (·.1)) hmo) p.1 (List.mem_map_of_mem (f := (·.1)) hp) q.symm
  have e2 : (os' ++ (c.rest ++ z)).map (·.1) = (os ++ (c.rest ++ z)).map (·.1) := by rw [List.map_append, e, ← List.map_append]
  refine ⟨os', frs', ⟨⟨?_, fun b o' hb => ?_, n.F.above⟩, n.lr, r', fun p hp => ?_, by rw [e2]; exact n.nd, n.fm.up SU, by rw [e2]; exact n.ap, hog.tr n.og⟩, e, sameUp_addrs SU⟩
  · obtain ⟨oL, es, ep, hL, hd, r⟩ := n.F.ns
    obtain ⟨sl, hs⟩ := hf c.L oL (.head _) hL
    exact ⟨_, es, ep, hs, hd, r⟩
  · refine hk b o' (fun hq => ?_) (fun q => ?_) (.inr (by rw [hb]; rfl)) (n.F.keep b o' hb)
    · rcases List.mem_cons.mp hq with e | hq
      · have h1 := Heap.lt_size hb
        rw [e] at h1
        exact absurd n.F.above (Nat.not_le.mpr h1)
      · obtain ⟨q, hq, e⟩ := List.mem_map.mp hq
        have := (n.N q (List.mem_append_right _ (List.mem_append_right _ hq))).2.2
        rw [e, hb] at this; cases this
    · rw [q, ha'.2.2] at hb; cases hb
  · rcases List.mem_append.mp hp with hp | hp
    · rcases upd_mem U p hp with rfl | ⟨hp, hpa⟩
      · exact ⟨ha, ha'.2⟩
      · have h3 := n.N p (List.mem_append_left _ hp)
        exact ⟨hk _ _ (apart p (List.mem_append_left _ hp)) hpa (.inl (List.mem_map_of_mem (List.mem_append_left _ hp))) h3.1, h3.2⟩
    · rcases List.mem_append.mp hp with hp | hp
      · have h3 := n.N p (List.mem_append_right _ (List.mem_append_left _ hp))
        exact ⟨hk _ _ (apart p (List.mem_append_right _ hp)) (hne p hp) (.inl (List.mem_map_of_mem (List.mem_append_right _ hp))) h3.1, h3.2⟩
      · obtain ⟨q, hq, e⟩ := TI.SameUp.fwd SU p hp
        have h3 := n.N q (List.mem_append_right _ (List.mem_append_right _ hq))
        exact ⟨ht p hp, by rw [e]; exact h3.2.1, by rw [e]; exact h3.2.2⟩

theorem NowAt.funs (n : NowAt c z lo ob s m os frs) (ok : c.Ok) {h : Heap} (hf : ∀ b o, b ∈ c.L :: frs.map (·.1) → s.heap.get? b = some o → ∃ sl, h.get? b = some { o with slots := sl }) : ∃ base, h.FunFrames base (c.fenv :: c.outer) ∧ (c.fenv :: c.outer).filterMap (·.frame) = c.L :: frs.map (·.1) := by
  obtain ⟨hn, SU⟩ := TI.sameUp_of (h' := h) (frs := frs) fun p hp => hf p.1 p.2 (.tail _ (List.mem_map_of_mem hp)) (n.N p (List.mem_append_right _ (List.mem_append_right _ hp))).1
  refine ⟨{ objs := #[] }, ?_, ?_⟩
  · refine Heap.FunFrames.cons (by rw [ok.fkind]; decide) ok.fframe (m := m) ?_ (by rfl) ?_
    · obtain ⟨oL, es, ep, hL, hd, r⟩ := n.F.ns
      obtain ⟨sl, hs⟩ := hf c.L oL (.head _) hL
      exact ⟨_, es, ep, hs, hd, r⟩
    · have Fs := n.fm.fs.up SU.1
      exact Fs.fun fun q hq => ⟨SU.2 q hq, by rfl⟩
  · rw [List.filterMap_cons, ok.fframe]
    simp only
    rw [n.fm.fs.addrs]
end
end Mine
end
section
open PySem PySem.W PySem.Calls PySem.Spec PyProof.Rows
set_option Elab.async false
set_option maxRecDepth 100000
set_option linter.unusedVariables false
namespace Mine

section
variable {c : Cx} {z : List (Addr × Obj)} {lo : Loc} {ob : Obs} {s : Shared} {m : Str → Option Value} {os frs : List (Addr × Obj)} {a : Addr} {E : Value → Shared → Prop}
theorem addrs_of (as fs : List (Addr × Obj)) {as' fs' : List (Addr × Obj)} (r z : List (Addr × Obj)) (e1 : as'.map (·.1) = as.map (·.1)) (e2 : fs'.map (·.1) = fs.map (·.1)) :
    (as' ++ ((r ++ z) ++ fs')).map (·.1) = (as ++ ((r ++ z) ++ fs)).map (·.1) := by
  simp only [List.map_append, e1, e2]
theorem NowAt.old (n : NowAt c z lo ob s m os frs) {b : Addr} (h : b ∈ (os ++ ((c.rest ++ z) ++ frs)).map (·.1)) : (s.heap.get? b).isSome := by
  obtain ⟨p, hp, rfl⟩ := List.mem_map.mp h
  rw [(n.N p hp).1]; rfl
theorem new_tb (n : NowAt c z lo ob s m os frs) {T : Addr} (hT : s.heap.get? T = none) : T ≠ c.L ∧ c.g.hb.get? T = none ∧ T ∉ (os ++ ((c.rest ++ z) ++ frs)).map (·.1) := by
  refine ⟨fun e => ?_, ?_, fun h => ?_⟩
  · obtain ⟨oL, es, ep, hL, _⟩ := n.F.ns
    rw [e, hL] at hT; cases hT
  · cases hq : c.g.hb.get? T with
    | none => rfl
    | some o => have := n.F.keep T o hq; rw [hT] at this; cases this
  · have := n.old h
    rw [hT] at this; cases this

/-- the frame is noted in an exception that is on its way -/
theorem note_exc (ok : c.Ok) {Q : Unit → Shared → Prop} (x : Exc c z a lo ob s) (h : ∀ h', HeldX c z a lo ob (rawInt c.L) { s with heap := h' } → Q () { s with heap := h' }) :
    wpAny c.g.M c.B (noteFrame (.ref a) c.fenv) Q E s := by
  obtain ⟨⟨cls, d, arg, hm⟩, m, os, frs, n, oe, vs, he, hd, htb⟩ := x
  obtain ⟨o, hmo, _, hge, hobr⟩ := n.mem hm
  rw [he] at hge; cases hge
  have hae : ∀ b, b ∈ c.L :: frs.map (·.1) → b ≠ a := fun b hb q => by
    subst q
    have hp : (b, oe) ∈ os ++ (c.rest ++ z) := List.mem_append_left _ hmo
    rcases List.mem_cons.mp hb with e | hb
    · exact (n.N (b, oe) (List.mem_append_left _ hmo)).2.1 e
    · obtain ⟨q, hq, e⟩ := List.mem_map.mp hb
      exact n.apt (b, oe) hp q hq e
  have hsz : 1 < vs.size := by
    obtain ⟨_, _, a0, ws, h1, h2, _⟩ := hobr
    rw [hd] at h1; cases h1; simp [h2]
  -- the entry itself, from a heap where the older head is let go
  have go : ∀ (h₁ : Heap) (head : Value) (hn : Bool), (∀ b o, b ∈ c.L :: frs.map (·.1) ∨ b ∈ (os ++ (c.rest ++ z)).map (·.1) ∨ (c.g.hb.get? b).isSome → s.heap.get? b = some o → h₁.get? b = some o) → (∀ T, h₁.get? T = none → s.heap.get? T = none) →
      wpAny c.g.M c.B (do let a' ← frameOf c.fenv; let pl ← entryPlaceOf c.L hn; let b ← EntryCells.newEntry head a' .none (rawInt c.L) .none pl; setField (.ref a) 1 b) Q E { s with heap := h₁ } := by
    intro h₁ head hn hk1 hT1
    obtain ⟨base, hff, hadr⟩ := n.funs ok (h := h₁) fun b o hb e => ⟨o.slots, hk1 b o (.inl hb) e⟩
    have he1 : h₁.get? a = some oe := hk1 a oe (.inr (.inl (List.mem_map_of_mem (List.mem_append_left _ hmo)))) he
    refine entry_raw (s := { s with heap := h₁ }) ok.fr hff ok.fframe he1 hd hsz fun h' T oT ts k1 k2 k3 k4 k5 k6 k7 => h h' ?_
    obtain ⟨os', frs', n', e1, e2⟩ := n.noted hm (s' := { s with heap := h' }) (exc_set hobr (.ref T)) (fun b o h1 h2 h3 h4 => k1 b o (by rw [hadr]; exact h1) h2 (hk1 b o (.inr h3) h4)) (fun b o h1 h2 => k2 b o (hae b h1) (hk1 b o (.inl h1) h2)) k3
    obtain ⟨t1, t2, t3⟩ := new_tb n (hT1 T k4)
    exact ⟨⟨cls, d, arg, hm⟩, m, os', frs', n', _, _, T, oT, ts, k3, Obj.data_mapFields hd _, by simp [hsz], k5, k6, k7, t1, t2, by rw [addrs_of os frs c.rest z e1 e2]; exact t3⟩
  rcases htb with h1 | ⟨b, ot, ts, h1, hb, hbd, h3, hbL, hbh, hba⟩
  · unfold noteFrame
    simp only [ok.fframe]
    refine wpAny_bind (wpAny_field he hd h1 ?_)
    rw [if_neg (by decide)]
    exact go s.heap .none _ (fun _ _ _ e => e) (fun _ e => e)
  · obtain ⟨fl, h3'⟩ : ∃ fl, ts[3]? = some fl := ⟨_, Array.getElem?_eq_getElem h3⟩
    unfold noteFrame
    simp only [ok.fframe]
    refine wpAny_bind (wpAny_field he hd h1 ?_)
    rw [if_pos (show (Value.ref b != Value.none) = true from by simp)]
    refine wpAny_bind (wpAny_field hb hbd h3' ?_)
    by_cases hfl : fl = rawInt c.L
    · subst hfl
      rw [if_pos (by simp)]
      exact wpAny_pure (h s.heap ⟨⟨cls, d, arg, hm⟩, m, os, frs, n, oe, vs, b, ot, ts, he, hd, h1, hb, hbd, h3', hbL, hbh, hba⟩)
    · rw [if_neg (by simpa using hfl)]
      refine wpAny_bind (wpAny_setField hb hbd h3 ?_)
      have other : ∀ x, x ≠ b → (s.heap.update b (Obj.mapFields (·.setIfInBounds 3 Value.none))).get? x = s.heap.get? x := fun x hx => Heap.get?_update_other _ _ (Ne.symm hx)
      refine go _ _ _ (fun x o hx e => ?_) (fun T e => ?_)
      · refine (other x fun q => ?_).trans e
        subst q
        rcases hx with hx | hx | hx
        · rcases List.mem_cons.mp hx with e | hx
          · exact hbL e
          · exact hba (by rw [List.map_append, List.map_append]; exact List.mem_append_right _ (List.mem_append_right _ hx))
        · refine hba ?_
          rw [← List.append_assoc, List.map_append]
          exact List.mem_append_left _ hx
        · rw [hbh] at hx; cases hx
      · by_cases hq : T = b
        · subst hq
          have := Heap.get?_update_self (Obj.mapFields (·.setIfInBounds 3 Value.none)) hb (Obj.isFreed_of_fields (Obj.data_mapFields hbd _))
          rw [this] at e; cases e
        · exact (other T hq).symm.trans e

/-- the flight is set -/
theorem flight_exc {fl : Value} {f : Option Addr} {Q : Unit → Shared → Prop} (x : HeldX c z a lo ob fl s) (h : ∀ h', HeldX c z a lo ob (f.elim .none fun f => rawInt f) { s with heap := h' } → Q () { s with heap := h' }) :
    wpAny c.g.M c.B (setFlight (.ref a) f) Q E s := by
  obtain ⟨⟨cls, d, arg, hm⟩, m, os, frs, n, oe, vs, b, ot, ts, he, hd, h1, hb, hbd, h3, hbL, hbh, hba⟩ := x
  have hsz3 : 3 < ts.size := (Array.getElem?_eq_some_iff.mp h3).1
  have other : ∀ x, x ≠ b → ∀ v, (s.heap.update b (Obj.mapFields (·.setIfInBounds 3 v))).get? x = s.heap.get? x := fun x hx v => Heap.get?_update_other _ _ (Ne.symm hx)
  unfold setFlight
  refine wpAny_bind (wpAny_field he hd h1 ?_)
  rw [if_pos (show (Value.ref b != Value.none) = true from by simp)]
  refine wpAny_setField hb hbd hsz3 (h _ ⟨⟨cls, d, arg, hm⟩, m, os, frs, ?_, oe, vs, b, _, _, ?_, hd, h1, Heap.get?_update_self _ hb (Obj.isFreed_of_fields (Obj.data_mapFields hbd _)), Obj.data_mapFields hbd _, by simp [hsz3], hbL, hbh, hba⟩)
  · refine n.go ⟨?_, fun x o e => (other x (fun q => ?_) _).trans (n.F.keep x o e), n.F.above⟩ fun p hp => ⟨(other p.1 (fun q => hba (by rw [← q]; exact List.mem_map_of_mem hp)) _).trans (n.N p hp).1, (n.N p hp).2⟩
    · obtain ⟨oL, es, ep, hL, r⟩ := n.F.ns
      exact ⟨oL, es, ep, (other c.L (Ne.symm hbL) _).trans hL, r⟩
    · rw [q, hbh] at e; cases e
  · obtain ⟨o, hmo, _, _, _⟩ := n.mem hm
    exact (other a (fun q => hba (by rw [← q]; exact List.mem_map_of_mem (f := (·.1)) (List.mem_append_left _ hmo))) _).trans he

end
end Mine
end
section
open PySem PySem.W PySem.Calls PySem.Spec PyProof.Rows
set_option Elab.async false
set_option maxRecDepth 100000
set_option linter.unusedVariables false
namespace Mine

/-- where an exception is handled -/
abbrev mk (c : Cx) (a : Addr) : Cx := { c with B := c.B.mark (some (.ref a)) }
theorem mk_ok {c : Cx} (ok : c.Ok) (a : Addr) : (mk c a).Ok := ⟨ok.g, ok.fr, ok.fns, ok.nd, ok.fframe, ok.fkind, ok.frame, ok.kind, ok.glob, ok.blt, ok.nd', ok.room, ok.un, ok.fn, ok.cm⟩
section
variable {c : Cx} {z : List (Addr × Obj)} {lo : Loc} {ob : Obs} {s : Shared} {a e : Addr} {X : QT Addr} {Q : QT AF}
theorem Now.mk (n : Now c z lo ob s) : Now (mk c a) z lo ob s := by
  obtain ⟨m, os, frs, n⟩ := n
  exact ⟨m, os, frs, n.F, n.lr, n.rs, n.N, n.nd, n.fm, n.ap, n.og⟩
theorem Now.unmk (n : Now (Mine.mk c a) z lo ob s) : Now c z lo ob s := by
  obtain ⟨m, os, frs, n⟩ := n
  exact ⟨m, os, frs, n.F, n.lr, n.rs, n.N, n.nd, n.fm, n.ap, n.og⟩
theorem HeldX.unmk {fl : Value} (n : HeldX (Mine.mk c a) z e lo ob fl s) : HeldX c z e lo ob fl s := by
  obtain ⟨hm, m, os, frs, n, t⟩ := n
  exact ⟨hm, m, os, frs, ⟨n.F, n.lr, n.rs, n.N, n.nd, n.fm, n.ap, n.og⟩, t⟩
theorem HeldX.mk {fl : Value} (n : HeldX c z e lo ob fl s) : HeldX (Mine.mk c a) z e lo ob fl s := by
  obtain ⟨hm, m, os, frs, n, t⟩ := n
  exact ⟨hm, m, os, frs, ⟨n.F, n.lr, n.rs, n.N, n.nd, n.fm, n.ap, n.og⟩, t⟩
theorem Exc.unmk (n : Exc (Mine.mk c a) z e lo ob s) : Exc c z e lo ob s := by
  obtain ⟨hm, m, os, frs, n, t⟩ := n
  exact ⟨hm, m, os, frs, ⟨n.F, n.lr, n.rs, n.N, n.nd, n.fm, n.ap, n.og⟩, t⟩
theorem LQ.unmk {α β : Type} {rel : β → α → Prop} {Q : QT β} {v : α} (h : LQ (Mine.mk c a) z rel Q v s) : LQ c z rel Q v s := by
  obtain ⟨b, lo, ob, hr, n, hq⟩ := h
  exact ⟨b, lo, ob, hr, n.unmk, hq⟩
/-- what is raised in a handler passes on -/
theorem passes_mk (ok : c.Ok) (hv : c.cv = none) {v : Value} {s : Shared} (h : LX (Mine.mk c a) z X v s) : notedBy c.g.M (c.B.mark (some (.ref a))) c.env (cameBackBy c.g.M c.B c.env (LX c z X)) v s := by
  obtain ⟨e, lo, ob, rfl, x, hX⟩ := h
  have he : c.env = c.fenv := ok.fn hv
  unfold notedBy
  rw [he]
  refine note_exc (c := Mine.mk c a) (mk_ok ok a) x fun h' x' => ?_
  unfold cameBackBy
  have x2 := x'.unmk
  obtain ⟨hm, m, os, frs, n, oe, vs, b, ot, ts, g1, g2, g3, g4, g5, g6, g7, g8, g9⟩ := id x2
  refine wpAny_bind (wpAny_field g1 g2 g3 ?_)
  rw [if_neg (by simp)]
  exact flight_exc x2 fun h'' x'' => ⟨e, lo, ob, rfl, x''.exc, hX⟩
theorem looks_type {o : Obj} {cls : Value} {h : Heap} {M : Model} (ho : h.get? a = some o) (hc : o.cls = cls) : Looks M h (typeOf (.ref a)) cls := by
  subst hc
  exact (Looks.ld (part := some headPart) ho).andThen .now
theorem pass_on (ok : c.Ok) (hv : c.cv = none) {what : String} {fl : Value} (x : HeldX c z a lo ob fl s) (hX : X a lo ob) {Q : Flow → Shared → Prop} : wpAny c.g.M c.B (PySem.passOn what (.ref a) c.env : Sem Flow) Q (LX c z X) s := by
  obtain ⟨hm, m, os, frs, n, oe, vs, b, ot, ts, g1, g2, g3, g4, g5, g6, g7, g8, g9⟩ := id x
  unfold PySem.passOn
  refine wpAny_bind (wpAny_field g1 g2 g3 ?_)
  rw [if_neg (by simp)]
  refine wpAny_bind (flight_exc x fun h' x' => wpAny_throw ⟨a, lo, ob, rfl, x'.exc, hX⟩)

/-- a name that stands for a class -/
def NameIs (c : Cx) (t : Expr) (ct : Value) : Prop := ∀ z lo ob s, Now c z lo ob s → ∀ (Q : Value → Shared → Prop) (E : Value → Shared → Prop), Q ct s → wpAny c.g.M c.B (eval t c.env) Q E s
theorem nameIs_blt {x : Str} {v : Value} {p : Pos} {ns : Nms} (ok : c.Ok) (hns : c.env.scope.names = ns) (hk : InN ns x .globalImplicit) (hx : nsIn c.g.K mainGlobals x = some none) (hb : bootBuiltins x = some v) (hn : x ≠ "__name__" := by decide) (hd : (x == ("__debug__" : Str)) = false := by decide) : NameIs c (.Name x p) v := by
  subst hns
  rintro z lo ob s ⟨m, os, frs, n⟩ Q E h
  refine Calls.Name_function_global ok.kind (hk.lookup ok.nd') (Calls.loadGlobal_builtin (mg := c.g.mg) (mb := c.g.mb) ?_ (mg_none_of ok.g.X ok.g.T.g hx) ?_ ((ok.g.T.builtins x hn).trans hb) h) hd
  · rw [ok.glob]; exact ok.g.T.g.keeps n.F.keep
  · rw [ok.blt]; exact ok.g.T.b.keeps n.F.keep
/-- a handler without a name -/
def Hdl (c : Cx) (t : Expr) (hb : List Stmt) (Q : QT AF) (X : QT Addr) : QT Addr := fun a lo ob =>
  ∃ cls d arg ct b, (a, Ob.exc cls d arg) ∈ ob ∧ NameIs (Mine.mk c a) t ct ∧ exmOne c.g.K cls ct = some b ∧
    if b = true then W (Mine.mk c a) FR (execs hb (Mine.mk c a).env) Q X lo ob else X a lo ob
theorem S_Try {body hb : List Stmt} {b0 : Stmt} {t : Expr} {pos hpos : Pos} (ok : c.Ok) (hv : c.cv = none) (h : W c FR (execs body c.env) Q (Hdl c t (b0 :: hb) Q X) lo ob) :
    W c FR (exec (.Try body [.ExceptHandler (some t) none (b0 :: hb) hpos] [] [] pos) c.env) Q X lo ob := by
  intro z s n
  have he : c.env = c.fenv := ok.fn hv
  refine wpAny_Try_except (wpAny_mono (h z s n) (fun f s1 hf => ?_) fun e s1 hx => ?_)
  · obtain ⟨g, lo1, ob1, hg, n1, h1⟩ := hf
    cases g with
    | next => cases hg; exact wpAny_execs_nil ⟨AF.next, lo1, ob1, rfl, n1, h1⟩
    | brk => cases hg; exact ⟨AF.brk, lo1, ob1, rfl, n1, h1⟩
    | cont => cases hg; exact ⟨AF.cont, lo1, ob1, rfl, n1, h1⟩
    | ret v => obtain ⟨cv, rfl, hr⟩ := hg; exact ⟨AF.ret v, lo1, ob1, ⟨cv, rfl, hr⟩, n1, h1⟩
  · obtain ⟨a, lo1, ob1, rfl, x, cls, d, arg, ct, b, hm, hev, hb1, hgo⟩ := hx
    rw [he]
    refine note_exc ok x fun h' x' => flight_exc x' fun h'' x'' => ?_
    rw [← he]
    refine wpAny_handleBy_cons (codeAny_handlers_test ?_) (by intro q; cases q)
    refine hev z lo1 ob1 _ x''.now.mk _ _ ?_
    obtain ⟨m, os, frs, n''⟩ := x''.now
    obtain ⟨o, _, _, ho, hc, _⟩ := n''.mem hm
    refine (exm_one (M := c.g.M) (ok.g.X.keeps n''.F.keep) (looks_type ho hc) hb1).here ?_
    cases b with
    | true =>
      refine codeAny_handlers_suite ?_
      refine flight_exc (c := Mine.mk c a) x''.mk fun h3 x3 => ?_
      refine wpAny_mono (hgo z _ x3.now) (fun f s4 hf => hf.unmk) fun v s4 hx => passes_mk ok hv hx
    | false =>
      refine wpAny_handleBy_nil ?_
      exact pass_on ok hv x'' hgo
end
end Mine
end
section
open PySem PySem.W PySem.Calls PySem.Spec PyProof.Rows
set_option Elab.async false
set_option maxRecDepth 100000
set_option linter.unusedVariables false
namespace Mine

section
variable {c : Cx} {lo : Loc} {ob ob' : Obs} {X : QT Addr} {Q : QT V} {QF : QT AF}
/-- a field is stored -/
def SetA (c : Cx) (o : V) (name : Str) (v : V) (Q : Loc → Obs → Prop) (X : QT Addr) (lo : Loc) (ob : Obs) : Prop := ∀ co cv, VR o co → VR v cv → W c UR (setAttr co name cv) (fun _ => Q) X lo ob
theorem seta_inst {x C d : Addr} {es es' : List (Str × V)} {name : Str} {v : V} {Q : Loc → Obs → Prop} (ok : c.Ok) (h1 : (x, .inst C d) ∈ ob) (u : OUpd d (.dct es) (.dct es') ob ob') (hs : findIn c.g.K (.ref C) "__setattr__" = some (some (.builtin "object.__setattr__"))) (hp : plainOver c.g.K C = true)
    (ht : takerIn c.g.K C name = some none) (hh : hasDictIn c.g.K C = true) (e : EPut es name v es') (hz : es'.length ≤ 1000) (h : Q lo ob') : SetA c (.ref x) name v Q X lo ob := by
  rintro _ cv rfl hv z s ⟨m, os, frs, n⟩
  obtain ⟨ox, hx1, _, hx2, hx3⟩ := n.mem h1
  obtain ⟨o, ⟨cs, k, rfl, hr⟩, hm, hu⟩ := n.upd u
  cases hx3
  have hr' := hr.put e hv (s.toks + 1)
  obtain ⟨os', U, fin⟩ := hu _ ⟨_, putN name cs k, rfl, hr'⟩
  have hd := (n.N _ (List.mem_append_left _ hm)).1
  refine set_dict n.F ok.g.X n.N ⟨hx2, rfl, rfl, hd⟩ rfl hs hp ht hh (getL_some hr) rfl U (by rw [hr'.length]; exact hz) fun h' F' N' => ?_
  exact ⟨(), lo, ob', trivial, ⟨m, os', frs, fin { s with heap := h', toks := s.toks + 2 } ⟨rfl, rfl⟩ F' N'⟩, h⟩
theorem S_AssignA {o e : Expr} {name : Str} {ap pos : Pos} (h : W c VR (eval e c.env) (fun v lo ob => W c VR (eval o c.env) (fun ov lo ob => SetA c ov name v (QF .next) X lo ob) X lo ob) X lo ob)
    (hs : swapsWith e (some (.Attribute o name ap)) pos.line c.env = pure false := by rfl) : W c FR (exec (.Assign [.Attribute o name ap] e pos) c.env) QF X lo ob := fun z s n =>
  plainObj_wpAny_Assign_Attribute (wpAny_mono (h z s n) (fun cv s' ⟨v, lo, ob, hv, n, h⟩ => wpAny_mono (h z s' n) (fun co s' ⟨ov, lo, ob, ho, n, h⟩ => wpAny_mono (h co cv ho hv z s' n) (fun _ s' ⟨_, lo, ob, _, n, h⟩ => ⟨AF.next, lo, ob, rfl, n, h⟩) fun _ _ x => x) fun _ _ x => x) fun _ _ x => x) hs

/-- an object is made -/
theorem cal_cls {C f : Addr} {args : List V} {d : Nat} {hq : Bool} (ok : c.Ok) (hm : makesIn c.g.K C = true) (hi : findIn c.g.K (.ref C) "__init__" = some (some (.ref f))) (hfn : isFn c.g.K (.ref f) = true) (hd : d + 1 ≤ c.d) (hh : hq = true ∨ c.B.handled = none)
    (h : ∀ x dx, FnC c.g f (.ref x :: args) d hq (fun v ob => v = .none ∧ Q (.ref x) lo ob) (fun a ob => X a lo ob) ((x, .inst C dx) :: (dx, .dct []) :: ob)) : Cal c (.ref C) args Q X lo ob := by
  rintro _ cas rfl hv z s ⟨m, os, frs, n⟩
  refine call_cls n.F ok.g.X n.N hm hi hfn ?_
  intro x dx h' F' N' l1 l2
  have hb : c.B.depth + c.d < recursionLimit := ok.room
  have n1 : NowAt c z lo ((dx, .dct []) :: ob) { s with heap := h' } m ((dx, dictOf [] 0) :: os) frs := n.add (s' := { s with heap := h' }) F' (fun p hp => N' p (.tail _ hp)) ⟨[], 0, rfl, .nil⟩ fun p hp => Nat.ne_of_lt (l1 p hp)
  have n2 : NowAt c z lo ((x, .inst C dx) :: (dx, .dct []) :: ob) { s with heap := h' } m ((x, instObj C dx) :: (dx, dictOf [] 0) :: os) frs := n1.add F' N' rfl fun p hp => by
    rcases List.mem_cons.mp hp with rfl | hp
    · exact Nat.ne_of_lt l2
    · exact Nat.ne_of_lt (Nat.lt_trans (l1 p hp) l2)
  refine codeAny_mono (h x dx c (c.B.under (.builtin "type.__call__" ⟨.ref C :: cas, []⟩)) ok rfl (frames_call ok.fr) (by rw [depth_under_make]; omega) (by have := ok.un; rw [units_under_make]; omega) (fun q => hh.resolve_left (by rw [q]; simp)) (.ref x :: cas) (.cons rfl hv) z lo { s with heap := h' } ⟨m, _, frs, n2⟩) fun r s' hr => ?_
  match r with
  | .ok (.ret v) =>
    obtain ⟨u, ob, hu, n, rfl, hq⟩ := hr
    exact ⟨hu, .ref x, lo, ob, rfl, n, hq⟩
  | .ok .next => exact hr.elim
  | .ok .brk => exact hr.elim
  | .ok .cont => exact hr.elim
  | .error e => obtain ⟨a, ob, rfl, n, hq⟩ := hr; exact ⟨a, lo, ob, rfl, n, hq⟩

/- displays -/
theorem W_List {es : List Expr} {p : Pos} (hs : noStar es = true) (h : Args c es (fun vs lo ob => vs.length ≤ 100000 ∧ ∀ a, Q (.ref a) lo ((a, .list vs) :: ob)) X lo ob) : W c VR (eval (.List es p) c.env) Q X lo ob := fun z s n => by
  refine List_ ?_
  rw [starEach_of hs]
  refine wpAny_mono (spliced_of h z s n) (fun cs s' ⟨vs, lo, ob, hv, ⟨m, os, frs, n⟩, hz, h⟩ => ?_) fun _ _ x => x
  exact wpAny_newList ⟨.ref s'.heap.objs.size, lo, _, rfl, ⟨m, _, frs, n.push (b := .list vs) ⟨cs, 0, rfl, hv⟩ rfl⟩, h _⟩ (by rw [← hv.length, sizeLine_eq]; omega)
theorem W_Tuple {es : List Expr} {k : Nat} {p : Pos} (hs : noStar es = true) (h : Args c es (fun vs lo ob => vs.length ≤ 100000 ∧ ∀ a, Q (.ref a) lo ((a, .tup vs) :: ob)) X lo ob) : W c VR (eval (.Tuple es k p) c.env) Q X lo ob := fun z s n => by
  refine Tuple_ ?_
  rw [starEach_of hs]
  refine wpAny_mono (spliced_of h z s n) (fun cs s' ⟨vs, lo, ob, hv, ⟨m, os, frs, n⟩, hz, h⟩ => ?_) fun _ _ x => x
  exact PySem.wpAny_newTuple ⟨.ref s'.heap.objs.size, lo, _, rfl, ⟨m, _, frs, n.push (b := .tup vs) ⟨rfl, cs, 0, rfl, hv⟩ rfl⟩, h _⟩ (by rw [← hv.length, sizeLine_eq]; omega)
theorem disp {P : Prop} {n : Nat} (h : n ≤ 100000) (hp : P) : n ≤ 100000 ∧ P := ⟨h, hp⟩

theorem getm_str {l : List Nat} {name : Str} {id : String} {Q : V → List V → Loc → Obs → Prop} (slot : Slot "str" name id) (ht : typeOf (.builtin id) = pure (.type "method_descriptor")) (h : Q (.cv (.builtin id)) [.str l] lo ob) : GetM c (.str l) name Q X lo ob := by
  rintro _ pl ⟨t, rfl⟩ z s n
  exact getMethod_builtin (typeIs_str s (tx l) t) PySem.F.plainAttrs_str slot ht (fun a e => by cases e) ⟨(.cv (.builtin id), [.str l]), lo, ob, ⟨rfl, .one ⟨_, rfl⟩⟩, n, h⟩
end
end Mine
end
section
open PySem PySem.W PySem.Calls PySem.Spec PyProof.Rows
set_option Elab.async false
set_option maxRecDepth 100000
set_option linter.unusedVariables false
namespace Mine

/-- a slice of a sequence -/
def cut {α : Type} (l : List α) (lo hi : Option Int) : List α := (l.drop (kms_lo lo l.length)).take (kms_hi hi l.length - kms_lo lo l.length)
theorem VRs.drop : ∀ {vs : List V} {cs : List Value} (k : Nat), VRs vs cs → VRs (vs.drop k) (cs.drop k)
  | _, _, 0, h => h
  | _, _, _ + 1, .nil => .nil
  | _, _, k + 1, .cons _ r => r.drop k
theorem VRs.take : ∀ {vs : List V} {cs : List Value} (k : Nat), VRs vs cs → VRs (vs.take k) (cs.take k)
  | _, _, 0, _ => .nil
  | _, _, _ + 1, .nil => .nil
  | _, _, k + 1, .cons a r => .cons a (r.take k)
theorem VRs.cut {vs : List V} {cs : List Value} (h : VRs vs cs) (lo hi : Option Int) : VRs (cut vs lo hi) (kms_pick cs lo hi) := by
  unfold Mine.cut kms_pick
  rw [h.length]
  exact (h.drop _).take _

/-- a list of the ledger's or of the ground's -/
def LA (c : Cx) (ob : Obs) (a : Addr) (vs : List V) : Prop := (a, .list vs) ∈ ob ∨ ∃ cs, c.g.hb.IsList a cs.toArray ∧ VRs vs cs
section
variable {c : Cx} {lo : Loc} {ob ob' : Obs} {X : QT Addr} {Q : QT V} {QF : QT AF}
theorem LA.at {a : Addr} {vs : List V} (h : LA c ob a vs) {z : List (Addr × Obj)} {s : Shared} {m : Str → Option Value} {os frs : List (Addr × Obj)} (n : NowAt c z lo ob s m os frs) : ∃ cs, s.heap.IsList a cs.toArray ∧ VRs vs cs := by
  rcases h with h | ⟨cs, ⟨o, h1, h2, h3⟩, hr⟩
  · obtain ⟨o, _, _, ha, cs, k, rfl, hr⟩ := n.mem h
    exact ⟨cs, ⟨_, ha, rfl, _, rfl⟩, hr⟩
  · exact ⟨cs, ⟨o, n.F.keep _ _ h1, h2, h3⟩, hr⟩

theorem W_Sub {value slice : Expr} {p : Pos} (h : W c VR (eval value c.env) (fun a lo ob => W c VR (eval slice c.env) (fun b lo ob => Sub2 c value slice a b Q X lo ob) X lo ob) X lo ob) : W c VR (eval (.Subscript value slice p) c.env) Q X lo ob := fun z s n =>
  Subscript_ (wpAny_mono (h z s n) (fun ca s' ⟨a, lo, ob, ha, n, h⟩ => wpAny_mono (h z s' n) (fun cb s' ⟨b, lo, ob, hb, n, h⟩ => h ca cb ha hb z s' n) fun _ _ x => x) fun _ _ x => x)

/-- a bound of a slice -/
def Part (c : Cx) (e : Option Expr) (Q : QT (Option Int)) (X : QT Addr) (lo : Loc) (ob : Obs) : Prop := match e with
  | none => Q none lo ob
  | some e => W c VR (eval e c.env) (fun v lo ob => ∃ i, v = .int i ∧ Q (some i) lo ob) X lo ob
def PR : Option Int → Value → Prop
  | none, v => v = Value.none
  | some i, v => ∃ t, v = .int i t
theorem PR.part {o : Option Int} {v : Value} (h : PR o v) : IsPart v o := by
  cases o with
  | none => cases h; exact .none
  | some i => obtain ⟨t, rfl⟩ := h; exact .int _ _
theorem part_eval {e : Option Expr} {Q : QT (Option Int)} (h : Part c e Q X lo ob) : W c PR (evalPart e c.env) Q X lo ob := by
  cases e with
  | none => exact fun z s n => wpAny_pure ⟨none, lo, ob, rfl, n, h⟩
  | some e => exact fun z s n => wpAny_mono (h z s n) (fun cv s' ⟨v, lo, ob, hv, n, i, e, h⟩ => by subst e; exact ⟨some i, lo, ob, hv, n, h⟩) fun _ _ x => x
def Cut (c : Cx) (value slice : Expr) (v : V) (l u : Option Int) (Q : QT V) (X : QT Addr) (lo : Loc) (ob : Obs) : Prop :=
  ∀ cv cl cu, VR v cv → PR l cl → PR u cu → ∀ z s, Now c z lo ob s → wpAny c.g.M c.B (subscriptTail value slice cv (.ref s.heap.objs.size)) (LQ c z VR Q) (LX c z X) { s with heap := s.heap.push { cls := .type "slice", data := .fields #[cl, cu, .none] } }
theorem W_Slice {value : Expr} {l u : Option Expr} {sp p : Pos} (h : W c VR (eval value c.env) (fun v lo ob => Part c l (fun i lo ob => Part c u (fun j lo ob => Cut c value (.Slice l u none sp) v i j Q X lo ob) X lo ob) X lo ob) X lo ob) : W c VR (eval (.Subscript value (.Slice l u none sp) p) c.env) Q X lo ob := fun z s n =>
  Subscript_ (wpAny_mono (h z s n) (fun ca s' ⟨a, lo, ob, ha, n, h⟩ => wpAny_Slice (wpAny_mono (part_eval h z s' n) (fun cl s' ⟨l, lo, ob, hl, n, h⟩ => wpAny_mono (part_eval h z s' n) (fun cu s' ⟨u, lo, ob, hu, n, h⟩ => wpAny_pure (h ca cl cu ha hl hu z s' n)) fun _ _ x => x) fun _ _ x => x)) fun _ _ x => x)
theorem part_none {Q : QT (Option Int)} (h : Q none lo ob) : Part c none Q X lo ob := h
theorem part_some {e : Expr} {Q : QT (Option Int)} (h : W c VR (eval e c.env) (fun v lo ob => ∃ i, v = .int i ∧ Q (some i) lo ob) X lo ob) : Part c (some e) Q X lo ob := h
theorem int_ex {i : Int} {P : Int → Prop} (h : P i) : ∃ j, V.int i = .int j ∧ P j := ⟨i, rfl, h⟩

theorem cut_list {value slice : Expr} {a : Addr} {vs : List V} {l u : Option Int} (hl : LA c ob a vs) (hz : vs.length ≤ 100000) (h : ∀ D, Q (.ref D) lo ((D, .list (cut vs l u)) :: ob))
    (hs : ∀ k, subscripted slice false (.ref a) (.ref k) = operate [.ref k, .ref a] (getItem (.ref a) (.ref k)) := by intro _; with_unfolding_all rfl) (ht : ∀ r, letTemporaryGo value (.ref a) r = pure () := by intro _; with_unfolding_all rfl) : Cut c value slice (.ref a) l u Q X lo ob := by
  rintro _ cl cu rfl pl pu z s ⟨m, os, frs, n⟩
  obtain ⟨cs, hi, hr⟩ := hl.at n
  refine kms_slice_lit n.F n.N hi pl.part pu.part rfl (fun D h' F' N' l1 => ?_) (hs _) ht (by rw [List.size_toArray, ← hr.length, sizeLine_eq]; omega)
  exact ⟨.ref D, lo, _, rfl, ⟨m, _, frs, n.add (s' := { s with heap := h' }) F' N' (b := .list (cut vs l u)) ⟨_, 0, rfl, hr.cut l u⟩ fun p hp => Nat.ne_of_lt (l1 p hp)⟩, h D⟩
end
end Mine
end
section
open PySem PySem.W PySem.Calls PySem.Spec PyProof.Rows
set_option Elab.async false
set_option maxRecDepth 100000
set_option linter.unusedVariables false
namespace Mine

section
variable {c : Cx} {z z' : List (Addr × Obj)} {lo : Loc} {ob oth keep : Obs} {X : QT Addr} {s s' : Shared} {I : Addr} {oI oI' : Obj}
theorem Now.zperm (n : Now c z lo ob s) (p : z.Perm z') : Now c z' lo ob s := by
  obtain ⟨m, os, frs, n⟩ := n
  exact ⟨m, os, frs, n.re n.rs ((p.append_left _).append_left _)⟩
theorem Now.dropI (n : Now c ((I, oI) :: z) lo ob s) (hk : ∀ b o, b ∉ [I] → s.heap.get? b = some o → s'.heap.get? b = some o) (hog : Og s s' := by exact ⟨rfl, rfl⟩) : Now c z lo ob s' := by
  obtain ⟨m, os, frs, n1⟩ := n
  have hz := n1.N (I, oI) (List.mem_append_right _ (List.mem_append_left _ (List.mem_append_right _ (.head _))))
  have n2 := NowAt.less (a := [(I, oI)]) n1
  have hne : ∀ p ∈ os ++ (c.rest ++ z), p.1 ≠ I := by
    have p : (os ++ (c.rest ++ (I, oI) :: z)).Perm ((I, oI) :: (os ++ (c.rest ++ z))) := by
      rw [← List.append_assoc, ← List.append_assoc]
      exact List.perm_middle
    have := (p.map (·.1)).nodup_iff.mp n1.nd
    rw [List.map_cons] at this
    exact fun q hq => nodup_ne this _ (List.mem_map_of_mem hq)
  have hfr : ∀ p ∈ frs, p.1 ≠ I := n1.apt (I, oI) (List.mem_append_right _ (List.mem_append_right _ (.head _)))
  have hL : c.L ≠ I := Ne.symm hz.2.1
  refine ⟨m, os, frs, ⟨⟨n2.F.ns.at' fun o e => hk _ o (by simpa using hL) e, fun b o e => hk b o (fun hm => ?_) (n2.F.keep b o e), n2.F.above⟩, n2.lr, n2.rs, fun p hp => ⟨hk _ _ ?_ (n2.N p hp).1, (n2.N p hp).2⟩, n2.nd, n2.fm, n2.ap, hog.tr n2.og⟩⟩
  · rw [List.mem_singleton.mp hm, hz.2.2] at e; cases e
  · rw [List.mem_singleton]
    simp only [List.mem_append] at hp
    rcases hp with h | (h | h) | h
    · exact hne p (by simp [h])
    · exact hne p (by simp [h])
    · exact hne p (by simp [h])
    · exact hfr p h

/-- a comprehension's frame -/
abbrev cCx (c : Cx) (scope : Scope) (cl : List (Str × Addr)) (C : Addr) (oC : Obj) (kv : List (Str × V)) : Cx := { c with env := compEnvC scope cl C c.env, rest := c.rest ++ [(C, oC)], cv := some kv }
theorem Now.inC {scope : Scope} {cl : List (Str × Addr)} {C : Addr} {oC : Obj} {kv : List (Str × V)} (n : Now c ((C, oC) :: z) lo ob s) : Now (cCx c scope cl C oC kv) z lo ob s := by
  obtain ⟨m, os, frs, n⟩ := n
  exact ⟨m, os, frs, n.F, n.lr, n.rs, by have := n.N; simpa only [List.append_assoc, List.cons_append, List.nil_append] using this, by have := n.nd; simpa only [List.append_assoc, List.cons_append, List.nil_append] using this, n.fm, by have := n.ap; simpa only [List.append_assoc, List.cons_append, List.nil_append] using this, n.og⟩
theorem Now.outC {scope : Scope} {cl : List (Str × Addr)} {C : Addr} {oC : Obj} {kv : List (Str × V)} (n : Now (cCx c scope cl C oC kv) z lo ob s) : Now c ((C, oC) :: z) lo ob s := by
  obtain ⟨m, os, frs, n⟩ := n
  exact ⟨m, os, frs, n.F, n.lr, n.rs, by have := n.N; simpa only [List.append_assoc, List.cons_append, List.nil_append] using this, by have := n.nd; simpa only [List.append_assoc, List.cons_append, List.nil_append] using this, n.fm, by have := n.ap; simpa only [List.append_assoc, List.cons_append, List.nil_append] using this, n.og⟩
theorem cCx_ok (ok : c.Ok) {scope : Scope} {cl : List (Str × Addr)} {C : Addr} {oC : Obj} {kv : List (Str × V)} (hk : scope.kind = .function) (hnd : ((relabel scope c.env).names.map (·.1)).Nodup) {m : Str → Option Value} (hC : LCg.NsObj oC m)
    (hkv : ∀ p ∈ kv, ∃ v, m p.1 = some v ∧ VR p.2 v) : (cCx c scope cl C oC kv).Ok :=
  ⟨ok.g, ok.fr, ok.fns, ok.nd, ok.fframe, ok.fkind, ok.frame, hk, ok.glob, ok.blt, hnd, ok.room, ok.un, (fun h => nomatch h), fun kv' e => by cases e; exact ⟨oC, m, List.mem_append_right _ (.head _), hC, hkv⟩⟩

def never : QT Addr := fun _ _ _ => False
/-- a comprehension's tests -/
def Ifs (c : Cx) : List Expr → QT Bool → Loc → Obs → Prop
  | [], Q, lo, ob => Q true lo ob
  | [t], Q, lo, ob => Tst c t Q never lo ob
  | _, _, _, _ => False
/-- the turns of a comprehension -/
def CompE (c : Cx) (elt : Expr) (ifs : List Expr) (x : Str) (ns' : Nms) (QF : List V → Loc → Obs → Prop) : List V → List V → Loc → Obs → Prop
  | [], acc, lo, ob => QF acc lo ob
  | v :: vs, acc, lo, ob => ∀ c' : Cx, c'.Ok → c'.g = c.g → c'.ns = c.ns → c'.env.scope.names = ns' → c'.cv = some [(x, v)] → c'.d = c.d → c'.B = c.B → c'.fenv = c.fenv → c'.outer = c.outer → 
      Ifs c' ifs (fun b lo ob => Br b (W c' VR (eval elt c'.env) (fun y lo ob => CompE c elt ifs x ns' QF vs (acc ++ [y]) lo ob) never lo ob) (CompE c elt ifs x ns' QF vs acc lo ob)) lo ob
theorem ifs_of {ifs : List Expr} {Q : QT Bool} {E : Value → Shared → Prop} (h : Ifs c ifs Q lo ob) (n : Now c z lo ob s) :
    wpAny c.g.M c.B (forIn ifs true fun t r => if r = true then do let ok ← isTrue t c.env (eval t c.env); pure (ForInStep.yield ok) else pure (ForInStep.yield r)) (LQ c z BR Q) E s := by
  match ifs, h with
  | [], h => exact wpAny_tests_nil ⟨true, lo, ob, rfl, n, h⟩
  | [t], h => exact wpAny_tests_one (wpAny_mono (h z s n) (fun _ _ x => x) fun e s' ⟨_, _, _, _, _, x⟩ => x.elim)

theorem comp_loop {elt iter : Expr} {ifs : List Expr} {x : Str} {px pos : Pos} {scope : Scope} {cl : List (Str × Addr)} {items : List V} {St : Nat → Heap → Prop} {QF : List V → Loc → Obs → Prop} {E : Value → Shared → Prop} {ns' : Nms} {Qv : Value → Shared → Prop}
    (ok : c.Ok) (K : IterOK c z items I St) (hsz : items.length ≤ 100000) (hcell : ∀ y ∈ scope.names, y.2 ≠ .cell) (hkind : scope.kind = .function) (hx : scope.names.lookup x = some .local) (hns' : (relabel scope c.env).names = ns') (hnd : (ns'.map (·.1)).Nodup)
    (hst : St 0 s.heap) (n : Now c ((I, oI) :: z) lo ob s) (h : CompE c elt ifs x ns' QF items [] lo ob)
    (hQ : ∀ D acc lo ob cs s', VRs acc cs → Now c ((D, LCg.lst cs) :: z) lo ob s' → QF acc lo ob → Qv (.ref D) s') :
    wpAny c.g.M c.B (newList []) (fun acc s₃ => wpAny c.g.M c.B (newFunctionEnv scope c.env.globals cl [] c.env.qual none .none (some c.env)) (fun cenv s₄ =>
      codeAny c.g.M c.B (.compStart (.ListComp elt [⟨.Name x px, iter, ifs, 0⟩] scope pos) 0 (.ref I) acc { cenv with scope := relabel scope c.env }) (compPost c.g.M c.B E none Qv acc cenv.locals) s₄) E s₃) E s := by
  obtain ⟨fp, P, wk, hP, hf⟩ := K.wk
  refine wpAny_newObj_type (wpAny_newFunctionEnv hcell (by intro y hy; simp at hy) (fun h₁ hns₁ hsb₁ => ?_) hkind)
  dsimp only at hns₁ hsb₁ ⊢
  have n1 : Now c ((s.heap.objs.size, LCg.lst []) :: (I, oI) :: z) lo ob { s with heap := s.heap.push (LCg.lst []) } := by obtain ⟨m, os, frs, n⟩ := n; exact n.pushI (o := LCg.lst [])
  have n2 : Now c (((s.heap.push (LCg.lst [])).objs.size, { cls := .type "dict", data := .dict #[] }) :: (s.heap.objs.size, LCg.lst []) :: (I, oI) :: z) lo ob { s with heap := (s.heap.push (LCg.lst [])).push { cls := .type "dict", data := .dict #[] } } := by obtain ⟨m, os, frs, n⟩ := n1; exact n.pushI (o := { cls := .type "dict", data := .dict #[] })
  obtain ⟨oC, hC, hoC⟩ := LCg.ns_obj hns₁
  have n3 : Now c ((_, oC) :: _) lo ob { s with heap := h₁, toks := s.toks + 0 } := n2.swapI (fun b o hb e => hsb₁.extBut b o (by simpa using hb) e) hC
  have e0 : St 0 h₁ := by
    refine wk.frame 0 _ _ hst fun b hb o e => ?_
    have hlt := Heap.lt_size e
    refine hsb₁.extBut b o (fun q => ?_) (Heap.get?_push_of_some _ (Heap.get?_push_of_some _ e))
    have q' : b = s.heap.objs.size + 1 := by rw [q]; exact Heap.size_push _ _
    rw [q'] at hlt
    exact Nat.lt_irrefl _ (Nat.lt_of_succ_lt hlt)
  generalize hD : s.heap.objs.size = D at *
  generalize hCC : (s.heap.push (LCg.lst [])).objs.size = C at *
  have loop : ∀ s₃ : Shared, s₃ = { s with heap := h₁, toks := s.toks + ([] : List (Str × Value)).length } →
      codeAny c.g.M c.B (.compLoop (.ListComp elt [⟨.Name x px, iter, ifs, 0⟩] scope pos) 0 (.ref I) (.ref D) (compEnvC scope cl C c.env)) (compPost c.g.M c.B E none Qv (.ref D) C) s₃ := by
    rintro s₃ rfl
    refine codeAny_compLoop_tests (fun k s' => ∃ i lo ob oI oC m acc cs, i ≤ items.length ∧ k = items.length + 1 - i ∧ St i s'.heap ∧ LCg.NsObj oC m ∧ VRs acc cs ∧ acc.length ≤ i ∧ Now c ((I, oI) :: (C, oC) :: (D, LCg.lst cs) :: z) lo ob s' ∧ CompE c elt ifs x ns' QF (items.drop i) acc lo ob) ?_ (items.length + 1)
      ⟨0, lo, ob, oI, oC, _, [], [], Nat.zero_le _, rfl, e0, hoC, .nil, Nat.le_refl _, n3.zperm ((List.Perm.cons _ (List.Perm.swap _ _ _)).trans (List.Perm.swap _ _ _)), h⟩
    rintro k s1 ⟨i, lo1, ob1, oI1, oC1, m1, acc, cs, hi, rfl, st1, hoC1, hacc, hal, n1, h1⟩
    by_cases hlt : i < items.length
    · refine wk.item i s1 _ _ hlt st1 fun v h' tk hPv st2 hk => ?_
      obtain ⟨u, hu, hr⟩ := hP i v hlt hPv
      obtain ⟨oI2, hI2⟩ := K.has _ _ st2
      have n2 : Now c ((I, oI2) :: (C, oC1) :: (D, LCg.lst cs) :: z) lo1 ob1 { s1 with heap := h', toks := tk } := n1.swapI hk hI2
      have e : items.drop i = u :: items.drop (i + 1) := by
        rw [List.drop_eq_getElem_cons hlt]
        congr 1
        rw [List.getElem?_eq_getElem hlt] at hu
        exact Option.some.inj hu
      rw [e] at h1
      have hCn := n2.at (p := (C, oC1)) (.tail _ (.head _))
      refine wpAny_assign_Name (wpAny_storeName_local (lookup_relabel_local hx) (hoC1.ns hCn) (fun h₃ hn₃ hs₃ => ?_) (by simp [compEnvC, relabel, hkind]))
      obtain ⟨oC3, hC3, hoC3⟩ := LCg.ns_obj hn₃
      have n3 : Now c ((C, oC3) :: (I, oI2) :: (D, LCg.lst cs) :: z) lo1 ob1 { s1 with heap := h₃, toks := tk + 1 } := (n2.zperm (List.Perm.swap _ _ _)).swapI (fun b o hb e => hs₃.extBut b o (fun q => hb (List.mem_singleton.mpr q)) e) hC3
      have toI : ∀ {lo ob s oI oC cs}, Now c ((C, oC) :: (I, oI) :: (D, LCg.lst cs) :: z) lo ob s → Now c ((I, oI) :: z) lo ob s := fun n =>
        Now.less (a := [_]) (n.less (a := [_]) |>.zperm (List.Perm.swap _ _ _))
      have st3 : St (i + 1) h₃ := K.keep (toI (n2.zperm (List.Perm.swap _ _ _))) (toI n3) st2
      have nC : Now (cCx c scope cl C oC3 [(x, u)]) ((I, oI2) :: (D, LCg.lst cs) :: z) lo1 ob1 { s1 with heap := h₃, toks := tk + 1 } := n3.inC
      have okC : (cCx c scope cl C oC3 [(x, u)]).Ok := cCx_ok ok hkind (by rw [hns']; exact hnd) hoC3 (by
        intro p hp
        rw [List.mem_singleton.mp hp]
        exact ⟨v, by simp, hr⟩)
      refine wpAny_mono (ifs_of (h1 _ okC rfl rfl hns' rfl rfl rfl rfl rfl) nC) (fun b s4 ⟨b', lo4, ob4, hb, n4, h4⟩ => ?_) fun _ _ x => x
      subst hb
      have n4' := n4.outC
      cases b with
      | false =>
        simp only [Bool.false_eq_true, if_false]
        have st4 := K.keep (toI n3) (toI n4') st3
        exact ⟨items.length + 1 - (i + 1), by omega, i + 1, lo4, ob4, oI2, oC3, _, acc, cs, hlt, rfl, st4, hoC3, hacc, by omega, n4'.zperm (List.Perm.swap _ _ _), h4.2 rfl⟩
      | true =>
        simp only [if_true]
        refine wpAny_mono (h4.1 rfl _ s4 n4) (fun y s5 ⟨yv, lo5, ob5, hy, n5, h5⟩ => ?_) fun e s' ⟨_, _, _, _, _, x⟩ => x.elim
        have n5' := n5.outC
        have st5 := K.keep (toI n3) (toI n5') st3
        have hDn := n5'.at (p := (D, LCg.lst cs)) (.tail _ (.tail _ (.head _)))
        refine append_at (hsz := by show cs.toArray.size ≤ sizeLine; rw [List.size_toArray, ← hacc.length, sizeLine_eq]; omega) hDn fun h₅ hs₅ hD₅ => ?_
        have n6 : Now c ((D, LCg.lst (cs ++ [y])) :: (C, oC3) :: (I, oI2) :: z) lo5 ob5 { s5 with heap := h₅ } := (n5'.zperm ((List.Perm.cons _ (List.Perm.swap _ _ _)).trans (List.Perm.swap _ _ _))).swapI (fun b o hb e => hs₅.extBut b o (by simpa using hb) e) (hD₅.trans (congrArg some (LCg.lst_snoc cs y)))
        have n7 : Now c ((C, oC3) :: (I, oI2) :: (D, LCg.lst (cs ++ [y])) :: z) lo5 ob5 { s5 with heap := h₅ } := n6.zperm ((List.Perm.swap _ _ _).trans (List.Perm.cons _ (List.Perm.swap _ _ _)))
        have st7 := K.keep (toI n5') (toI n7) st5
        exact ⟨items.length + 1 - (i + 1), by omega, i + 1, lo5, ob5, oI2, oC3, _, acc ++ [yv], cs ++ [y], hlt, rfl, st7, hoC3, hacc.append (.one hy), by simp; omega, n7.zperm (List.Perm.swap _ _ _), h5⟩
    · have e : i = items.length := by omega
      subst e
      rw [List.drop_length] at h1
      refine wk.done s1 _ _ st1 fun h' tk hk => ?_
      have n2 : Now c ((C, oC1) :: (D, LCg.lst cs) :: z) lo1 ob1 { s1 with heap := h', toks := tk } := n1.dropI hk
      refine ⟨m1, hoC1.ns (n2.at (p := (C, oC1)) (.head _)), fun h'' hs'' => hQ D acc lo1 ob1 cs _ hacc (n2.dropI fun b o hb e => hs''.extBut b o (by simpa using hb) e) h1⟩
  exact codeAny_compStart_list (loop _ rfl) (wk.self 0 _ _ _ e0 (loop _ rfl))
end
end Mine
end
section
open PySem PySem.W PySem.Calls PySem.Spec PyProof.Rows
set_option Elab.async false
set_option maxRecDepth 100000
set_option linter.unusedVariables false
namespace Mine

/-- what an iterator over v walks -/
def Itr (c : Cx) (v : V) (items : List V) (keep ob oth : Obs) : Prop := ∀ z s cv lo, VR v cv → Now c z lo ob s → ∃ zk, ORs c.g.w.params keep zk ∧ ∀ (Qp : Value → Shared → Prop) (E : Value → Shared → Prop),
  (∀ I oI St s', Now c ((I, oI) :: (zk ++ z)) lo oth s' → St 0 s'.heap → IterOK c (zk ++ z) items I St → Qp (.ref I) s') → wpAny c.g.M c.B (pyIter cv) Qp E s
section
variable {c : Cx} {z z' : List (Addr × Obj)} {lo : Loc} {ob oth keep : Obs} {X : QT Addr} {s s' : Shared} {a : Addr} {vs : List V}
theorem Itr_list (hh : c.B.handled = none) (p : Picks ob [(a, .list vs)] oth) : Itr c (.ref a) vs [(a, .list vs)] ob oth := by
  rintro z s _ lo rfl n
  obtain ⟨m, os, frs, n⟩ := n.perm (p.perm.trans List.perm_append_comm)
  obtain ⟨o1, o2, h2, rfl, n1⟩ := n.out
  refine ⟨o2, h2, fun Qp E k => ?_⟩
  cases h2 with
  | cons h2 h3 =>
    rename_i o os'
    cases h3
    obtain ⟨cs, kk, rfl, hr⟩ := h2
    have ha : s.heap.get? a = some (W.listOf cs.toArray kk) := Now.at ⟨m, o1, frs, n1⟩ (p := (a, W.listOf cs.toArray kk)) (.head _)
    have hl : s.heap.IsList a cs.toArray := ⟨_, ha, rfl, _, rfl⟩
    have hlt := Heap.lt_size ha
    refine wpAny_pyIter_list hl ?_
    have n2 := n1.pushI (o := { cls := .type "list_iterator", data := .fields #[.ref a, .int 0 0] })
    refine k _ _ (fun i h => h.IsListIter s.heap.objs.size a i ∧ h.IsList a cs.toArray) _ n2 ⟨⟨_, Heap.get?_push_size _ rfl, rfl, rfl⟩, hl.push _⟩ ⟨⟨[s.heap.objs.size, a], fun i v => cs.toArray[i]? = some v, ?_, ?_, ?_⟩, ?_⟩
    · have := Walks.list (prog := c.g.prog) (w := c.g.w) hh s.heap.objs.size a (Nat.ne_of_lt hlt) cs.toArray
      rw [show vs.length = cs.toArray.size from by simp [hr.length]]
      exact this
    · intro i v hi hv
      obtain ⟨u, hu, hr'⟩ := hr.get' i v (by simpa using hv)
      exact ⟨u, hu, hr'⟩
    · intro b hb
      rcases List.mem_cons.mp hb with e | hb
      · exact .inl e
      · rw [List.mem_singleton.mp hb]; exact .inr (.inl ⟨_, .head _⟩)
    · rintro i h ⟨⟨o, ho, _⟩, _⟩; exact ⟨o, ho⟩
theorem Itr_str {l : List Nat} (hh : c.B.handled = none) : Itr c (.str l) (l.map fun k => V.str [k]) [] ob ob := by
  rintro z s _ lo ⟨t, rfl⟩ n
  refine ⟨[], .nil, fun Qp E k => ?_⟩
  obtain ⟨m, os, frs, n2⟩ := n
  have go : ∀ (T : String), Walks c.g.prog c.g.w c.B s.heap.objs.size [s.heap.objs.size] [s.heap.objs.size] (tx l).cps.size (SignAt (tx l)) (fun i h => h.IsStrIter s.heap.objs.size T (tx l) t i) → ∀ o : Obj, o.isFreed = false → (s.heap.push o).IsStrIter s.heap.objs.size T (tx l) t 0 →
      Qp (.ref s.heap.objs.size) { s with heap := s.heap.push o } := by
    intro T wk o hf hst
    refine k _ _ (fun i h => h.IsStrIter s.heap.objs.size T (tx l) t i) _ (n2.pushI hf) hst ⟨⟨_, _, by simpa [tx] using wk, ?_, fun b hb => .inl (List.mem_singleton.mp hb)⟩, fun i h st => by obtain ⟨o, e, _⟩ := st; exact ⟨o, e⟩⟩
    rintro i v hi ⟨k, u, hk, rfl⟩
    refine ⟨.str [k], ?_, u, rfl⟩
    have hk' : l[i]? = some k := by simpa [tx] using hk
    simp [hk']
  cases ha : (tx l).cps.all (· < 128)
  · exact wpAny_pyIter_wide ha (go "str_iterator" (Walks.strWide hh _ (tx l) t) _ rfl ⟨_, Heap.get?_push_size _ rfl, rfl, rfl⟩)
  · exact wpAny_pyIter_ascii ha (go "str_ascii_iterator" (Walks.strAscii hh _ (tx l) t) _ rfl ⟨_, Heap.get?_push_size _ rfl, rfl, rfl⟩)

/-- the turns over a value -/
def CompF (c : Cx) (elt : Expr) (ifs : List Expr) (x : Str) (ns' : Nms) (Q : QT V) (v : V) (lo : Loc) (ob : Obs) : Prop :=
  ∃ items keep oth, Itr c v items keep ob oth ∧ items.length ≤ 100000 ∧ CompE c elt ifs x ns' (fun acc lo ob => ∀ D, Q (.ref D) lo ((D, .list acc) :: (ob ++ keep))) items [] lo oth
theorem compF {elt : Expr} {ifs : List Expr} {x : Str} {ns' : Nms} {Q : QT V} {v : V} {items : List V} (h : Itr c v items keep ob oth) (hz : items.length ≤ 100000) (hc : CompE c elt ifs x ns' (fun acc lo ob => ∀ D, Q (.ref D) lo ((D, .list acc) :: (ob ++ keep))) items [] lo oth) : CompF c elt ifs x ns' Q v lo ob :=
  ⟨items, keep, oth, h, hz, hc⟩
theorem W_ListComp {elt iter : Expr} {ifs : List Expr} {x : Str} {px pos : Pos} {scope : Scope} {cl : List (Str × Addr)} {ns' : Nms} {Q : QT V} (ok : c.Ok) (hns' : (relabel scope c.env).names = ns') (hclos : closureFor scope c.env = pure cl) (hcell : ∀ y ∈ scope.names, y.2 ≠ .cell) (hkind : scope.kind = .function)
    (hnames : ∀ y ∈ scope.names, y.2 = .local → scope.names.lookup y.1 = some .local) (hx : scope.names.lookup x = some .local) (hnd : (ns'.map (·.1)).Nodup)
    (h : W c VR (eval iter c.env) (fun v lo ob => CompF c elt ifs x ns' Q v lo ob) X lo ob) (hs : ∀ x, foldedSetIterable iter c.env x = pure x := by intro _; rfl) : W c VR (eval (.ListComp elt [⟨.Name x px, iter, ifs, 0⟩] scope pos) c.env) Q X lo ob := by
  intro z s n
  rw [eval_ListComp]
  refine wpAny_comprehension_free (use := none) rfl hs hclos hkind hnames (wpAny_mono (h z s n) (fun xv s₁ ⟨v, lo1, ob1, hv, n1, items, keep, oth, hi, hz, hc⟩ => ?_) fun _ _ e => e)
  obtain ⟨zk, hk, run⟩ := hi z s₁ xv lo1 hv n1
  refine run _ _ fun I oI St s2 n2 st K => ?_
  refine comp_loop ok K hz hcell hkind hx hns' hnd st n2 hc fun D acc lo3 ob3 cs s3 hr n3 hq => ?_
  refine ⟨.ref D, lo3, _, rfl, ?_, hq D⟩
  obtain ⟨m, os, frs, n3⟩ := n3.zperm (z' := ([(D, LCg.lst cs)] ++ zk) ++ z) (by rfl)
  exact Now.perm ⟨m, _, frs, n3.back (oth := (D, .list acc) :: keep) (.cons ⟨cs, cs.length, rfl, hr⟩ hk)⟩ List.perm_middle
theorem CompE.map {elt : Expr} {x : Str} {ns' : Nms} {QF : List V → Loc → Obs → Prop} (f : V → V) {items acc : List V}
    (hE : ∀ v ∈ items, ∀ c' : Cx, c'.Ok → c'.g = c.g → c'.ns = c.ns → c'.env.scope.names = ns' → c'.cv = some [(x, v)] → c'.d = c.d → c'.B = c.B → W c' VR (eval elt c'.env) (fun y lo' ob' => y = f v ∧ lo' = lo ∧ ob' = ob) never lo ob)
    (h : QF (acc ++ items.map f) lo ob) : CompE c elt [] x ns' QF items acc lo ob := by
  induction items generalizing acc with
  | nil => simpa [CompE] using h
  | cons v vs ih =>
    intro c' h1 h2 h3 h4 h5 h6 h7 h8 h9
    refine br_t ((hE v (.head _) c' h1 h2 h3 h4 h5 h6 h7).mono ?_ fun _ _ _ x => x)
    rintro y _ _ ⟨rfl, rfl, rfl⟩
    exact ih (fun u hu => hE u (.tail _ hu)) (by simpa using h)
end
end Mine
end
section
open PySem PySem.W PySem.Calls PySem.Spec PyProof.Rows
set_option Elab.async false
set_option maxRecDepth 100000
set_option linter.unusedVariables false
namespace Mine

theorem strs_of : ∀ {ls : List (List Nat)} {cs : List Value}, VRs (ls.map V.str) cs → ∃ l : List (Str × Tok), cs = strValues l ∧ l.map (·.1) = ls.map tx
  | [], _, .nil => ⟨[], rfl, rfl⟩
  | a :: ls, _, .cons h r => by
    obtain ⟨t, rfl⟩ := h
    obtain ⟨l, rfl, hl⟩ := strs_of r
    exact ⟨(tx a, t) :: l, rfl, by simp [hl]⟩
theorem ints_of : ∀ {ns : List Int} {cs : List Value}, VRs (ns.map V.int) cs → IntsAre cs ns
  | [], _, .nil => .nil
  | a :: ns, _, .cons h r => by obtain ⟨t, rfl⟩ := h; exact .cons _ _ (ints_of r)

section
variable {c : Cx} {lo : Loc} {ob ob' : Obs} {X : QT Addr} {Q : QT V} {QF : QT AF} {a : Addr} {vs : List V}
theorem cut_str_sn {value slice : Expr} {l : List Nat} {i : Int} (hi : 0 ≤ i) (hz : l.length ≤ 100000) (h : Q (.str (l.drop i.toNat)) lo ob)
    (hs : ∀ t k, subscripted slice false (.str (tx l) t) (.ref k) = operate [.ref k, .str (tx l) t] (getItem (.str (tx l) t) (.ref k)) := by intro _ _; with_unfolding_all rfl) (ht : ∀ t r, letTemporaryGo value (.str (tx l) t) r = pure () := by intro _ _; with_unfolding_all rfl) : Cut c value slice (.str l) (some i) none Q X lo ob := by
  rintro _ cl cu ⟨t, rfl⟩ ⟨t1, rfl⟩ rfl z s ⟨m, os, frs, n⟩
  exact cut_sn n.F n.N hi (by omega) (fun h' t' k F' N' => LQ.str ⟨m, os, frs, n.go (s' := { s with heap := h', toks := k }) F' N'⟩ h) (hs _ _) (ht _)
theorem cut_str_ns {value slice : Expr} {l : List Nat} {j : Int} (hj : 0 ≤ j) (hz : l.length ≤ 100000) (h : Q (.str (l.take j.toNat)) lo ob)
    (hs : ∀ t k, subscripted slice false (.str (tx l) t) (.ref k) = operate [.ref k, .str (tx l) t] (getItem (.str (tx l) t) (.ref k)) := by intro _ _; with_unfolding_all rfl) (ht : ∀ t r, letTemporaryGo value (.str (tx l) t) r = pure () := by intro _ _; with_unfolding_all rfl) : Cut c value slice (.str l) none (some j) Q X lo ob := by
  rintro _ cl cu ⟨t, rfl⟩ rfl ⟨t1, rfl⟩ z s ⟨m, os, frs, n⟩
  exact cut_ns n.F n.N hj (by omega) (fun h' t' k F' N' => LQ.str ⟨m, os, frs, n.go (s' := { s with heap := h', toks := k }) F' N'⟩ h) (hs _ _) (ht _)
/- builtins over lists -/
theorem join_strs {ls : List (List Nat)} (hm : LA c ob a (ls.map V.str)) (hz : (ls.map List.length).sum ≤ 100000) (h : Q (.str ls.flatten) lo ob) : Cal c (.cv (.builtin "str.join")) [.str [], .ref a] Q X lo ob := by
  rintro _ cs rfl hv z s n0
  obtain ⟨_, _, rfl, ⟨t, rfl⟩, rfl⟩ := VRs2 hv
  obtain ⟨m, os, frs, n⟩ := n0
  obtain ⟨ks, hl, hr⟩ := hm.at n
  obtain ⟨l, rfl, hl2⟩ := strs_of hr
  refine SC.join (l := l) hl hl2 ?_ ?_
  · unfold JoinOk
    rw [StrLaws.joinTotal, Bool.not_eq_true']
    have e1 : (ls.map tx).map (·.length) = ls.map List.length := by simp [List.map_map, Function.comp_def, tx_length]
    have e2 : (tx []).length = 0 := tx_length []
    rw [e1, e2, Nat.mul_zero, Nat.add_zero]
    have e : (2 : Nat) ^ 24 = 16777216 := by decide
    unfold Builtin.Str.tooLong sizeLine
    exact decide_eq_false (by omega)
  · rw [join_flat]; exact fun t k => LQ.str ⟨m, os, frs, n.toks rfl⟩ h
theorem bytes_list {l : List Nat} (hh : c.B.handled = none) (hm : LA c ob a (l.map fun (k : Nat) => V.int (k : Int))) (hc : ∀ k ∈ l, k < 256) (hz : l.length ≤ 100000) (h : Q (.bytes l) lo ob) : Cal c (.cv (.type "bytes")) [.ref a] Q X lo ob := by
  rintro _ cs rfl hv z s n0
  obtain ⟨_, rfl, rfl⟩ := VRs1 hv
  obtain ⟨m, os, frs, n⟩ := n0
  obtain ⟨ks, hl, hr⟩ := hm.at n
  have hr' : VRs ((l.map fun (k : Nat) => (k : Int)).map V.int) ks := by simpa [List.map_map, Function.comp_def] using hr
  have hin : KBa.In (l.map fun (c : Nat) => (c : Int)) := fun n hn => by
    obtain ⟨k, hk, rfl⟩ := List.mem_map.1 hn
    have := hc k hk
    omega
  exact KBa.make_K n.F n.N hh hl (ints_of hr') hin (by simpa using (by omega : l.length ≤ 16777216)) fun h' t' k F' N' _ => LQ.bytes (bytes_of l hc) ⟨m, os, frs, n.go (s' := { s with heap := h', toks := k }) F' N'⟩ h
theorem isnot_bools {x y : Bool} (h : Q (.bool (x != y)) lo ob) : Cmp c .IsNot (.bool x) (.bool y) Q X lo ob := by
  rintro _ _ rfl rfl z s n
  exact wpAny_isNot_plain (by rfl) (LQ.bool' (by cases x <;> cases y <;> rfl) n h)
end
end Mine
end
section
open PySem PySem.W PySem.Calls PySem.Spec PyProof.Rows
set_option Elab.async false
set_option maxRecDepth 100000
set_option linter.unusedVariables false
namespace Mine

/-- joining displays of objects -/
inductive App : Obs → Obs → Obs → Prop
  | nil {l} : App [] l l
  | cons {p a l r} : App a l r → App (p :: a) l (p :: r)
theorem App.eq {a l r : Obs} (h : App a l r) : a ++ l = r := by
  induction h with
  | nil => rfl
  | cons _ ih => rw [List.cons_append, ih]
/-- some objects are forgotten -/
def Frg (P : Obs → Prop) (ob : Obs) : Prop := ∃ ob2 d, Picks ob ob2 d ∧ P ob2
theorem frg_intro {P : Obs → Prop} {ob ob2 d : Obs} (p : Picks ob ob2 d) (h : P ob2) : Frg P ob := ⟨ob2, d, p, h⟩
/-- what a function does, its answer and its objects known -/
abbrev FnE (g : G) (f : Addr) (args : List V) (d : Nat) (hq : Bool) (r : V) (ob1 ob0 : Obs) : Prop := FnC g f args d hq (fun v ob => v = r ∧ ob = ob1) (fun _ _ => False) ob0
section
variable {c : Cx} {lo : Loc} {ob ob' : Obs} {X : QT Addr} {Q : QT V} {QF : QT AF} {a : Addr} {vs : List V}
theorem FnC.forget {g : G} {f : Addr} {args : List V} {d : Nat} {hq : Bool} {Q : V → Obs → Prop} {X : Addr → Obs → Prop} (F : FnC g f args d hq (fun v ob => Frg (Q v) ob) X ob) : FnC g f args d hq Q X ob := by
  intro c A ok hg hf hd hu hh cas hv z lo s n
  refine codeAny_mono (F c A ok hg hf hd hu hh cas hv z lo s n) fun r s' hr => ?_
  match r with
  | .ok (.ret v) => obtain ⟨u, ob, hu, n, ob2, d, p, hq⟩ := hr; exact ⟨u, ob2, hu, n.forget p, hq⟩
  | .ok .next => exact hr.elim
  | .ok .brk => exact hr.elim
  | .ok .cont => exact hr.elim
  | .error e => exact hr
theorem cal_E {f : Addr} {args : List V} {d : Nat} {hq : Bool} {r : V} {small oth ob1 : Obs} (ok : c.Ok) (p : Picks ob small oth) (F : FnE c.g f args d hq r ob1 small) (q : App ob1 oth ob') (hd : d ≤ c.d) (hh : hq = true ∨ c.B.handled = none) (h : Q r lo ob') : Cal c (.ref f) args Q X lo ob :=
  cal_fn (QF := fun v ob => v = r ∧ ob = ob') (XF := fun _ _ => False) ok (FnC.frame p (F.mono (fun v ob ⟨e1, e2⟩ => ⟨e1, by rw [e2]; exact q.eq⟩) fun _ _ x => x)) hd hh (fun v ob ⟨e1, e2⟩ => by rw [e1, e2]; exact h) fun _ _ x => x.elim
/-- a class call whose __init__ is known -/
theorem cal_new {C f : Addr} {args : List V} {d : Nat} {hq : Bool} {small oth : Obs} {ob1 : Addr → Addr → Obs} {ob2 : Addr → Addr → Obs} (ok : c.Ok) (hm : makesIn c.g.K C = true) (hi : findIn c.g.K (.ref C) "__init__" = some (some (.ref f))) (hfn : isFn c.g.K (.ref f) = true)
    (F : ∀ x dx, FnE c.g f (.ref x :: args) d hq .none (ob1 x dx) ((x, .inst C dx) :: (dx, .dct []) :: [])) (q : ∀ x dx, App (ob1 x dx) ob (ob2 x dx)) (hd : d + 1 ≤ c.d) (hh : hq = true ∨ c.B.handled = none)
    (h : ∀ x dx, Q (.ref x) lo (ob2 x dx)) : Cal c (.ref C) args Q X lo ob :=
  cal_cls ok hm hi hfn hd hh fun x dx => FnC.frame (small := (x, .inst C dx) :: (dx, .dct []) :: []) (oth := ob) (.cons .head (.cons .head .nil)) ((F x dx).mono (fun v o ⟨e1, e2⟩ => ⟨e1, by rw [e2, (q x dx).eq]; exact h x dx⟩) fun _ _ e => e.elim)

/-- loops by an invariant -/
theorem Wkn.mono {P P' : Loc → Obs → Prop} (h : Wkn P lo ob) (hp : ∀ lo ob, P lo ob → P' lo ob) : Wkn P' lo ob := by
  obtain ⟨lo2, ob2, d, h1, h2, h3⟩ := h
  exact ⟨lo2, ob2, d, h1, h2, hp _ _ h3⟩
def TurnQ (I : Loc → Obs → Prop) (Q : QT AF) : QT AF := fun f lo ob => match f with
  | .brk => Q .next lo ob
  | .ret v => Q (.ret v) lo ob
  | _ => Wkn I lo ob
theorem turn_next {I : Loc → Obs → Prop} {Q : QT AF} (h : Wkn I lo ob) : TurnQ I Q .next lo ob := h
theorem forW_inv {tg : Expr} {body : List Stmt} {items : List V} (I : Nat → Loc → Obs → Prop) (turn : ∀ k v lo ob, items[k]? = some v → I k lo ob → Asg c tg v (fun lo ob => W c FR (execs body c.env) (TurnQ (I (k + 1)) QF) X lo ob) X lo ob)
    (hend : ∀ lo ob, I items.length lo ob → QF .next lo ob) (h : I 0 lo ob) : ForW c tg body QF X items lo ob := by
  have key : ∀ (vs : List V) (k : Nat) lo ob, items.drop k = vs → I k lo ob → k ≤ items.length → ForW c tg body QF X vs lo ob := by
    intro vs
    induction vs with
    | nil =>
      intro k lo ob e hI hk
      have : items.length - k = 0 := by rw [← List.length_drop, e]; rfl
      have : k = items.length := by omega
      subst this
      exact hend _ _ hI
    | cons v vs ih =>
      intro k lo ob e hI hk
      have hlt : k < items.length := by
        have : items.length - k = vs.length + 1 := by rw [← List.length_drop, e]; rfl
        omega
      have hv : items[k]? = some v := by
        have := congrArg List.head? e
        simpa using this
      have e2 : items.drop (k + 1) = vs := by
        have := congrArg (List.drop 1) e
        rw [List.drop_drop] at this
        simpa using this
      intro cv hr z s n
      refine wpAny_mono (turn k v lo ob hv hI cv hr z s n) (fun _ s1 ⟨_, lo1, ob1, hu, n1, h1⟩ => ⟨(), lo1, ob1, hu, n1, ?_⟩) fun _ _ x => x
      refine h1.mono (fun f lo2 ob2 h2 => ?_) fun _ _ _ x => x
      cases f with
      | next => exact Wkn.mono h2 fun lo ob hI => ih (k + 1) lo ob e2 hI hlt
      | cont => exact Wkn.mono h2 fun lo ob hI => ih (k + 1) lo ob e2 hI hlt
      | brk => exact h2
      | ret v => exact h2
  exact key _ 0 lo ob rfl h (Nat.zero_le _)
/-- a handler -/
theorem hdl_yes {t : Expr} {hb : List Stmt} {a : Addr} {cls : Value} {d : Option Addr} {arg : Option V} {ct : Value} (ok : c.Ok) (hm : (a, Ob.exc cls d arg) ∈ ob) (hn : NameIs (Mine.mk c a) t ct) (he : exmOne c.g.K cls ct = some true)
    (h : (Mine.mk c a).Ok → W (Mine.mk c a) FR (execs hb (Mine.mk c a).env) QF X lo ob) : Hdl c t hb QF X a lo ob := ⟨cls, d, arg, ct, true, hm, hn, he, by rw [if_pos rfl]; exact h (mk_ok ok a)⟩
theorem whileq_next {I : Nat → Loc → Obs → Prop} {n : Nat} (h : Wkn (fun lo ob => ∃ k, k < n ∧ I k lo ob) lo ob) : WhileQ c I n QF .next lo ob := h
end
end Mine
namespace Mine
theorem relabel_nofree {scope : Scope} {env : Env} (h : ∀ y ∈ scope.names, y.2 ≠ .free) : (relabel scope env).names = scope.names := by
  unfold relabel
  simp only
  conv => rhs; rw [← List.map_id scope.names]
  refine List.map_congr_left fun y hy => ?_
  have := h y hy
  obtain ⟨n, k⟩ := y
  have e : (k == NameKind.free) = false := by simpa using this
  simp [e]
section
variable {c : Cx} {lo : Loc} {ob ob' : Obs} {X : QT Addr} {Q : QT V} {QF : QT AF} {a : Addr} {vs : List V}
theorem W_Comp0 {elt iter : Expr} {ifs : List Expr} {x : Str} {px pos : Pos} {scope : Scope} (ok : c.Ok) (hfree : ∀ y ∈ scope.names, y.2 ≠ .free) (hclos : closureFor scope c.env = pure []) (hcell : ∀ y ∈ scope.names, y.2 ≠ .cell) (hkind : scope.kind = .function)
    (hnames : ∀ y ∈ scope.names, y.2 = .local → scope.names.lookup y.1 = some .local) (hx : scope.names.lookup x = some .local) (hnd : (scope.names.map (·.1)).Nodup)
    (h : W c VR (eval iter c.env) (fun v lo ob => CompF c elt ifs x scope.names Q v lo ob) X lo ob) (hs : ∀ x, foldedSetIterable iter c.env x = pure x := by intro _; rfl) : W c VR (eval (.ListComp elt [⟨.Name x px, iter, ifs, 0⟩] scope pos) c.env) Q X lo ob :=
  W_ListComp ok (relabel_nofree hfree) hclos hcell hkind hnames hx hnd h hs
theorem cal_app {f : V} {x : V} {vs : List V} (h : Cal c f (x :: vs) Q X lo ob) : Cal c f ([x] ++ vs) Q X lo ob := h
/-- a comparison's answer -/
def Eqs (a b : V) (k : Bool) : Prop := ∀ {c : Cx} {Q : QT V} {X : QT Addr} {lo : Loc} {ob : Obs}, Q (.bool k) lo ob → Cmp c .Eq a b Q X lo ob
end
def ovV (o : Option (List Nat)) : V := match o with | none => .none | some c => .str c
theorem handed_ovV (o : Option (List Nat)) : handedV (ovV o) = true := by cases o <;> rfl
theorem eqs_ov (a b : Option (List Nat)) : Eqs (ovV a) (ovV b) (decide (a = b)) := by
  intro c Q X lo ob h
  cases a <;> cases b
  · exact Mine.eq_none_none h
  · exact Mine.eq_none_str h
  · exact Mine.eq_str_none h
  · exact Mine.eq_strs (by simpa using h)
/-- a tokenizer's own dict -/
abbrev tokE (it st : V) (l : List Nat) (i : Int) (nx : V) : List (Str × V) := [(Str.ofString "istext", it), (Str.ofString "string", st), (Str.ofString "decoded_string", .str l), (Str.ofString "index", .int i), (Str.ofString "next", nx)]
theorem bs_code {c : Nat} : ([c] = [92]) ↔ (tx [c] == Str.ofString "\\") = true := by rw [bs_beq]; simp
theorem stepA_one {l : List Nat} {i j c : Nat} {o : Option (List Nat)} (hn : nxt l i = some (j, o)) (h : l[((i : Nat) : Int).toNat]? = some c) (hc : ¬ [c] = [92]) : i + 1 = j ∧ some [c] = o := step_one hn h (by rw [bs_code] at hc; simpa using hc)
theorem stepA_two {l : List Nat} {i j c d : Nat} {o : Option (List Nat)} (hn : nxt l i = some (j, o)) (h : l[((i : Nat) : Int).toNat]? = some c) (hc : [c] = [92]) (h2 : l[((i : Nat) + 1 : Int).toNat]? = some d) : i + 2 = j ∧ some ([c] ++ [d]) = o := step_two hn h (bs_code.mp hc) h2
theorem stepA_bad {l : List Nat} {i j c : Nat} {o : Option (List Nat)} (hn : nxt l i = some (j, o)) (h : l[((i : Nat) : Int).toNat]? = some c) (hc : [c] = [92]) (h2 : l[((i : Nat) + 1 : Int).toNat]? = none) : False := step_bad hn h (bs_code.mp hc) h2
end Mine
namespace Mine
section
variable {c : Cx} {lo : Loc} {ob ob' : Obs} {X : QT Addr} {Q : QT V} {QF : QT AF} {a : Addr} {vs : List V}
theorem eqs_use {x y : V} {k : Bool} (he : Eqs x y k) (h : Q (.bool k) lo ob) : Cmp c .Eq x y Q X lo ob := he h
theorem CompE.mapk {α : Type} {elt : Expr} {x : Str} {ns' : Nms} {QF : List V → Loc → Obs → Prop} {l : List α} {g : α → V} (f : α → V)
    (hE : ∀ k ∈ l, ∀ c' : Cx, c'.Ok → c'.g = c.g → c'.env.scope.names = ns' → c'.cv = some [(x, g k)] → c'.d = c.d → c'.B = c.B → W c' VR (eval elt c'.env) (fun y lo' ob' => y = f k ∧ lo' = lo ∧ ob' = ob) never lo ob)
    (h : QF (l.map f) lo ob) : CompE c elt [] x ns' QF (l.map g) [] lo ob := by
  have key : ∀ (l : List α) (acc : List V), (∀ k ∈ l, ∀ c' : Cx, c'.Ok → c'.g = c.g → c'.env.scope.names = ns' → c'.cv = some [(x, g k)] → c'.d = c.d → c'.B = c.B → W c' VR (eval elt c'.env) (fun y lo' ob' => y = f k ∧ lo' = lo ∧ ob' = ob) never lo ob) → QF (acc ++ l.map f) lo ob → CompE c elt [] x ns' QF (l.map g) acc lo ob := by
    intro l
    induction l with
    | nil => intro acc _ h; simpa [CompE] using h
    | cons v vs ih =>
      intro acc hE h c' h1 h2 h3 h4 h5 h6 h7 h8 h9
      refine br_t ((hE v (.head _) c' h1 h2 h4 h5 h6 h7).mono ?_ fun _ _ _ x => x)
      rintro y _ _ ⟨rfl, rfl, rfl⟩
      exact ih _ (fun u hu => hE u (.tail _ hu)) (by simpa using h)
  exact key l [] hE h
/-- a function whose answer is a new object -/
abbrev FnN (g : G) (f : Addr) (args : List V) (d : Nat) (hq : Bool) (ob1 : Addr → Obs) (ob0 : Obs) : Prop := FnC g f args d hq (fun v ob => ∃ D, v = .ref D ∧ ob = ob1 D) (fun _ _ => False) ob0
end
end Mine
end
section
open PySem PySem.W PySem.Calls PySem.Spec PyProof.Rows
set_option Elab.async false
set_option maxRecDepth 100000
set_option linter.unusedVariables false
namespace Mine

/-- a list that stood ahead of the call -/
def BaseL (c : Cx) (a : Addr) (vs : List V) : Prop := ∃ cs, c.g.hb.IsList a cs.toArray ∧ VRs vs cs
theorem LA.base {c : Cx} {ob : Obs} {a : Addr} {vs : List V} (h : BaseL c a vs) : LA c ob a vs := .inr h
theorem vrs_ints : ∀ {ns : List Int} {cs : List Value}, IntsAre cs ns → VRs (ns.map V.int) cs
  | _, _, .nil => .nil
  | _, _, .cons _ t r => .cons ⟨t, rfl⟩ (vrs_ints r)

/-- the law's own frame -/
theorem law_enter (g : G) (env : Env) {s : Shared} {m : Str → Option Value} {lo0 : Loc} {body : List Stmt} {Qg : Flow → Shared → Prop} (X : g.K.In g.hb) (T : Top g.p g.loose g.mean g.mg g.mb g.hb)
    (hkind : env.scope.kind = .function) (hframe : env.frame = some env.locals) (hglob : env.globals = mainGlobals) (hblt : env.builtins = builtinsNs) (hnd : (env.scope.names.map (·.1)).Nodup)
    (F : Fr g.hb env.locals s.heap m) (hlr : LR env.scope.names lo0 m) (hos : s.os = g.os0) (hgens : s.gens = g.gens0)
    (hq : ∀ s' : Shared, (∀ b o, g.hb.get? b = some o → s'.heap.get? b = some o) → s'.os = g.os0 → s'.gens = g.gens0 → Qg (.ret (.bool true)) s')
    (h : ∀ c : Cx, c.Ok → c.g = g → c.env = env → c.ns = env.scope.names → c.cv = none → c.d = 10 → c.B.handled = none → W c FR (execs body c.env) (fun f _ _ => f = .ret (.bool true)) (fun _ _ _ => False) lo0 []) :
    wpAny (model g.prog g.w) (callerA.deeper env) (execs body env) Qg (fun _ _ => False) s := by
  let c : Cx := { g := g, B := callerA.deeper env, env := env, fenv := env, ns := env.scope.names, outer := [], frs0 := [], rest := [], cv := none, d := 10 }
  have ok : c.Ok := by
    refine ⟨⟨X, T⟩, rfl, rfl, hnd, hframe, hkind, rfl, hkind, hglob, hblt, hnd, ?_, ?_, fun _ => rfl, fun _ e => nomatch e⟩
    · show callerA.depth + 1 + 10 < recursionLimit
      decide
    · show callerA.units + 3 + 4 * 10 + 100 < cLine
      decide
  refine wpAny_mono (h c ok rfl rfl rfl rfl rfl rfl [] s ⟨m, [], [], F, hlr, .nil, (fun p hp => nomatch hp), List.nodup_nil, fram0, (fun a ha => nomatch ha), hos, hgens⟩) (fun f s' ⟨gf, lo, ob, hf, ⟨m', os, frs, n⟩, e⟩ => ?_) fun e s' ⟨_, _, _, _, _, x⟩ => x.elim
  subst e
  obtain ⟨cv, rfl, e⟩ := hf
  cases e
  exact hq s' n.F.keep n.og.1 n.og.2

section
variable {c : Cx} {lo : Loc} {ob ob' : Obs} {X : QT Addr} {Q : QT V} {QF : QT AF} {a : Addr} {vs : List V}
theorem join_signs' {l : List Nat} (hm : LA c ob a (l.map fun k => V.str [k])) (hz : l.length ≤ 100000) (h : Q (.str l) lo ob) : Cal c (.cv (.builtin "str.join")) [.str [], .ref a] Q X lo ob := by
  have e : (l.map fun k => V.str [k]) = (l.map fun k => [k]).map V.str := by simp
  rw [e] at hm
  have e1 : ∀ l : List Nat, ((l.map fun c => [c]).map List.length).sum = l.length := by
    intro l; induction l with
    | nil => rfl
    | cons a l ih => simp only [List.map_cons, List.sum_cons, ih, List.length_cons, List.length_nil]; omega
  have e2 : ∀ l : List Nat, (l.map fun c => [c]).flatten = l := by
    intro l; induction l with
    | nil => rfl
    | cons a l ih => simp [ih]
  refine join_strs hm (by rw [e1]; exact hz) ?_
  rw [e2]; exact h
theorem cut_ns_map {α : Type} {l : List α} {f : α → V} {k : Nat} : cut (l.map f) none (some (k : Int)) = (l.take k).map f := by
  have e : ¬ ((k : Int) < 0) := by omega
  unfold cut kms_lo kms_hi
  simp [e]
end
end Mine
namespace Mine
section
variable {c : Cx} {lo : Loc} {ob ob' : Obs} {X : QT Addr} {Q : QT V}
theorem isnot_b1 {x : Bool} (h : Q (.bool false) lo ob) : Cmp c .IsNot (.bool x) (.bool x) Q X lo ob := isnot_bools (by simpa using h)
end
theorem eqs_ff {a b : List Nat} (h : a ≠ b) : Eqs (.str a) (.str b) false := by
  intro c Q X lo ob hq
  exact Mine.eq_strs (by rw [decide_eq_false h]; exact hq)
theorem eqs_tt {a : List Nat} : Eqs (.str a) (.str a) true := by
  intro c Q X lo ob hq
  exact Mine.eq_strs (by simpa using hq)
theorem eqs_sn {a : List Nat} : Eqs (.str a) .none false := fun hq => Mine.eq_str_none hq
theorem eqs_ns {a : List Nat} : Eqs .none (.str a) false := fun hq => Mine.eq_none_str hq
theorem eqs_nn : Eqs .none .none true := fun hq => Mine.eq_none_none hq
end Mine
end
section
open PySem PySem.W PySem.Calls PySem.Spec PyProof.Rows
set_option Elab.async false
set_option maxRecDepth 100000
set_option linter.unusedVariables false
namespace Mine

/-- what the ground says of the Tokenizer's class, of the functions and of the builtins' names -/
structure TkF (g : G) (TK ini : Addr) (attrs : List Str) (meths fns : List (Str × Addr)) (blts : List (Str × Value)) : Prop where
  att : ∀ x ∈ attrs, plainGet g.K TK x = true ∧ findIn g.K (.ref TK) x = some none ∧ takerIn g.K TK x = some none
  met : ∀ p ∈ meths, plainGet g.K TK p.1 = true ∧ findIn g.K (.ref TK) p.1 = some (some (.ref p.2)) ∧ isFn g.K (.ref p.2) = true ∧ keepIn g.K (.ref p.2) = true
  fun_ : ∀ p ∈ fns, nsIn g.K mainGlobals p.1 = some (some (.ref p.2)) ∧ keepIn g.K (.ref p.2) = true ∧ (p.1 == ("__debug__" : Str)) = false
  blt : ∀ p ∈ blts, nsIn g.K mainGlobals p.1 = some none ∧ bootBuiltins p.1 = some p.2 ∧ p.1 ≠ "__name__" ∧ (p.1 == ("__debug__" : Str)) = false
  ng : noGet g.K none = true
  hd : hasDictIn g.K TK = true
  sa : findIn g.K (.ref TK) "__setattr__" = some (some (.builtin "object.__setattr__"))
  po : plainOver g.K TK = true
  mi : makesIn g.K TK = true
  ii : findIn g.K (.ref TK) "__init__" = some (some (.ref ini))
  isf : isFn g.K (.ref ini) = true

section
variable {c : Cx} {lo : Loc} {ob ob' : Obs} {X : QT Addr} {Q : QT V} {QF : QT AF} {TK ini : Addr} {attrs : List Str} {meths fns : List (Str × Addr)} {blts : List (Str × Value)}
theorem geta_tk {x d : Addr} {es : List (Str × V)} {name : Str} {v : V} (ok : c.Ok) (H : TkF c.g TK ini attrs meths fns blts) (h1 : (x, .inst TK d) ∈ ob) (h2 : (d, .dct es) ∈ ob) (hn : name ∈ attrs) (hl : Ent es name v) (hv : handedV v = true) (h : Q v lo ob) : GetA c (.ref x) name Q X lo ob :=
  geta_own ok h1 h2 (H.att _ hn).1 H.hd (H.att _ hn).2.1 H.ng hl hv h
theorem seta_tk {x d : Addr} {es es' : List (Str × V)} {name : Str} {v : V} {Q : Loc → Obs → Prop} (ok : c.Ok) (H : TkF c.g TK ini attrs meths fns blts) (h1 : (x, .inst TK d) ∈ ob) (u : OUpd d (.dct es) (.dct es') ob ob') (hn : name ∈ attrs) (e : EPut es name v es') (hz : es'.length ≤ 1000) (h : Q lo ob') : SetA c (.ref x) name v Q X lo ob :=
  seta_inst ok h1 u H.sa H.po (H.att _ hn).2.2 H.hd e hz h
theorem getm_tk {x d f : Addr} {es : List (Str × V)} {name : Str} {Q : V → List V → Loc → Obs → Prop} (ok : c.Ok) (H : TkF c.g TK ini attrs meths fns blts) (h1 : (x, .inst TK d) ∈ ob) (h2 : (d, .dct es) ∈ ob) (hm : (name, f) ∈ meths) (hl : NoEnt es name) (h : Q (.ref f) [.ref x] lo ob) : GetM c (.ref x) name Q X lo ob :=
  getm_inst ok h1 h2 (H.met _ hm).1 (H.met _ hm).2.1 (H.met _ hm).2.2.1 hl h
theorem W_globT {x : Str} {a : Addr} {p : Pos} {ns : Nms} (ok : c.Ok) (H : TkF c.g TK ini attrs meths fns blts) (hns : c.env.scope.names = ns) (hk : InN ns x .globalImplicit) (hx : (x, a) ∈ fns) (h : Q (.ref a) lo ob) : W c VR (eval (.Name x p) c.env) Q X lo ob :=
  W_glob ok hns hk (H.fun_ _ hx).1 (u := .ref a) rfl h (H.fun_ _ hx).2.2
theorem W_bltT {x : Str} {v : Value} {p : Pos} {ns : Nms} (ok : c.Ok) (H : TkF c.g TK ini attrs meths fns blts) (hns : c.env.scope.names = ns) (hk : InN ns x .globalImplicit) (hx : (x, v) ∈ blts) (h : Q (.cv v) lo ob) : W c VR (eval (.Name x p) c.env) Q X lo ob :=
  W_blt ok hns hk (H.blt _ hx).1 (H.blt _ hx).2.1 (u := .cv v) rfl h (H.blt _ hx).2.2.1 (H.blt _ hx).2.2.2
theorem kp_met {P : Prop} {n : Str} {f : Addr} (H : TkF c.g TK ini attrs meths fns blts) (hm : (n, f) ∈ meths) (hp : P) : Kp c (.ref f) ∧ P := ⟨kp_ref (H.met _ hm).2.2.2, hp⟩
theorem kp_fun {P : Prop} {n : Str} {f : Addr} (H : TkF c.g TK ini attrs meths fns blts) (hm : (n, f) ∈ fns) (hp : P) : Kp c (.ref f) ∧ P := ⟨kp_ref (H.fun_ _ hm).2.1, hp⟩
theorem hdl_bltT {x : Str} {p : Pos} {ns : Nms} {hb : List Stmt} {a : Addr} {cls : Value} {d : Option Addr} {arg : Option V} {ct : Value} (ok : c.Ok) (H : TkF c.g TK ini attrs meths fns blts) (hm : (a, Ob.exc cls d arg) ∈ ob) (hns : c.env.scope.names = ns) (hk : InN ns x .globalImplicit) (hx : (x, ct) ∈ blts) (he : exmOne c.g.K cls ct = some true)
    (h : (Mine.mk c a).Ok → W (Mine.mk c a) FR (execs hb (Mine.mk c a).env) QF X lo ob) : Hdl c (.Name x p) hb QF X a lo ob :=
  hdl_yes ok hm (nameIs_blt (c := Mine.mk c a) (mk_ok ok a) hns hk (H.blt _ hx).1 (H.blt _ hx).2.1 (H.blt _ hx).2.2.1 (H.blt _ hx).2.2.2) he h
end
end Mine
end
section
open PySem PySem.W PySem.Calls PySem.Spec PyProof.Rows
set_option Elab.async false
set_option maxRecDepth 100000
set_option linter.unusedVariables false
namespace Mine

theorem assignEach_of : ∀ {es : List Expr} {env : Env}, noStar es = true → assignEach es env = es.map fun e => (false, assign e env)
  | [], _, _ => rfl
  | e :: r, env, h => by
    cases e <;> first | (cases h; done) | (show _ :: assignEach r env = _; rw [assignEach_of (by exact h)]; rfl)

section
variable {c : Cx} {lo : Loc} {ob ob' : Obs} {X : QT Addr} {Q : QT V} {QF : QT AF} {a b : Addr} {vs ws : List V}
theorem asg_tup {es : List Expr} {k : Nat} {pos : Pos} {Q : Loc → Obs → Prop} (hh : c.B.handled = none) (hm : (a, .tup vs) ∈ ob) (hl : es.length = vs.length) (hs : noStar es = true) (h : AsgEach c es vs Q X lo ob) : Asg c (.Tuple es k pos) (.ref a) Q X lo ob := by
  rintro _ rfl z s n0
  obtain ⟨m, os, frs, n⟩ := n0
  obtain ⟨o, _, _, ha, hc, cs, kk, hd, hr⟩ := n.mem hm
  refine assign_Tuple_tuple hh ⟨o, ha, hc, kk, hd⟩ ?_ ?_ fun h' he => ?_
  · rw [assignEach_of hs, List.length_map, hl, hr.length, List.size_toArray]
  · rw [assignEach_of hs, List.findIdx?_eq_none_iff]
    intro x hx
    obtain ⟨e, _, rfl⟩ := List.mem_map.mp hx
    rfl
  · have hk : ∀ b o, s.heap.get? b = some o → h'.get? b = some o := fun b o e => he b o (Nat.ne_of_lt (Heap.lt_size e)) e
    have n' : Now c z lo ob { s with heap := h' } := ⟨m, os, frs, n.go (s' := { s with heap := h' }) (n.F.keeps hk) fun p hp => ⟨hk _ _ (n.N p hp).1, (n.N p hp).2⟩⟩
    have e : (assignEach es c.env).map (·.2) = es.map fun e => assign e c.env := by rw [assignEach_of hs, List.map_map]; rfl
    rw [e]
    exact asgEach_of hr h z _ n'

/-- a value that lies in no object -/
def plainV : V → Bool
  | .ref _ => false
  | .cv _ => false
  | _ => true
theorem plain_ovV (o : Option (List Nat)) : plainV (ovV o) = true := by cases o <;> rfl
theorem plain_and {v : V} {P : Prop} (h : plainV v = true) (hp : P) : plainV v = true ∧ P := ⟨h, hp⟩
theorem S_ExprV {e : Expr} {pos : Pos} (h : W c VR (eval e c.env) (fun v lo ob => plainV v = true ∧ QF .next lo ob) X lo ob) (hi : interactive c.env = false) (hs : swapsWith e none pos.line c.env = pure false := by rfl) :
    W c FR (exec (.Expr e pos) c.env) QF X lo ob := fun z s n =>
  wpAny_Expr (wpAny_mono (h z s n) (fun ca s' ⟨a, lo, ob, ha, n, h⟩ => by
    obtain ⟨hp, h⟩ := h
    have hq : LQ c z FR QF Flow.next s' := ⟨AF.next, lo, ob, rfl, n, h⟩
    cases a with
    | ref a => cases hp
    | cv v => cases hp
    | none => cases ha; exact hq
    | bool b => cases ha; exact hq
    | int i => obtain ⟨t, rfl⟩ := ha; exact hq
    | str l => obtain ⟨t, rfl⟩ := ha; exact hq
    | bytes l => obtain ⟨_, t, rfl, _⟩ := ha; exact hq) fun _ _ x => x) hi hs

theorem min_ints {i j : Int} (hh : c.B.handled = none) (h : Q (.int (min i j)) lo ob) : Cal c (.cv (.builtin "min")) [.int i, .int j] Q X lo ob := by
  rintro _ cs rfl hv z s n0
  obtain ⟨_, _, rfl, ⟨t, rfl⟩, u, rfl⟩ := VRs2 hv
  obtain ⟨m, os, frs, n⟩ := n0
  refine min_two_N hh n.F n.N fun h' tk F' N' => ?_
  have e : (if j < i then j else i) = min i j := by omega
  rw [e]
  exact LQ.int ⟨m, os, frs, n.go (s' := { s with heap := h', toks := tk }) F' N'⟩ h

/- texts, so many times -/
theorem mul_tx {l : List Nat} {i : Int} : Txt.mul (tx l) i = tx (List.replicate i.toNat l).flatten := by
  have key : ∀ (n : Nat) (acc : Array Nat), (List.replicate n (tx l).cps).foldl (· ++ ·) acc = acc ++ (List.replicate n l).flatten.toArray := by
    intro n
    induction n with
    | zero => intro acc; simp
    | succ n ih =>
      intro acc
      rw [List.replicate_succ, List.foldl_cons, ih, List.replicate_succ, List.flatten_cons]
      simp [tx]
  unfold Txt.mul
  by_cases h1 : i < 1
  · rw [if_pos h1, show i.toNat = 0 by omega]; rfl
  · rw [if_neg h1]
    split
    · rename_i h2
      simp only [Bool.or_eq_true, beq_iff_eq, tx_length] at h2
      rcases h2 with rfl | h2
      · simp
      · rw [List.eq_nil_of_length_eq_zero h2]
        simp
    · have := key i.toNat #[]
      rw [this]
      simp [tx]
theorem mulOk_tx {l : List Nat} {i : Int} (h0 : 0 ≤ i) (h1 : i ≤ 1000) (hz : l.length ≤ 1000) : MulOk (tx l) i :=
  mulOk_of 1000 1000 (by rw [tx_length]; exact hz) h1 (by omega) (by decide) (by decide)
theorem mul_int_str {l : List Nat} {i : Int} (h0 : 0 ≤ i) (h1 : i ≤ 1000) (hz : l.length ≤ 1000) (h : Q (.str (List.replicate i.toNat l).flatten) lo ob) : Bin c .Mult (.int i) (.str l) Q X lo ob := by
  rintro _ _ ⟨t, rfl⟩ ⟨u, rfl⟩ z s n
  have hok := mulOk_tx h0 h1 hz
  refine lm_binaryOp_repeat_right (T := "str") (U := "int") (by decide) (fun s' => typeIs_int s' i t) (typeIs_str s (tx l) u) F.fills_int_mul noFill_str_mul F.slot_int_mul lm_noRepeat_int repeat_str F.slot_int_index.lookup
    (call_gives F.slot_int_mul (typeIs_int s i t) F.entry_int_mul (F.args_int_mul_2 _ _) (AutoIntG3.int___mul___int_str_0 i t (tx l) u)
      ⟨rfl, typeIs_str s (tx l) u, call_gives F.slot_str_mul (typeIs_str s (tx l) u) F.entry_str_mul (F.args_str_mul_2 _ _) (gives_str_mul (tx l) i u t hok.1 hok.2.1 hok.2.2) ?_⟩)
  have hq : ∀ t' k, LQ c z VR Q (.str (Txt.mul (tx l) i) t') { s with toks := k } := fun t' k => by rw [mul_tx]; exact LQ.str (n.toks rfl) h
  unfold Txt.mul at hq
  by_cases h1 : i < 1
  · rw [if_pos h1]; have h' := hq s.toks (s.toks + 1); rw [if_pos h1] at h'; exact ⟨by decide, h'⟩
  · rw [if_neg h1]; refine post_val_or_made (fun hc => fits_reps (hok.2.2 h1 (by simpa using hc))) fun t' k => ?_
    have h' := hq t' k; rw [if_neg h1] at h'; exact h'

/- strip from behind -/
def rstr (l : List Nat) (k : Nat) : List Nat := l.take (l.length - (l.reverse.takeWhile (· == k)).length)
theorem rstr_tx {l : List Nat} {k : Nat} : Txt.rstripChars (tx l) (tx [k]) = tx (rstr l k) := by
  have e : (fun x => (tx [k]).cps.contains x) = (· == k) := by
    funext x
    simp [tx, BEq.beq]
  have hs : Builtin.Str.strSub (tx l) 0 (stripHi (tx [k]).cps.contains true (tx l) 0) = tx (rstr l k) := by
    unfold stripHi Builtin.Str.strSub rstr
    simp only [if_true, List.drop_zero]
    have e1 : (tx l).cps.toList = l := by simp [tx]
    have e2 : (l.reverse.takeWhile (tx [k]).cps.contains) = l.reverse.takeWhile (· == k) := by
      congr 1
    rw [e1, e2, tx_length]
    simp [tx]
  unfold Txt.rstripChars Txt.stripBy stripSame PySem.stripped stripLo
  simp only [Bool.false_eq_true, if_false, beq_self_eq_true, Bool.true_and]
  rw [hs]
  split
  · rename_i h
    have h := eq_of_beq h
    rw [h] at hs
    rw [← hs]
    simp [Builtin.Str.strSub, Str.length]
  · rfl
theorem rstrip_1 {l : List Nat} {k : Nat} (hz : l.length ≤ 100000) (h : Q (.str (rstr l k)) lo ob) : Cal c (.cv (.builtin "str.rstrip")) [.str l, .str [k]] Q X lo ob := by
  rintro _ cs rfl hv z s n
  obtain ⟨_, _, rfl, ⟨t, rfl⟩, u, rfl⟩ := VRs2 hv
  refine SC.rstripChars (fun t' k' => ?_) (by rw [tx_length, sizeLine_eq]; omega)
  rw [rstr_tx]
  exact LQ.str (n.toks rfl) h

/- equality at any depth -/
def EqD (c : Cx) (ob : Obs) (k : Nat) (v w : V) (r : Bool) : Prop := ∀ z lo s, Now c z lo ob s → ∀ A : Around, A.units + k < cLine → ∀ cv cw, VR v cv → VR w cw → PySem.SeqAt.EqAt A s cv cw r
def EqDs (c : Cx) (ob : Obs) (k : Nat) (vs ws : List V) (r : Bool) : Prop := (vs.length ≠ ws.length → r = false) ∧ ∃ e : Nat → Bool, (∀ (j : Nat) v w, vs[j]? = some v → ws[j]? = some w → EqD c ob k v w (e j)) ∧ (vs.length = ws.length → (List.range vs.length).all e = r)
variable {k : Nat} {v w : V} {r r' : Bool}
theorem eqds_nil : EqDs c ob k [] [] true := ⟨fun h => absurd rfl h, fun _ => true, fun j v w h => by simp at h, fun _ => rfl⟩
theorem eqds_left : EqDs c ob k (v :: vs) [] false := ⟨fun _ => rfl, fun _ => false, fun j v w _ h => by simp at h, fun h => by simp at h⟩
theorem eqds_right : EqDs c ob k [] (w :: ws) false := ⟨fun _ => rfl, fun _ => false, fun j v w h => by simp at h, fun h => by simp at h⟩
theorem eqds_cons (h : EqD c ob k v w r) (hr : EqDs c ob k vs ws r') : EqDs c ob k (v :: vs) (w :: ws) (r && r') := by
  obtain ⟨h0, e, h1, h2⟩ := hr
  refine ⟨fun hn => ?_, fun j => match j with | 0 => r | j + 1 => e j, fun j v' w' h3 h4 => ?_, fun hl => ?_⟩
  · rw [h0 (fun e => hn (by simp [e]))]; simp
  · cases j with
    | zero => simp at h3 h4; subst h3 h4; exact h
    | succ j => exact h1 j v' w' (by simpa using h3) (by simpa using h4)
  · rw [List.length_cons, List.range_succ_eq_map, List.all_cons, List.all_map, ← h2 (by simpa using hl)]
    rfl
theorem eqds_at {cs ds : List Value} (h : EqDs c ob k vs ws r) (h1 : VRs vs cs) (h2 : VRs ws ds) {z : List (Addr × Obj)} {s : Shared} (n : Now c z lo ob s) {A : Around} (hu : A.units + k < cLine) :
    (cs.toArray.size ≠ ds.toArray.size → r = false) ∧ ∃ e : Nat → Bool, (∀ j (h1 : j < cs.toArray.size) (h2 : j < ds.toArray.size), PySem.SeqAt.EqAt A s cs.toArray[j] ds.toArray[j] (e j)) ∧ (cs.toArray.size = ds.toArray.size → (List.range cs.toArray.size).all e = r) := by
  have e1 := h1.length
  have e2 := h2.length
  obtain ⟨h0, e, g1, g2⟩ := h
  refine ⟨fun hn => h0 (by simpa [e1, e2] using hn), e, fun j j1 j2 => ?_, fun hl => by rw [List.size_toArray, ← e1]; exact g2 (by simpa [e1, e2] using hl)⟩
  obtain ⟨v, q1, q2⟩ := h1.get' j cs[j] (List.getElem?_eq_getElem (by simpa using j1))
  obtain ⟨w, q3, q4⟩ := h2.get' j ds[j] (List.getElem?_eq_getElem (by simpa using j2))
  simpa using g1 j v w q1 q3 z lo s n A hu _ _ q2 q4
theorem tup_at (hm : (a, .tup vs) ∈ ob) {z : List (Addr × Obj)} {s : Shared} (n : Now c z lo ob s) : ∃ cs, s.heap.IsTuple a cs.toArray ∧ VRs vs cs := by
  obtain ⟨m, os, frs, n⟩ := n
  obtain ⟨o, _, _, ha, hc, cs, k, hd, hr⟩ := n.mem hm
  exact ⟨cs, ⟨o, ha, hc, k, hd⟩, hr⟩
theorem tup_all {e : Nat → Bool} {x y : Nat} (h1 : x ≠ y → r = false) (h2 : x = y → (List.range x).all e = r) : ((List.range (min x y)).all e && x == y) = r := by
  by_cases q : x = y
  · subst q; simp [h2 rfl]
  · have : (x == y) = false := by simpa using q
    rw [this, Bool.and_false, h1 q]
theorem rc_tups (ha : (a, .tup vs) ∈ ob) (hb : (b, .tup ws) ∈ ob) (h : EqDs c ob k vs ws r) {z : List (Addr × Obj)} {s : Shared} (n : Now c z lo ob s) {A : Around} (hu : A.units + (k + 1) < cLine) :
    PySem.SeqAt.RcAt A s (.ref a) (.ref b) r ∧ PySem.SeqAt.RcNeAt A s (.ref a) (.ref b) (!r) := by
  obtain ⟨cs, h1, r1⟩ := tup_at ha n
  obtain ⟨ds, h2, r2⟩ := tup_at hb n
  have hin : A.in1.units = A.units + 1 := rfl
  obtain ⟨g1, e, g3, g4⟩ := eqds_at h r1 r2 n (A := A.in1) (by rw [hin]; omega)
  rw [← tup_all g1 g4]
  exact ⟨PySem.SeqAt.RcAt.tuples h1 h2 (by omega) g3, PySem.SeqAt.RcNeAt.tuples h1 h2 (by omega) g3⟩
theorem ne_tups (ok : c.Ok) (ha : (a, .tup vs) ∈ ob) (hb : (b, .tup ws) ∈ ob) (h : EqDs c ob 50 vs ws r) (hq : Q (.bool (!r)) lo ob) : Cmp c .NotEq (.ref a) (.ref b) Q X lo ob := by
  rintro _ _ rfl rfl z s n
  exact (rc_tups ha hb h n (A := c.B) (by have := ok.un; omega)).2 _ _ _ _ (LQ.bool n hq)
/- the parts -/
theorem eqd_int {i j : Int} : EqD c ob k (.int i) (.int j) (decide (i = j)) := by
  rintro z lo s n A hu _ _ ⟨t, rfl⟩ ⟨u, rfl⟩
  have e : decide (i = j) = (i == j) := by by_cases q : i = j <;> simp [q]
  rw [e]; exact PySem.SeqAt.EqAt.int_int i t j u
theorem eqd_str {x y : List Nat} : EqD c ob k (.str x) (.str y) (decide (x = y)) := by
  rintro z lo s n A hu _ _ ⟨t, rfl⟩ ⟨u, rfl⟩
  rw [← tx_beq]; exact PySem.SeqAt.EqAt.str_str _ t _ u
theorem eqd_nn : EqD c ob k .none .none true := by rintro z lo s n A hu _ _ rfl rfl; exact PySem.SeqAt.EqAt.same _
theorem eqd_ns {y : List Nat} : EqD c ob k .none (.str y) false := by rintro z lo s n A hu _ _ rfl ⟨u, rfl⟩; exact PySem.SeqAt.EqAt.none_str _ u
theorem eqd_sn {y : List Nat} : EqD c ob k (.str y) .none false := by rintro z lo s n A hu _ _ ⟨u, rfl⟩ rfl; exact PySem.SeqAt.EqAt.str_none _ u
theorem eqd_ov {x y : Option (List Nat)} : EqD c ob k (ovV x) (ovV y) (decide (x = y)) := by
  cases x <;> cases y
  · exact eqd_nn
  · exact eqd_ns
  · exact eqd_sn
  · rename_i x y
    rw [show decide (some x = some y) = decide (x = y) by simp]
    exact eqd_str
theorem br_eq_self {α : Sort _} {x : α} {d : Decidable (x = x)} {P P' : Prop} (h : P) : Br (@decide (x = x) d) P P' := ⟨fun _ => h, fun e => absurd rfl (of_decide_eq_false e)⟩
theorem br_ne_self {α : Sort _} {x : α} {d : Decidable (x ≠ x)} {P P' : Prop} (h : P') : Br (@decide (x ≠ x) d) P P' := ⟨fun e => absurd rfl (of_decide_eq_true e), fun _ => h⟩
/-- a conjunction's ways -/
theorem br_and {p q : Bool} {P P' : Prop} (h : Br p (Br q P P') P') : Br (p && q) P P' := by
  cases p
  · exact br_f (h.2 rfl)
  · rw [Bool.true_and]; exact h.1 rfl
end
/-- a prefix of objects is forgotten -/
theorem Picks.drop {p : Addr × Ob} {f s o : Obs} (h : Picks f s o) : Picks (p :: f) s (p :: o) := by
  induction h with
  | nil => exact .nil
  | cons a _ ih => exact .cons (.tail a) ih
/-- these objects are there -/
def Pk (f s : Obs) : Prop := ∃ d, Picks f s d
theorem Pk.all {f : Obs} : Pk f f := ⟨_, Picks.all⟩
theorem Pk.nil {f : Obs} : Pk f [] := ⟨_, Picks.nil⟩
theorem Pk.cons {p : Addr × Ob} {f f' s : Obs} (a : Pick p f f') (h : Pk f' s) : Pk f (p :: s) := by
  obtain ⟨d, h⟩ := h
  exact ⟨d, .cons a h⟩
theorem Pk.drop {p : Addr × Ob} {f s : Obs} (h : Pk f s) : Pk (p :: f) s := by
  obtain ⟨d, h⟩ := h
  exact ⟨_, h.drop⟩
theorem wkn_pk {P : Loc → Obs → Prop} {lo lo2 : Loc} {ob ob2 : Obs} (h1 : LoS lo lo2) (h2 : Pk ob ob2) (h : P lo2 ob2) : Wkn P lo ob := by
  obtain ⟨d, h2⟩ := h2
  exact ⟨lo2, ob2, d, h1, h2, h⟩
theorem eqs_ov_t {a b : Option (List Nat)} (h : a = b) : Eqs (ovV a) (ovV b) true := fun {c} {Q} {X} {lo} {ob} hq => eqs_ov a b (by rw [decide_eq_true h]; exact hq)
theorem eqs_ov_f {a b : Option (List Nat)} (h : ¬ a = b) : Eqs (ovV a) (ovV b) false := fun {c} {Q} {X} {lo} {ob} hq => eqs_ov a b (by rw [decide_eq_false h]; exact hq)
theorem eqs_int_t {a b : Int} (h : a = b) : Eqs (.int a) (.int b) true := fun {c} {Q} {X} {lo} {ob} hq => Mine.eq_ints (by rw [decide_eq_true h]; exact hq)
theorem eqs_int_f {a b : Int} (h : ¬ a = b) : Eqs (.int a) (.int b) false := fun {c} {Q} {X} {lo} {ob} hq => Mine.eq_ints (by rw [decide_eq_false h]; exact hq)
end Mine
end
section
open PySem PySem.W PySem.Calls PySem.Spec PyProof.Rows
set_option Elab.async false
set_option maxRecDepth 100000
set_option linter.unusedVariables false
namespace Mine

theorem runAt_zero {l : List Nat} {p c : Nat} (h : l[p]? = some c) (hc : c ≠ 92) : runAt l (p + 1) = 0 := by
  unfold runAt
  rw [h, if_neg (by simpa using hc)]
theorem runAt_more {l : List Nat} {p : Nat} (h : l[p]? = some 92) : runAt l (p + 1) = runAt l p + 1 := by
  conv => lhs; unfold runAt
  rw [h, if_pos rfl]
def wto (l mk : List Nat) (n : Nat) : List (List Nat) × Nat := (startsTo l n).foldl (wstep l mk) ([], 0)
theorem wto_yes {l mk : List Nat} {n : Nat} (h : runAt l n % 2 = 0) : wto l mk (n + 1) = wstep l mk (wto l mk n) n := by
  unfold wto
  rw [startsTo_yes h, List.foldl_append]
  rfl
theorem wto_no {l mk : List Nat} {n : Nat} (h : runAt l n % 2 ≠ 0) : wto l mk (n + 1) = wto l mk n := by
  unfold wto
  rw [startsTo_no h]
theorem sign_shape {l : List Nat} {i j : Nat} {s : List Nat} (h : nxt l i = some (j, some s)) : (∃ c, c ≠ 92 ∧ s = [c] ∧ l[i]? = some c ∧ j = i + 1) ∨ ∃ d, s = [92, d] ∧ l[i]? = some 92 ∧ l[i + 1]? = some d ∧ j = i + 2 := by
  unfold nxt at h
  cases h1 : l[i]? with
  | none => rw [h1] at h; cases h
  | some c =>
    rw [h1] at h
    dsimp only at h
    by_cases hc : c = 92
    · rw [if_pos hc] at h
      cases h2 : l[i + 1]? with
      | none => rw [h2] at h; cases h
      | some d => rw [h2] at h; cases h; subst hc; exact .inr ⟨d, rfl, rfl, rfl, rfl⟩
    · rw [if_neg hc] at h; cases h; exact .inl ⟨c, hc, rfl, rfl, rfl⟩
/-- behind a sign: the next one's start, and the fold -/
theorem sign_next {l mk : List Nat} {i j : Nat} {s : List Nat} (h : nxt l i = some (j, some s)) (hr : runAt l i % 2 = 0) : runAt l j % 2 = 0 ∧ wto l mk j = wstep l mk (wto l mk i) i := by
  rcases sign_shape h with ⟨c, hc, rfl, h1, rfl⟩ | ⟨d, rfl, h1, h2, rfl⟩
  · exact ⟨by rw [runAt_zero h1 hc], wto_yes hr⟩
  · have e1 : runAt l (i + 1) = runAt l i + 1 := runAt_more h1
    have hodd : runAt l (i + 1) % 2 ≠ 0 := by omega
    refine ⟨?_, ?_⟩
    · by_cases hd : d = 92
      · subst hd
        rw [show i + 2 = (i + 1) + 1 from rfl, runAt_more h2]
        omega
      · rw [show i + 2 = (i + 1) + 1 from rfl, runAt_zero h2 hd]
    · rw [show i + 2 = (i + 1) + 1 from rfl, wto_no hodd, wto_yes hr]
end Mine
end
section
open PySem PySem.W PySem.Calls PySem.Spec PyProof.Rows
set_option Elab.async false
set_option maxRecDepth 100000
set_option linter.unusedVariables false
namespace Mine

/-- k signs in front are the same -/
def Pre (l m : List Nat) (k : Nat) : Prop := k ≤ l.length ∧ k ≤ m.length ∧ ∀ i, i < k → l[i]? = m[i]?
theorem Pre.zero {l m : List Nat} : Pre l m 0 := ⟨Nat.zero_le _, Nat.zero_le _, fun i h => absurd h (Nat.not_lt_zero _)⟩
/-- and no more -/
def Most (l m : List Nat) (k : Nat) : Prop := Pre l m k ∧ ∀ c, l[k]? = some c → m[k]? ≠ some c
theorem pre_step {l m : List Nat} {k c d : Nat} (h : Pre l m k) (h1 : l[((k : Nat) : Int).toNat]? = some c) (h2 : m[((k : Nat) : Int).toNat]? = some d) (e : [c] = [d]) : Pre l m (k + 1) := by
  simp only [Int.toNat_natCast] at h1 h2
  cases e
  refine ⟨(List.getElem?_eq_some_iff.mp h1).1, (List.getElem?_eq_some_iff.mp h2).1, fun i hi => ?_⟩
  by_cases q : i = k
  · subst q; rw [h1, h2]
  · exact h.2.2 i (by omega)
theorem most_stop {l m : List Nat} {k c d : Nat} (h : Pre l m k) (h1 : l[((k : Nat) : Int).toNat]? = some c) (h2 : m[((k : Nat) : Int).toNat]? = some d) (e : ¬ [c] = [d]) : Most l m k := by
  simp only [Int.toNat_natCast] at h1 h2
  refine ⟨h, fun x hx hy => e ?_⟩
  rw [h1] at hx; rw [h2] at hy
  cases hx; cases hy; rfl
theorem most_end {l m : List Nat} {k : Nat} (h : Pre l m k) (e : ¬ ((k : Nat) : Int) < min (l.length : Int) (m.length : Int)) : Most l m k := by
  refine ⟨h, fun x hx hy => e ?_⟩
  have h1 := (List.getElem?_eq_some_iff.mp hx).1
  have h2 := (List.getElem?_eq_some_iff.mp hy).1
  omega
theorem pre_lt {l m : List Nat} {k : Nat} (h : ((k : Nat) : Int) < min (l.length : Int) (m.length : Int)) : k < l.length ∧ k < m.length := by omega
theorem get_none {l : List Nat} {k : Nat} (hk : k < l.length) (h : l[((k : Nat) : Int).toNat]? = none) : False := by
  rw [List.getElem?_eq_none_iff] at h
  omega
theorem rstr_run {l : List Nat} : ∀ {k : Nat}, k ≤ l.length → (rstr (l.take k) 92).length = k - runAt l k ∧ runAt l k ≤ k := by
  intro k
  have key : ∀ k, k ≤ l.length → ((l.take k).reverse.takeWhile (· == 92)).length = runAt l k := by
    intro k
    induction k with
    | zero => intro _; simp [runAt]
    | succ k ih =>
      intro hk
      obtain ⟨c, hc⟩ : ∃ c, l[k]? = some c := ⟨_, List.getElem?_eq_getElem (by omega)⟩
      have e : l.take (k + 1) = l.take k ++ [c] := by rw [List.take_succ, hc]; rfl
      rw [e, List.reverse_append]
      unfold runAt
      rw [hc]
      by_cases q : c = 92
      · subst q
        simp [ih (by omega)]
      · simp [q]
  have bound : ∀ k, runAt l k ≤ k := by
    intro k
    induction k with
    | zero => exact Nat.le_refl _
    | succ k ih => unfold runAt; split <;> omega
  intro hk
  refine ⟨?_, bound k⟩
  unfold rstr
  rw [List.length_take, key k hk, List.length_take]
  omega
/-- the place that the law reckons -/
theorem end_of {l : List Nat} {k : Nat} (hk : k ≤ l.length) : ((k : Nat) : Int) - (((k : Nat) : Int) - ((rstr (l.take ((k : Nat) : Int).toNat) 92).length : Int)).fmod 2 = ((k - runAt l k % 2 : Nat) : Int) := by
  rw [Int.fmod_eq_emod_of_nonneg _ (by decide), Int.toNat_natCast, (rstr_run hk).1]
  have := (rstr_run (l := l) hk).2
  omega
theorem pre_next {l m : List Nat} {k pos : Nat} (h : Pre l m k) (h2 : pos + 2 ≤ k ∨ (pos + 1 ≤ k ∧ l[pos]? ≠ some 92)) : nxt l pos = nxt m pos := by
  unfold nxt
  have e1 : l[pos]? = m[pos]? := h.2.2 pos (by omega)
  rw [← e1]
  rcases h2 with h2 | ⟨h2, h3⟩
  · have e2 : l[pos + 1]? = m[pos + 1]? := h.2.2 (pos + 1) (by omega)
    rw [← e2]
  · cases hl : l[pos]? with
    | none => rfl
    | some c =>
      have : c ≠ 92 := fun q => h3 (by rw [hl, q])
      dsimp only
      rw [if_neg this, if_neg this]
/-- both readers stand at a place where a sign begins, ahead of the first parting -/
def Both (l m : List Nat) (k pos : Nat) : Prop := pos ≤ k ∧ runAt l pos % 2 = 0
theorem both_stop {l m : List Nat} {k pos j j2 : Nat} {s : List Nat} {o2 : Option (List Nat)} (hm : Most l m k) (hb : Both l m k pos) (h1 : nxt l pos = some (j, some s)) (h2 : nxt m pos = some (j2, o2)) (hne : ¬ some s = o2) : k - runAt l k % 2 = pos := by
  obtain ⟨hp, hr⟩ := hb
  by_cases q : k = pos
  · subst q; omega
  · rcases sign_shape h1 with ⟨c, hc, rfl, g1, rfl⟩ | ⟨d, rfl, g1, g2, rfl⟩
    · exfalso
      have := pre_next hm.1 (pos := pos) (.inr ⟨by omega, by rw [g1]; simpa using hc⟩)
      rw [h1, h2] at this
      cases this; exact hne rfl
    · by_cases q2 : k = pos + 1
      · subst q2
        rw [runAt_more g1]
        omega
      · exfalso
        have := pre_next hm.1 (pos := pos) (.inl (by omega))
        rw [h1, h2] at this
        cases this; exact hne rfl
theorem both_end {l m : List Nat} {k pos j : Nat} (hm : Most l m k) (hb : Both l m k pos) (h1 : nxt l pos = some (j, none)) : k - runAt l k % 2 = pos := by
  obtain ⟨hp, hr⟩ := hb
  have := nxt_none h1
  have := hm.1.1
  have e : k = pos := by omega
  subst e; omega
theorem both_next {l m : List Nat} {k pos j j2 : Nat} {s : List Nat} (hm : Most l m k) (hb : Both l m k pos) (h1 : nxt l pos = some (j, some s)) (h2 : nxt m pos = some (j2, some s)) : j = j2 ∧ Both l m k j := by
  obtain ⟨hp, hr⟩ := hb
  have g1 := nxt_sign h1
  have g2 := nxt_sign h2
  have e : j = j2 := by omega
  refine ⟨e, ?_, (sign_next (mk := []) h1 hr).1⟩
  false_or_by_contra
  rename_i hk
  have hlt : k < l.length := by omega
  have hlt2 : k < m.length := by omega
  have a1 : l[k]? = (s)[k - pos]? := by
    rw [g1.2.2.2.2.2.1, List.getElem?_take, if_pos (by omega), List.getElem?_drop]
    congr 1; omega
  have a2 : m[k]? = (s)[k - pos]? := by
    rw [g2.2.2.2.2.2.1, List.getElem?_take, if_pos (by omega), List.getElem?_drop]
    congr 1; omega
  exact hm.2 l[k] (List.getElem?_eq_getElem hlt) (by rw [a2, ← a1]; exact List.getElem?_eq_getElem hlt)
theorem both_zero {l m : List Nat} {k : Nat} : Both l m k 0 := ⟨Nat.zero_le _, rfl⟩
/-- how far a reader's place is behind its next sign's begin -/
theorem tell_some {l : List Nat} {pos j : Nat} {s : List Nat} (h : nxt l pos = some (j, some s)) : ((j : Nat) : Int) - (s.length : Int) = ((pos : Nat) : Int) := by
  have := nxt_sign h
  omega
theorem tell_none {l : List Nat} {pos j : Nat} (h : nxt l pos = some (j, none)) : ((j : Nat) : Int) - (([] : List Nat).length : Int) = ((pos : Nat) : Int) := by
  have := nxt_none h
  simp; omega
theorem nxt_le {l : List Nat} {i j : Nat} {o : Option (List Nat)} (h : nxt l i = some (j, o)) (hi : i ≤ 1000) : j ≤ 1002 := by
  cases o with
  | none => have := nxt_none h; omega
  | some s => have := nxt_sign h; omega
end Mine
end
section
open PySem PySem.W PyProof.Rows PySem.Spec PySem.Calls
set_option Elab.async false
set_option linter.unusedVariables false
set_option pp.maxSteps 600
namespace Mine
set_option maxRecDepth 100000
set_option maxHeartbeats 4000000
structure GK (g : G) : Prop where
  hp : g.prog = PySem.Challenge.rw_kq0017_11.row.prog
  hK : g.K = Mine.hd.heap_39 g.w.params
  tk : TkF g 133 58 [Str.ofString "istext", Str.ofString "string", Str.ofString "decoded_string", Str.ofString "index", Str.ofString "next"] [(Str.ofString "_Tokenizer__next", 65), (Str.ofString "match", 72), (Str.ofString "get", 79), (Str.ofString "tell", 108)] [(Str.ofString "Tokenizer", 133), (Str.ofString "_law_octets", 142)] [(Str.ofString "isinstance", .builtin "isinstance"), (Str.ofString "str", .type "str"), (Str.ofString "IndexError", .type "IndexError"), (Str.ofString "len", .builtin "len"), (Str.ofString "range", .type "range"), (Str.ofString "ord", .builtin "ord"), (Str.ofString "bytes", .type "bytes"), (Str.ofString "min", .builtin "min")]
  ex0 : exmOne g.K (.type "IndexError") (.type "IndexError") = some true
theorem gk : ∀ (g : G), g.prog = PySem.Challenge.rw_kq0017_11.row.prog → g.K = Mine.hd.heap_39 g.w.params → GK g := by
  have key : ∀ (g : G), g.prog = PySem.Challenge.rw_kq0017_11.row.prog → g.K = Mine.hd.heap_39 g.w.params → (plainGet g.K 133 (Str.ofString "istext") = true
   ∧ findIn g.K (.ref 133) (Str.ofString "istext") = some none
   ∧ takerIn g.K 133 (Str.ofString "istext") = some none
   ∧ plainGet g.K 133 (Str.ofString "string") = true
   ∧ findIn g.K (.ref 133) (Str.ofString "string") = some none
   ∧ takerIn g.K 133 (Str.ofString "string") = some none
   ∧ plainGet g.K 133 (Str.ofString "decoded_string") = true
   ∧ findIn g.K (.ref 133) (Str.ofString "decoded_string") = some none
   ∧ takerIn g.K 133 (Str.ofString "decoded_string") = some none
   ∧ plainGet g.K 133 (Str.ofString "index") = true
   ∧ findIn g.K (.ref 133) (Str.ofString "index") = some none
   ∧ takerIn g.K 133 (Str.ofString "index") = some none
   ∧ plainGet g.K 133 (Str.ofString "next") = true
   ∧ findIn g.K (.ref 133) (Str.ofString "next") = some none
   ∧ takerIn g.K 133 (Str.ofString "next") = some none
   ∧ plainGet g.K 133 (Str.ofString "_Tokenizer__next") = true
   ∧ findIn g.K (.ref 133) (Str.ofString "_Tokenizer__next") = some (some (.ref 65))
   ∧ isFn g.K (.ref 65) = true
   ∧ keepIn g.K (.ref 65) = true
   ∧ plainGet g.K 133 (Str.ofString "match") = true
   ∧ findIn g.K (.ref 133) (Str.ofString "match") = some (some (.ref 72))
   ∧ isFn g.K (.ref 72) = true
   ∧ keepIn g.K (.ref 72) = true
   ∧ plainGet g.K 133 (Str.ofString "get") = true
   ∧ findIn g.K (.ref 133) (Str.ofString "get") = some (some (.ref 79))
   ∧ isFn g.K (.ref 79) = true
   ∧ keepIn g.K (.ref 79) = true
   ∧ plainGet g.K 133 (Str.ofString "tell") = true
   ∧ findIn g.K (.ref 133) (Str.ofString "tell") = some (some (.ref 108))
   ∧ isFn g.K (.ref 108) = true
   ∧ keepIn g.K (.ref 108) = true
   ∧ nsIn g.K mainGlobals (Str.ofString "Tokenizer") = some (some (.ref 133))
   ∧ keepIn g.K (.ref 133) = true
   ∧ nsIn g.K mainGlobals (Str.ofString "_law_octets") = some (some (.ref 142))
   ∧ keepIn g.K (.ref 142) = true
   ∧ nsIn g.K mainGlobals (Str.ofString "isinstance") = some none
   ∧ nsIn g.K mainGlobals (Str.ofString "str") = some none
   ∧ nsIn g.K mainGlobals (Str.ofString "IndexError") = some none
   ∧ nsIn g.K mainGlobals (Str.ofString "len") = some none
   ∧ nsIn g.K mainGlobals (Str.ofString "range") = some none
   ∧ nsIn g.K mainGlobals (Str.ofString "ord") = some none
   ∧ nsIn g.K mainGlobals (Str.ofString "bytes") = some none
   ∧ nsIn g.K mainGlobals (Str.ofString "min") = some none
   ∧ noGet g.K none = true
   ∧ hasDictIn g.K 133 = true
   ∧ findIn g.K (.ref 133) "__setattr__" = some (some (.builtin "object.__setattr__"))
   ∧ plainOver g.K 133 = true
   ∧ makesIn g.K 133 = true
   ∧ findIn g.K (.ref 133) "__init__" = some (some (.ref 58))
   ∧ isFn g.K (.ref 58) = true
   ∧ exmOne g.K (.type "IndexError") (.type "IndexError") = some true) := by
    k_fill
    intro g hp hK
    rw [hK]
    refine ⟨?_, ?_, ?_, ?_, ?_, ?_, ?_, ?_, ?_, ?_, ?_, ?_, ?_, ?_, ?_, ?_, ?_, ?_, ?_, ?_, ?_, ?_, ?_, ?_, ?_, ?_, ?_, ?_, ?_, ?_, ?_, ?_, ?_, ?_, ?_, ?_, ?_, ?_, ?_, ?_, ?_, ?_, ?_, ?_, ?_, ?_, ?_, ?_, ?_, ?_, ?_⟩
    all_goals first | k_is | kts_exm
  intro g hp hK
  obtain ⟨k0, k1, k2, k3, k4, k5, k6, k7, k8, k9, k10, k11, k12, k13, k14, k15, k16, k17, k18, k19, k20, k21, k22, k23, k24, k25, k26, k27, k28, k29, k30, k31, k32, k33, k34, k35, k36, k37, k38, k39, k40, k41, k42, k43, k44, k45, k46, k47, k48, k49, k50⟩ := key g hp hK
  exact ⟨hp, hK, ⟨List.forall_mem_cons.mpr ⟨⟨k0, k1, k2⟩, List.forall_mem_cons.mpr ⟨⟨k3, k4, k5⟩, List.forall_mem_cons.mpr ⟨⟨k6, k7, k8⟩, List.forall_mem_cons.mpr ⟨⟨k9, k10, k11⟩, List.forall_mem_cons.mpr ⟨⟨k12, k13, k14⟩, fun _ h => nomatch h⟩⟩⟩⟩⟩, List.forall_mem_cons.mpr ⟨⟨k15, k16, k17, k18⟩, List.forall_mem_cons.mpr ⟨⟨k19, k20, k21, k22⟩, List.forall_mem_cons.mpr ⟨⟨k23, k24, k25, k26⟩, List.forall_mem_cons.mpr ⟨⟨k27, k28, k29, k30⟩, fun _ h => nomatch h⟩⟩⟩⟩, List.forall_mem_cons.mpr ⟨⟨k31, k32, by decide⟩, List.forall_mem_cons.mpr ⟨⟨k33, k34, by decide⟩, fun _ h => nomatch h⟩⟩, List.forall_mem_cons.mpr ⟨⟨k35, by first | exact PyProof.Rows.Boot.«isinstance» | boot_fast, by decide, by decide⟩, List.forall_mem_cons.mpr ⟨⟨k36, by first | exact PyProof.Rows.Boot.«str» | boot_fast, by decide, by decide⟩, List.forall_mem_cons.mpr ⟨⟨k37, by first | exact PyProof.Rows.Boot.«IndexError» | boot_fast, by decide, by decide⟩, List.forall_mem_cons.mpr ⟨⟨k38, by first | exact PyProof.Rows.Boot.«len» | boot_fast, by decide, by decide⟩, List.forall_mem_cons.mpr ⟨⟨k39, by first | exact PyProof.Rows.Boot.«range» | boot_fast, by decide, by decide⟩, List.forall_mem_cons.mpr ⟨⟨k40, by first | exact PyProof.Rows.Boot.«ord» | boot_fast, by decide, by decide⟩, List.forall_mem_cons.mpr ⟨⟨k41, by first | exact PyProof.Rows.Boot.«bytes» | boot_fast, by decide, by decide⟩, List.forall_mem_cons.mpr ⟨⟨k42, by first | exact PyProof.Rows.Boot.«min» | boot_fast, by decide, by decide⟩, fun _ h => nomatch h⟩⟩⟩⟩⟩⟩⟩⟩, k43, k44, k45, k46, k47, k48, k49⟩, k50⟩
theorem run_outA {l : List Nat} {i c : Nat} (hi : i < l.length) (h2 : l[(0 + (i : Int) - (c : Int) - 1).toNat]? = none) : False := run_out hi h2
theorem lit0 : Str.ofString "" = tx [] := by decide +kernel
theorem lit1 : Str.ofString "\\" = tx [92] := by decide +kernel
theorem lit2 : Str.ofString "latin1" = tx [108, 97, 116, 105, 110, 49] := by decide +kernel
theorem lit3 : Str.ofString "ab\n" = tx [97, 98, 10] := by decide +kernel
theorem lit4 : Str.ofString "a" = tx [97] := by decide +kernel
theorem lit5 : Str.ofString "ba" = tx [98, 97] := by decide +kernel
theorem lit6 : Str.ofString "\\a" = tx [92, 97] := by decide +kernel
theorem next_F : ∀ {g : G} (HG : GK g) {t d : Addr} {it st : V} {l : List Nat} {iz : Int} {i : Nat} {nv : V} (hl : l.length ≤ 1000) (hi : i ≤ 2000) (hiz : iz = (i : Int)) {j : Nat} {o : Option (List Nat)} (hn : nxt l i = some (j, o)), FnE g 65 [.ref t] 1 false (.none) ([(t, .inst 133 d), (d, .dct (tokE it st l (j : Int) (ovV o)))]) ([(t, .inst 133 d), (d, .dct (tokE it st l iz nv))]) := by
  k_fill
  intro g HG t d it st l iz i nv hl hi hiz j o hn
  have H := HG.tk
  have hp := HG.hp
  have hK := HG.hK
  refine FnC.forget ?_
  refine' fn_intro (pn := [Str.ofString "self"]) (lo0 := [some (.ref t), none, none, none, none, none]) (X := fun _ _ _ => False) ?ho ?hcd ?hb ?hpn ?hlo ?hloc ?hnd ?hcell leaves_never ?h ?c1 ?c2 ?c3
  case ho => rw [hK]; k_is
  case hcd => rw [hK]; k_is
  case hb => intro s' cas' X' hv'; obtain ⟨c1', rfl, h1'⟩ := VRs1 hv'; exact BindsTo.of_eq rfl
  case hpn => decide
  case hlo => rfl
  case hloc => decide
  case hnd => decide
  case hcell => decide
  case h =>
    intro c ok hg henv hns hns' hcv hd hhq
    subst hg
    dsimp only at hns hns'
    have hh := hhq rfl
    subst hiz
    repeat' (first | ((with_reducible show Then _ _ _ _ _ _ _); first | ((with_reducible refine then_next ?_)) | ((with_reducible refine then_ret ?_))) | ((with_reducible show W _ FR (execs _ _) _ _ _ _); first | ((with_reducible refine S_cons ?_)) | ((with_reducible refine S_nil ?_))) | ((with_reducible show W _ VR (eval (Expr.Name _ _) _) _ _ _ _); first | ((with_reducible refine W_local (by (k_dflt (assumption)); done) (by (k_dflt (assumption)); done) (by (k_dflt (assumption)); done) (by (k_dflt ((with_reducible repeat (first | exact Has.here | apply Has.there)))); done) ?_))) | ((with_reducible show W _ VR (eval (Expr.Constant Const.none _ _) _) _ _ _ _); first | ((with_reducible refine W_none ?_))) | ((with_reducible show W _ VR (eval (Expr.Constant (Const.int _) _ _) _) _ _ _ _); first | ((with_reducible refine W_int ?_))) | ((with_reducible show W _ VR (eval (Expr.Constant (Const.str _) _ _) _) _ _ _ _); first | ((with_reducible refine W_str lit1 ?_))) | ((with_reducible show W _ VR (eval (Expr.Attribute _ _ _) _) _ _ _ _); first | (refine W_Attr ?_)) | ((with_reducible show W _ VR (eval (Expr.BinOp _ _ _ _) _) _ _ _ _); first | ((with_reducible refine W_BinOp ?_))) | ((with_reducible show W _ VR (eval (Expr.Subscript _ _ _) _) _ _ _ _); first | (refine W_Sub ?_)) | ((with_reducible show W _ FR (exec (Stmt.Assign [Expr.Name _ _] _ _) _) _ _ _ _); first | (refine S_Assign ?_)) | ((with_reducible show W _ FR (exec (Stmt.Assign [Expr.Attribute _ _ _] _ _) _) _ _ _ _); first | (refine S_AssignA ?_)) | ((with_reducible show W _ FR (exec (Stmt.If _ _ _ _) _) _ _ _ _); first | ((with_reducible refine S_If ?_))) | ((with_reducible show W _ FR (exec (Stmt.Return none _) _) _ _ _ _); first | ((with_reducible refine S_Return0 ?_))) | ((with_reducible show W _ FR (exec (Stmt.AugAssign (Expr.Name _ _) _ _ _) _) _ _ _ _); first | ((with_reducible refine S_Aug (by (k_dflt (assumption)); done) (by (k_dflt (assumption)); done) (by (k_dflt (assumption)); done) (by (k_dflt ((with_reducible repeat (first | exact Has.here | apply Has.there)))); done) ?_))) | ((with_reducible show W _ FR (exec (Stmt.Try _ _ _ _ _) _) _ _ _ _); first | (refine S_Try (by assumption) (by assumption) ?_)) | ((with_reducible show W _ BR (isTrue (Expr.Compare _ _ _ _) _ _) _ _ _ _); first | (refine T_Compare ?_)) | ((with_reducible show Op2 _ _ _ _ _ _ _ _); first | ((with_reducible refine add_ints ?_)) | ((with_reducible refine iadd_ints ?_)) | ((with_reducible refine eq_strs ?_)) | ((with_reducible refine iadd_strs (by (k_dflt ((first | assumption | omega | decide | (simp only [List.length_append, List.length_cons, List.length_nil, List.length_drop, List.length_take, List.length_map] at *; omega)))); done) ?_))) | ((with_reducible show Tru _ _ _ _ _ _); first | ((with_reducible refine tru_bool ?_))) | ((with_reducible show Br (decide _) _ _); first | (with_reducible refine br_dec ?_ ?_ <;> intro _)) | ((with_reducible show FnQ _ _ _ _); first | ((with_reducible refine fnq_ret ?_)) | ((with_reducible refine fnq_next ?_))) | ((with_reducible show Sto _ _ _ _ _ _ _); first | ((with_reducible refine Sto_local (by (k_dflt (assumption)); done) (by (k_dflt (assumption)); done) (by (k_dflt (assumption)); done) (by (k_dflt ((with_reducible repeat (first | exact Put.here | apply Put.there)))); done) ?_))) | ((with_reducible show GetA _ _ _ _ _ _ _); first | ((with_reducible refine geta_tk (by (k_dflt (assumption)); done) (by (k_dflt (assumption)); done) (by (k_dflt ((with_reducible_and_instances repeat (first | exact List.Mem.head _ | apply List.Mem.tail)))); done) (by (k_dflt ((with_reducible_and_instances repeat (first | exact List.Mem.head _ | apply List.Mem.tail)))); done) (by (k_dflt ((with_reducible_and_instances repeat (first | exact List.Mem.head _ | apply List.Mem.tail)))); done) (by (k_dflt ((with_reducible repeat (first | exact Ent.here | (apply Ent.there; (focus decide)))))); done) (by (k_dflt (first | exact rfl | exact handed_ovV _ | assumption)); done) ?_))) | ((with_reducible show SetA _ _ _ _ _ _ _ _); first | ((with_reducible refine seta_tk (by (k_dflt (assumption)); done) (by (k_dflt (assumption)); done) (by (k_dflt ((with_reducible_and_instances repeat (first | exact List.Mem.head _ | apply List.Mem.tail)))); done) (by (k_dflt ((with_reducible repeat (first | exact OUpd.head | apply OUpd.tail)))); done) (by (k_dflt ((with_reducible_and_instances repeat (first | exact List.Mem.head _ | apply List.Mem.tail)))); done) (by (k_dflt ((with_reducible repeat (first | exact EPut.here | exact EPut.nil | (apply EPut.there; (focus decide)))))); done) (by (k_dflt (exact Nat.le_of_ble_eq_true rfl)); done) ?_))) | ((with_reducible show Hdl _ _ _ _ _ _ _ _); first | ((with_reducible refine hdl_bltT (by (k_dflt (assumption)); done) (by (k_dflt (assumption)); done) (by (k_dflt ((with_reducible_and_instances repeat (first | exact List.Mem.head _ | apply List.Mem.tail)))); done) (by (k_dflt (assumption)); done) (by (k_dflt ((with_reducible repeat (first | exact InN.here | apply InN.there)))); done) (by (k_dflt ((with_reducible_and_instances repeat (first | exact List.Mem.head _ | apply List.Mem.tail)))); done) (by (k_dflt (first | exact GK.ex0 (by assumption))); done) ?_); intro _)) | ((with_reducible show Sub2 _ _ _ _ _ _ _ _ _); first | ((refine sub_str (by assumption) (by omega) (by omega) ?_ ?_); (focus (intro _ _)); rotate_left; (focus (intro _; first | (exfalso; exact stepA_bad (by assumption) (by assumption) (by assumption) (by assumption)) | (exfalso; exact run_outA (by assumption) (by assumption)) | intro _)); rotate_right)) | fail)
    all_goals first
      | (obtain ⟨e1, e2⟩ := stepA_two hn (by assumption) (by assumption) (by assumption); subst e1 e2; (refine' frg_intro (ob2 := [(t, .inst 133 d), (d, .dct _)]) ?fp ⟨?fe0, ?fe1⟩; (case fp => (with_reducible repeat (first | exact Picks.nil | (apply Picks.cons; (focus (with_reducible repeat (first | exact Pick.head | apply Pick.tail))))))); (case fe0 => rfl); (case fe1 => rfl)))
      | (obtain ⟨e1, e2⟩ := stepA_one hn (by assumption) (by assumption); subst e1 e2; (refine' frg_intro (ob2 := [(t, .inst 133 d), (d, .dct _)]) ?fp ⟨?fe0, ?fe1⟩; (case fp => (with_reducible repeat (first | exact Picks.nil | (apply Picks.cons; (focus (with_reducible repeat (first | exact Pick.head | apply Pick.tail))))))); (case fe0 => rfl); (case fe1 => rfl)))
      | (obtain ⟨e1, e2⟩ := step_end hn (by assumption); subst e1 e2; (refine' frg_intro (ob2 := [(t, .inst 133 d), (d, .dct _)]) ?fp ⟨?fe0, ?fe1⟩; (case fp => (with_reducible repeat (first | exact Picks.nil | (apply Picks.cons; (focus (with_reducible repeat (first | exact Pick.head | apply Pick.tail))))))); (case fe0 => rfl); (case fe1 => rfl)))
  case c1 => exact rfl
  case c2 => exact rfl
  case c3 => exact rfl
theorem get_F : ∀ {g : G} (HG : GK g) {t d : Addr} {it st : V} {l : List Nat} {i : Nat} {nv : V} (hv : handedV nv = true) (hl : l.length ≤ 1000) (hi : i ≤ 2000) {j : Nat} {o : Option (List Nat)} (hn : nxt l i = some (j, o)), FnE g 79 [.ref t] 2 false (nv) ([(t, .inst 133 d), (d, .dct (tokE it st l (j : Int) (ovV o)))]) ([(t, .inst 133 d), (d, .dct (tokE it st l (i : Int) nv))]) := by
  k_fill
  intro g HG t d it st l i nv hv hl hi j o hn
  have H := HG.tk
  have hp := HG.hp
  have hK := HG.hK
  refine FnC.forget ?_
  refine' fn_intro (pn := [Str.ofString "self"]) (lo0 := [some (.ref t), none]) (X := fun _ _ _ => False) ?ho ?hcd ?hb ?hpn ?hlo ?hloc ?hnd ?hcell leaves_never ?h ?c1 ?c2 ?c3
  case ho => rw [hK]; k_is
  case hcd => rw [hK]; k_is
  case hb => intro s' cas' X' hv'; obtain ⟨c1', rfl, h1'⟩ := VRs1 hv'; exact BindsTo.of_eq rfl
  case hpn => decide
  case hlo => rfl
  case hloc => decide
  case hnd => decide
  case hcell => decide
  case h =>
    intro c ok hg henv hns hns' hcv hd hhq
    subst hg
    dsimp only at hns hns'
    have hh := hhq rfl
    skip
    repeat' (first | ((with_reducible show Cal _ _ _ _ _ _ _); first | ((refine cal_E (by (k_dflt (assumption)); done) (by (k_dflt ((with_reducible repeat (first | exact Picks.nil | (apply Picks.cons; (focus (with_reducible repeat (first | exact Pick.head | apply Pick.tail)))))))); done) (next_F (by assumption) (by (k_dflt (assumption)); done) (by (k_dflt (first | omega | exact Nat.zero_le _)); done) (by (k_dflt (first | exact rfl | exact (rfl : (0 : Int) = ((0 : Nat) : Int)))); done) (by (k_dflt (assumption)); done)) (by (k_dflt ((with_reducible repeat (first | exact App.nil | apply App.cons)))); done) (by (k_dflt (omega)); done) (by (k_dflt (first | exact .inl rfl | exact .inr (by assumption))); done) ?_))) | ((with_reducible show Then _ _ _ _ _ _ _); first | ((with_reducible refine then_next ?_)) | ((with_reducible refine then_ret ?_))) | ((with_reducible show W _ FR (execs _ _) _ _ _ _); first | ((with_reducible refine S_cons ?_))) | ((with_reducible show W _ VR (eval (Expr.Name _ _) _) _ _ _ _); first | ((with_reducible refine W_local (by (k_dflt (assumption)); done) (by (k_dflt (assumption)); done) (by (k_dflt (assumption)); done) (by (k_dflt ((with_reducible repeat (first | exact Has.here | apply Has.there)))); done) ?_))) | ((with_reducible show W _ VR (eval (Expr.Attribute _ _ _) _) _ _ _ _); first | (refine W_Attr ?_)) | ((with_reducible show W _ VR (eval (Expr.Call (Expr.Attribute _ _ _) _ _ _) _) _ _ _ _); first | (refine W_Method (by assumption) (by rfl) ?_)) | ((with_reducible show W _ FR (exec (Stmt.Assign [Expr.Name _ _] _ _) _) _ _ _ _); first | (refine S_Assign ?_)) | ((with_reducible show W _ FR (exec (Stmt.Return (some _) _) _) _ _ _ _); first | ((with_reducible refine S_Return ?_))) | ((with_reducible show W _ FR (exec (Stmt.Expr _ _) _) _ _ _ _); first | (refine S_ExprV ?_ (inter (by assumption)))) | ((with_reducible show Args _ _ _ _ _ _); first | ((with_reducible refine args_nil' ?_))) | ((with_reducible show FnQ _ _ _ _); first | ((with_reducible refine fnq_ret ?_))) | ((with_reducible show Kp _ _ ∧ _); first | ((with_reducible refine kp_met (by (k_dflt (assumption)); done) (by (k_dflt ((with_reducible_and_instances repeat (first | exact List.Mem.head _ | apply List.Mem.tail)))); done) ?_))) | ((with_reducible show plainV _ = true ∧ _); first | ((with_reducible refine plain_and rfl ?_))) | ((with_reducible show Sto _ _ _ _ _ _ _); first | ((with_reducible refine Sto_local (by (k_dflt (assumption)); done) (by (k_dflt (assumption)); done) (by (k_dflt (assumption)); done) (by (k_dflt ((with_reducible repeat (first | exact Put.here | apply Put.there)))); done) ?_))) | ((with_reducible show GetM _ _ _ _ _ _ _); first | ((with_reducible refine getm_tk (by (k_dflt (assumption)); done) (by (k_dflt (assumption)); done) (by (k_dflt ((with_reducible_and_instances repeat (first | exact List.Mem.head _ | apply List.Mem.tail)))); done) (by (k_dflt ((with_reducible_and_instances repeat (first | exact List.Mem.head _ | apply List.Mem.tail)))); done) (by (k_dflt ((with_reducible_and_instances repeat (first | exact List.Mem.head _ | apply List.Mem.tail)))); done) (by (k_dflt ((repeat (first | with_reducible exact NoEnt.nil | (with_reducible apply NoEnt.cons; (focus decide)))))); done) ?_))) | ((with_reducible show GetA _ _ _ _ _ _ _); first | ((with_reducible refine geta_tk (by (k_dflt (assumption)); done) (by (k_dflt (assumption)); done) (by (k_dflt ((with_reducible_and_instances repeat (first | exact List.Mem.head _ | apply List.Mem.tail)))); done) (by (k_dflt ((with_reducible_and_instances repeat (first | exact List.Mem.head _ | apply List.Mem.tail)))); done) (by (k_dflt ((with_reducible_and_instances repeat (first | exact List.Mem.head _ | apply List.Mem.tail)))); done) (by (k_dflt ((with_reducible repeat (first | exact Ent.here | (apply Ent.there; (focus decide)))))); done) (by (k_dflt (first | exact rfl | exact handed_ovV _ | assumption)); done) ?_))) | fail)
    all_goals first | ((refine' frg_intro (ob2 := [(t, .inst 133 d), (d, .dct _)]) ?fp ⟨?fe0, ?fe1⟩; (case fp => (with_reducible repeat (first | exact Picks.nil | (apply Picks.cons; (focus (with_reducible repeat (first | exact Pick.head | apply Pick.tail))))))); (case fe0 => rfl); (case fe1 => rfl)))
  case c1 => exact rfl
  case c2 => exact rfl
  case c3 => exact rfl
theorem match_T : ∀ {g : G} (HG : GK g) {t d : Addr} {it st : V} {l : List Nat} {i : Nat} {nv ch : V} (hv : handedV nv = true) (he : Eqs ch nv true) (hl : l.length ≤ 1000) (hi : i ≤ 2000) {j : Nat} {o : Option (List Nat)} (hn : nxt l i = some (j, o)), FnE g 72 [.ref t, ch] 2 false (.bool true) ([(t, .inst 133 d), (d, .dct (tokE it st l (j : Int) (ovV o)))]) ([(t, .inst 133 d), (d, .dct (tokE it st l (i : Int) nv))]) := by
  k_fill
  intro g HG t d it st l i nv ch hv he hl hi j o hn
  have H := HG.tk
  have hp := HG.hp
  have hK := HG.hK
  refine FnC.forget ?_
  refine' fn_intro (pn := [Str.ofString "self", Str.ofString "char"]) (lo0 := [some (.ref t), some (ch)]) (X := fun _ _ _ => False) ?ho ?hcd ?hb ?hpn ?hlo ?hloc ?hnd ?hcell leaves_never ?h ?c1 ?c2 ?c3
  case ho => rw [hK]; k_is
  case hcd => rw [hK]; k_is
  case hb => intro s' cas' X' hv'; obtain ⟨c1', c2', rfl, h1', h2'⟩ := VRs2 hv'; exact BindsTo.of_eq rfl
  case hpn => decide
  case hlo => rfl
  case hloc => decide
  case hnd => decide
  case hcell => decide
  case h =>
    intro c ok hg henv hns hns' hcv hd hhq
    subst hg
    dsimp only at hns hns'
    have hh := hhq rfl
    skip
    repeat' (first | ((with_reducible show Cal _ _ _ _ _ _ _); first | ((refine cal_E (by (k_dflt (assumption)); done) (by (k_dflt ((with_reducible repeat (first | exact Picks.nil | (apply Picks.cons; (focus (with_reducible repeat (first | exact Pick.head | apply Pick.tail)))))))); done) (next_F (by assumption) (by (k_dflt (assumption)); done) (by (k_dflt (first | omega | exact Nat.zero_le _)); done) (by (k_dflt (first | exact rfl | exact (rfl : (0 : Int) = ((0 : Nat) : Int)))); done) (by (k_dflt (assumption)); done)) (by (k_dflt ((with_reducible repeat (first | exact App.nil | apply App.cons)))); done) (by (k_dflt (omega)); done) (by (k_dflt (first | exact .inl rfl | exact .inr (by assumption))); done) ?_))) | ((with_reducible show Then _ _ _ _ _ _ _); first | ((with_reducible refine then_next ?_)) | ((with_reducible refine then_ret ?_))) | ((with_reducible show W _ FR (execs _ _) _ _ _ _); first | ((with_reducible refine S_cons ?_))) | ((with_reducible show W _ VR (eval (Expr.Name _ _) _) _ _ _ _); first | ((with_reducible refine W_local (by (k_dflt (assumption)); done) (by (k_dflt (assumption)); done) (by (k_dflt (assumption)); done) (by (k_dflt ((with_reducible repeat (first | exact Has.here | apply Has.there)))); done) ?_))) | ((with_reducible show W _ VR (eval (Expr.Constant (Const.bool _) _ _) _) _ _ _ _); first | ((with_reducible refine W_bool ?_))) | ((with_reducible show W _ VR (eval (Expr.Attribute _ _ _) _) _ _ _ _); first | (refine W_Attr ?_)) | ((with_reducible show W _ VR (eval (Expr.Call (Expr.Attribute _ _ _) _ _ _) _) _ _ _ _); first | (refine W_Method (by assumption) (by rfl) ?_)) | ((with_reducible show W _ FR (exec (Stmt.If _ _ _ _) _) _ _ _ _); first | ((with_reducible refine S_If ?_))) | ((with_reducible show W _ FR (exec (Stmt.Return (some _) _) _) _ _ _ _); first | ((with_reducible refine S_Return ?_))) | ((with_reducible show W _ FR (exec (Stmt.Expr _ _) _) _ _ _ _); first | (refine S_ExprV ?_ (inter (by assumption)))) | ((with_reducible show W _ BR (isTrue (Expr.Compare _ _ _ _) _ _) _ _ _ _); first | (refine T_Compare ?_)) | ((with_reducible show Op2 _ _ _ _ _ _ _ _); first | ((with_reducible refine eqs_use (by (k_dflt (assumption)); done) ?_))) | ((with_reducible show Tru _ _ _ _ _ _); first | ((with_reducible refine tru_bool ?_))) | ((with_reducible show Br true _ _); first | ((with_reducible refine br_t ?_))) | ((with_reducible show Args _ _ _ _ _ _); first | ((with_reducible refine args_nil' ?_))) | ((with_reducible show FnQ _ _ _ _); first | ((with_reducible refine fnq_ret ?_))) | ((with_reducible show Kp _ _ ∧ _); first | ((with_reducible refine kp_met (by (k_dflt (assumption)); done) (by (k_dflt ((with_reducible_and_instances repeat (first | exact List.Mem.head _ | apply List.Mem.tail)))); done) ?_))) | ((with_reducible show plainV _ = true ∧ _); first | ((with_reducible refine plain_and rfl ?_))) | ((with_reducible show GetM _ _ _ _ _ _ _); first | ((with_reducible refine getm_tk (by (k_dflt (assumption)); done) (by (k_dflt (assumption)); done) (by (k_dflt ((with_reducible_and_instances repeat (first | exact List.Mem.head _ | apply List.Mem.tail)))); done) (by (k_dflt ((with_reducible_and_instances repeat (first | exact List.Mem.head _ | apply List.Mem.tail)))); done) (by (k_dflt ((with_reducible_and_instances repeat (first | exact List.Mem.head _ | apply List.Mem.tail)))); done) (by (k_dflt ((repeat (first | with_reducible exact NoEnt.nil | (with_reducible apply NoEnt.cons; (focus decide)))))); done) ?_))) | ((with_reducible show GetA _ _ _ _ _ _ _); first | ((with_reducible refine geta_tk (by (k_dflt (assumption)); done) (by (k_dflt (assumption)); done) (by (k_dflt ((with_reducible_and_instances repeat (first | exact List.Mem.head _ | apply List.Mem.tail)))); done) (by (k_dflt ((with_reducible_and_instances repeat (first | exact List.Mem.head _ | apply List.Mem.tail)))); done) (by (k_dflt ((with_reducible_and_instances repeat (first | exact List.Mem.head _ | apply List.Mem.tail)))); done) (by (k_dflt ((with_reducible repeat (first | exact Ent.here | (apply Ent.there; (focus decide)))))); done) (by (k_dflt (first | exact rfl | exact handed_ovV _ | assumption)); done) ?_))) | fail)
    all_goals first | ((refine' frg_intro (ob2 := [(t, .inst 133 d), (d, .dct _)]) ?fp ⟨?fe0, ?fe1⟩; (case fp => (with_reducible repeat (first | exact Picks.nil | (apply Picks.cons; (focus (with_reducible repeat (first | exact Pick.head | apply Pick.tail))))))); (case fe0 => rfl); (case fe1 => rfl)))
  case c1 => exact rfl
  case c2 => exact rfl
  case c3 => exact rfl
theorem match_F : ∀ {g : G} (HG : GK g) {t d : Addr} {it st : V} {l : List Nat} {i : Nat} {nv ch : V} (hv : handedV nv = true) (he : Eqs ch nv false), FnE g 72 [.ref t, ch] 2 false (.bool false) ([(t, .inst 133 d), (d, .dct (tokE it st l (i : Int) nv))]) ([(t, .inst 133 d), (d, .dct (tokE it st l (i : Int) nv))]) := by
  k_fill
  intro g HG t d it st l i nv ch hv he
  have H := HG.tk
  have hp := HG.hp
  have hK := HG.hK
  refine FnC.forget ?_
  refine' fn_intro (pn := [Str.ofString "self", Str.ofString "char"]) (lo0 := [some (.ref t), some (ch)]) (X := fun _ _ _ => False) ?ho ?hcd ?hb ?hpn ?hlo ?hloc ?hnd ?hcell leaves_never ?h ?c1 ?c2 ?c3
  case ho => rw [hK]; k_is
  case hcd => rw [hK]; k_is
  case hb => intro s' cas' X' hv'; obtain ⟨c1', c2', rfl, h1', h2'⟩ := VRs2 hv'; exact BindsTo.of_eq rfl
  case hpn => decide
  case hlo => rfl
  case hloc => decide
  case hnd => decide
  case hcell => decide
  case h =>
    intro c ok hg henv hns hns' hcv hd hhq
    subst hg
    dsimp only at hns hns'
    have hh := hhq rfl
    skip
    repeat' (first | ((with_reducible show Then _ _ _ _ _ _ _); first | ((with_reducible refine then_next ?_)) | ((with_reducible refine then_ret ?_))) | ((with_reducible show W _ FR (execs _ _) _ _ _ _); first | ((with_reducible refine S_cons ?_)) | ((with_reducible refine S_nil ?_))) | ((with_reducible show W _ VR (eval (Expr.Name _ _) _) _ _ _ _); first | ((with_reducible refine W_local (by (k_dflt (assumption)); done) (by (k_dflt (assumption)); done) (by (k_dflt (assumption)); done) (by (k_dflt ((with_reducible repeat (first | exact Has.here | apply Has.there)))); done) ?_))) | ((with_reducible show W _ VR (eval (Expr.Constant (Const.bool _) _ _) _) _ _ _ _); first | ((with_reducible refine W_bool ?_))) | ((with_reducible show W _ VR (eval (Expr.Attribute _ _ _) _) _ _ _ _); first | (refine W_Attr ?_)) | ((with_reducible show W _ FR (exec (Stmt.If _ _ _ _) _) _ _ _ _); first | ((with_reducible refine S_If ?_))) | ((with_reducible show W _ FR (exec (Stmt.Return (some _) _) _) _ _ _ _); first | ((with_reducible refine S_Return ?_))) | ((with_reducible show W _ BR (isTrue (Expr.Compare _ _ _ _) _ _) _ _ _ _); first | (refine T_Compare ?_)) | ((with_reducible show Op2 _ _ _ _ _ _ _ _); first | ((with_reducible refine eqs_use (by (k_dflt (assumption)); done) ?_))) | ((with_reducible show Tru _ _ _ _ _ _); first | ((with_reducible refine tru_bool ?_))) | ((with_reducible show Br false _ _); first | ((with_reducible refine br_f ?_))) | ((with_reducible show FnQ _ _ _ _); first | ((with_reducible refine fnq_ret ?_))) | ((with_reducible show GetA _ _ _ _ _ _ _); first | ((with_reducible refine geta_tk (by (k_dflt (assumption)); done) (by (k_dflt (assumption)); done) (by (k_dflt ((with_reducible_and_instances repeat (first | exact List.Mem.head _ | apply List.Mem.tail)))); done) (by (k_dflt ((with_reducible_and_instances repeat (first | exact List.Mem.head _ | apply List.Mem.tail)))); done) (by (k_dflt ((with_reducible_and_instances repeat (first | exact List.Mem.head _ | apply List.Mem.tail)))); done) (by (k_dflt ((with_reducible repeat (first | exact Ent.here | (apply Ent.there; (focus decide)))))); done) (by (k_dflt (first | exact rfl | exact handed_ovV _ | assumption)); done) ?_))) | fail)
    all_goals first | ((refine' frg_intro (ob2 := [(t, .inst 133 d), (d, .dct _)]) ?fp ⟨?fe0, ?fe1⟩; (case fp => (with_reducible repeat (first | exact Picks.nil | (apply Picks.cons; (focus (with_reducible repeat (first | exact Pick.head | apply Pick.tail))))))); (case fe0 => rfl); (case fe1 => rfl)))
  case c1 => exact rfl
  case c2 => exact rfl
  case c3 => exact rfl
theorem init_S : ∀ {g : G} (HG : GK g) {t d : Addr} {l : List Nat} (hl : l.length ≤ 1000) {j : Nat} {o : Option (List Nat)} (hn : nxt l 0 = some (j, o)), FnE g 58 [.ref t, .str l] 2 false (.none) ([(t, .inst 133 d), (d, .dct (tokE (.bool true) (.str l) l (j : Int) (ovV o)))]) ([(t, .inst 133 d), (d, .dct [])]) := by
  k_fill
  intro g HG t d l hl j o hn
  have H := HG.tk
  have hp := HG.hp
  have hK := HG.hK
  refine FnC.forget ?_
  refine' fn_intro (pn := [Str.ofString "self", Str.ofString "string"]) (lo0 := [some (.ref t), some (.str l), none, none]) (X := fun _ _ _ => False) ?ho ?hcd ?hb ?hpn ?hlo ?hloc ?hnd ?hcell leaves_never ?h ?c1 ?c2 ?c3
  case ho => rw [hK]; k_is
  case hcd => rw [hK]; k_is
  case hb => intro s' cas' X' hv'; obtain ⟨c1', c2', rfl, h1', h2'⟩ := VRs2 hv'; exact BindsTo.of_eq rfl
  case hpn => decide
  case hlo => rfl
  case hloc => decide
  case hnd => decide
  case hcell => decide
  case h =>
    intro c ok hg henv hns hns' hcv hd hhq
    subst hg
    dsimp only at hns hns'
    have hh := hhq rfl
    skip
    repeat' (first | ((with_reducible show Cal _ _ _ _ _ _ _); first | ((refine cal_E (by (k_dflt (assumption)); done) (by (k_dflt ((with_reducible repeat (first | exact Picks.nil | (apply Picks.cons; (focus (with_reducible repeat (first | exact Pick.head | apply Pick.tail)))))))); done) (next_F (by assumption) (by (k_dflt (assumption)); done) (by (k_dflt (first | omega | exact Nat.zero_le _)); done) (by (k_dflt (first | exact rfl | exact (rfl : (0 : Int) = ((0 : Nat) : Int)))); done) (by (k_dflt (assumption)); done)) (by (k_dflt ((with_reducible repeat (first | exact App.nil | apply App.cons)))); done) (by (k_dflt (omega)); done) (by (k_dflt (first | exact .inl rfl | exact .inr (by assumption))); done) ?_))) | ((with_reducible show Then _ _ _ _ _ _ _); first | ((with_reducible refine then_next ?_))) | ((with_reducible show W _ FR (execs _ _) _ _ _ _); first | ((with_reducible refine S_cons ?_)) | ((with_reducible refine S_nil ?_))) | ((with_reducible show W _ VR (eval (Expr.Name _ _) _) _ _ _ _); first | ((with_reducible refine W_local (by (k_dflt (assumption)); done) (by (k_dflt (assumption)); done) (by (k_dflt (assumption)); done) (by (k_dflt ((with_reducible repeat (first | exact Has.here | apply Has.there)))); done) ?_)) | ((with_reducible refine W_bltT (by (k_dflt (assumption)); done) (by (k_dflt (assumption)); done) (by (k_dflt (assumption)); done) (by (k_dflt ((with_reducible repeat (first | exact InN.here | apply InN.there)))); done) (by (k_dflt ((with_reducible_and_instances repeat (first | exact List.Mem.head _ | apply List.Mem.tail)))); done) ?_))) | ((with_reducible show W _ VR (eval (Expr.Constant Const.none _ _) _) _ _ _ _); first | ((with_reducible refine W_none ?_))) | ((with_reducible show W _ VR (eval (Expr.Constant (Const.int _) _ _) _) _ _ _ _); first | ((with_reducible refine W_int ?_))) | ((with_reducible show W _ VR (eval (Expr.Attribute _ _ _) _) _ _ _ _); first | (refine W_Attr ?_)) | ((with_reducible show W _ VR (eval (Expr.Call (Expr.Attribute _ _ _) _ _ _) _) _ _ _ _); first | (refine W_Method (by assumption) (by rfl) ?_)) | ((with_reducible show W _ VR (eval (Expr.Call _ _ _ _) _) _ _ _ _); first | (refine W_Call (by assumption) (by rfl) ?_)) | ((with_reducible show W _ FR (exec (Stmt.Assign [Expr.Attribute _ _ _] _ _) _) _ _ _ _); first | (refine S_AssignA ?_)) | ((with_reducible show W _ FR (exec (Stmt.If _ _ _ _) _) _ _ _ _); first | ((with_reducible refine S_If ?_))) | ((with_reducible show W _ FR (exec (Stmt.Expr _ _) _) _ _ _ _); first | (refine S_ExprV ?_ (inter (by assumption)))) | ((with_reducible show W _ BR (isTrue (Expr.UnaryOp UnaryOp.Not _ _) _ _) _ _ _ _); first | ((with_reducible refine T_Not ?_))) | ((with_reducible show W _ BR (isTrue _ _ _) _ _ _ _); first | (refine T_plain rfl ?_)) | ((with_reducible show Tru _ _ _ _ _ _); first | ((with_reducible refine tru_bool ?_))) | ((with_reducible show Cal _ _ _ _ _ _ _); first | ((with_reducible refine isi_str_str ?_))) | ((with_reducible show Br true _ _); first | ((with_reducible refine br_t ?_))) | ((with_reducible show Br (! _) _ _); first | ((with_reducible refine br_not ?_))) | ((with_reducible show Args _ _ _ _ _ _); first | ((with_reducible refine args_cons' ?_)) | ((with_reducible refine args_nil' ?_))) | ((with_reducible show FnQ _ _ _ _); first | ((with_reducible refine fnq_next ?_))) | ((with_reducible show Kp _ _ ∧ _); first | ((with_reducible refine kp_and kp_blt ?_)) | ((with_reducible refine kp_met (by (k_dflt (assumption)); done) (by (k_dflt ((with_reducible_and_instances repeat (first | exact List.Mem.head _ | apply List.Mem.tail)))); done) ?_))) | ((with_reducible show plainV _ = true ∧ _); first | ((with_reducible refine plain_and rfl ?_))) | ((with_reducible show GetM _ _ _ _ _ _ _); first | ((with_reducible refine getm_tk (by (k_dflt (assumption)); done) (by (k_dflt (assumption)); done) (by (k_dflt ((with_reducible_and_instances repeat (first | exact List.Mem.head _ | apply List.Mem.tail)))); done) (by (k_dflt ((with_reducible_and_instances repeat (first | exact List.Mem.head _ | apply List.Mem.tail)))); done) (by (k_dflt ((with_reducible_and_instances repeat (first | exact List.Mem.head _ | apply List.Mem.tail)))); done) (by (k_dflt ((repeat (first | with_reducible exact NoEnt.nil | (with_reducible apply NoEnt.cons; (focus decide)))))); done) ?_))) | ((with_reducible show GetA _ _ _ _ _ _ _); first | ((with_reducible refine geta_tk (by (k_dflt (assumption)); done) (by (k_dflt (assumption)); done) (by (k_dflt ((with_reducible_and_instances repeat (first | exact List.Mem.head _ | apply List.Mem.tail)))); done) (by (k_dflt ((with_reducible_and_instances repeat (first | exact List.Mem.head _ | apply List.Mem.tail)))); done) (by (k_dflt ((with_reducible_and_instances repeat (first | exact List.Mem.head _ | apply List.Mem.tail)))); done) (by (k_dflt ((with_reducible repeat (first | exact Ent.here | (apply Ent.there; (focus decide)))))); done) (by (k_dflt (first | exact rfl | exact handed_ovV _ | assumption)); done) ?_))) | ((with_reducible show SetA _ _ _ _ _ _ _ _); first | ((with_reducible refine seta_tk (by (k_dflt (assumption)); done) (by (k_dflt (assumption)); done) (by (k_dflt ((with_reducible_and_instances repeat (first | exact List.Mem.head _ | apply List.Mem.tail)))); done) (by (k_dflt ((with_reducible repeat (first | exact OUpd.head | apply OUpd.tail)))); done) (by (k_dflt ((with_reducible_and_instances repeat (first | exact List.Mem.head _ | apply List.Mem.tail)))); done) (by (k_dflt ((with_reducible repeat (first | exact EPut.here | exact EPut.nil | (apply EPut.there; (focus decide)))))); done) (by (k_dflt (exact Nat.le_of_ble_eq_true rfl)); done) ?_))) | fail)
    all_goals first | ((refine' frg_intro (ob2 := [(t, .inst 133 d), (d, .dct _)]) ?fp ⟨?fe0, ?fe1⟩; (case fp => (with_reducible repeat (first | exact Picks.nil | (apply Picks.cons; (focus (with_reducible repeat (first | exact Pick.head | apply Pick.tail))))))); (case fe0 => rfl); (case fe1 => rfl)))
  case c1 => exact rfl
  case c2 => exact rfl
  case c3 => exact rfl
theorem init_B : ∀ {g : G} (HG : GK g) {t d : Addr} {l : List Nat} (hl : l.length ≤ 1000) {j : Nat} {o : Option (List Nat)} (hn : nxt l 0 = some (j, o)), FnE g 58 [.ref t, .bytes l] 2 false (.none) ([(t, .inst 133 d), (d, .dct (tokE (.bool false) (.bytes l) l (j : Int) (ovV o)))]) ([(t, .inst 133 d), (d, .dct [])]) := by
  k_fill
  intro g HG t d l hl j o hn
  have H := HG.tk
  have hp := HG.hp
  have hK := HG.hK
  refine FnC.forget ?_
  refine' fn_intro (pn := [Str.ofString "self", Str.ofString "string"]) (lo0 := [some (.ref t), some (.bytes l), none, none]) (X := fun _ _ _ => False) ?ho ?hcd ?hb ?hpn ?hlo ?hloc ?hnd ?hcell leaves_never ?h ?c1 ?c2 ?c3
  case ho => rw [hK]; k_is
  case hcd => rw [hK]; k_is
  case hb => intro s' cas' X' hv'; obtain ⟨c1', c2', rfl, h1', h2'⟩ := VRs2 hv'; exact BindsTo.of_eq rfl
  case hpn => decide
  case hlo => rfl
  case hloc => decide
  case hnd => decide
  case hcell => decide
  case h =>
    intro c ok hg henv hns hns' hcv hd hhq
    subst hg
    dsimp only at hns hns'
    have hh := hhq rfl
    skip
    repeat' (first | ((with_reducible show Cal _ _ _ _ _ _ _); first | ((refine cal_E (by (k_dflt (assumption)); done) (by (k_dflt ((with_reducible repeat (first | exact Picks.nil | (apply Picks.cons; (focus (with_reducible repeat (first | exact Pick.head | apply Pick.tail)))))))); done) (next_F (by assumption) (by (k_dflt (assumption)); done) (by (k_dflt (first | omega | exact Nat.zero_le _)); done) (by (k_dflt (first | exact rfl | exact (rfl : (0 : Int) = ((0 : Nat) : Int)))); done) (by (k_dflt (assumption)); done)) (by (k_dflt ((with_reducible repeat (first | exact App.nil | apply App.cons)))); done) (by (k_dflt (omega)); done) (by (k_dflt (first | exact .inl rfl | exact .inr (by assumption))); done) ?_))) | ((with_reducible show Then _ _ _ _ _ _ _); first | ((with_reducible refine then_next ?_))) | ((with_reducible show W _ FR (execs _ _) _ _ _ _); first | ((with_reducible refine S_cons ?_)) | ((with_reducible refine S_nil ?_))) | ((with_reducible show W _ VR (eval (Expr.Name _ _) _) _ _ _ _); first | ((with_reducible refine W_local (by (k_dflt (assumption)); done) (by (k_dflt (assumption)); done) (by (k_dflt (assumption)); done) (by (k_dflt ((with_reducible repeat (first | exact Has.here | apply Has.there)))); done) ?_)) | ((with_reducible refine W_bltT (by (k_dflt (assumption)); done) (by (k_dflt (assumption)); done) (by (k_dflt (assumption)); done) (by (k_dflt ((with_reducible repeat (first | exact InN.here | apply InN.there)))); done) (by (k_dflt ((with_reducible_and_instances repeat (first | exact List.Mem.head _ | apply List.Mem.tail)))); done) ?_))) | ((with_reducible show W _ VR (eval (Expr.Constant Const.none _ _) _) _ _ _ _); first | ((with_reducible refine W_none ?_))) | ((with_reducible show W _ VR (eval (Expr.Constant (Const.int _) _ _) _) _ _ _ _); first | ((with_reducible refine W_int ?_))) | ((with_reducible show W _ VR (eval (Expr.Constant (Const.str _) _ _) _) _ _ _ _); first | ((with_reducible refine W_str lit2 ?_))) | ((with_reducible show W _ VR (eval (Expr.Attribute _ _ _) _) _ _ _ _); first | (refine W_Attr ?_)) | ((with_reducible show W _ VR (eval (Expr.Call (Expr.Attribute _ _ _) _ _ _) _) _ _ _ _); first | (refine W_Method (by assumption) (by rfl) ?_)) | ((with_reducible show W _ VR (eval (Expr.Call _ _ _ _) _) _ _ _ _); first | (refine W_Call (by assumption) (by rfl) ?_)) | ((with_reducible show W _ FR (exec (Stmt.Assign [Expr.Name _ _] _ _) _) _ _ _ _); first | (refine S_Assign ?_)) | ((with_reducible show W _ FR (exec (Stmt.Assign [Expr.Attribute _ _ _] _ _) _) _ _ _ _); first | (refine S_AssignA ?_)) | ((with_reducible show W _ FR (exec (Stmt.If _ _ _ _) _) _ _ _ _); first | ((with_reducible refine S_If ?_))) | ((with_reducible show W _ FR (exec (Stmt.Expr _ _) _) _ _ _ _); first | (refine S_ExprV ?_ (inter (by assumption)))) | ((with_reducible show W _ BR (isTrue (Expr.UnaryOp UnaryOp.Not _ _) _ _) _ _ _ _); first | ((with_reducible refine T_Not ?_))) | ((with_reducible show W _ BR (isTrue _ _ _) _ _ _ _); first | (refine T_plain rfl ?_)) | ((with_reducible show Tru _ _ _ _ _ _); first | ((with_reducible refine tru_bool ?_))) | ((with_reducible show Cal _ _ _ _ _ _ _); first | ((with_reducible refine isi_bytes_str (by (k_dflt (assumption)); done) ?_)) | ((with_reducible refine str_latin1 (by (k_dflt ((first | assumption | omega | decide | (simp only [List.length_append, List.length_cons, List.length_nil, List.length_drop, List.length_take, List.length_map] at *; omega)))); done) ?_))) | ((with_reducible show Br false _ _); first | ((with_reducible refine br_f ?_))) | ((with_reducible show Br (! _) _ _); first | ((with_reducible refine br_not ?_))) | ((with_reducible show Args _ _ _ _ _ _); first | ((with_reducible refine args_cons' ?_)) | ((with_reducible refine args_nil' ?_))) | ((with_reducible show FnQ _ _ _ _); first | ((with_reducible refine fnq_next ?_))) | ((with_reducible show Kp _ _ ∧ _); first | ((with_reducible refine kp_and kp_blt ?_)) | ((with_reducible refine kp_and kp_type ?_)) | ((with_reducible refine kp_met (by (k_dflt (assumption)); done) (by (k_dflt ((with_reducible_and_instances repeat (first | exact List.Mem.head _ | apply List.Mem.tail)))); done) ?_))) | ((with_reducible show plainV _ = true ∧ _); first | ((with_reducible refine plain_and rfl ?_))) | ((with_reducible show Sto _ _ _ _ _ _ _); first | ((with_reducible refine Sto_local (by (k_dflt (assumption)); done) (by (k_dflt (assumption)); done) (by (k_dflt (assumption)); done) (by (k_dflt ((with_reducible repeat (first | exact Put.here | apply Put.there)))); done) ?_))) | ((with_reducible show GetM _ _ _ _ _ _ _); first | ((with_reducible refine getm_tk (by (k_dflt (assumption)); done) (by (k_dflt (assumption)); done) (by (k_dflt ((with_reducible_and_instances repeat (first | exact List.Mem.head _ | apply List.Mem.tail)))); done) (by (k_dflt ((with_reducible_and_instances repeat (first | exact List.Mem.head _ | apply List.Mem.tail)))); done) (by (k_dflt ((with_reducible_and_instances repeat (first | exact List.Mem.head _ | apply List.Mem.tail)))); done) (by (k_dflt ((repeat (first | with_reducible exact NoEnt.nil | (with_reducible apply NoEnt.cons; (focus decide)))))); done) ?_))) | ((with_reducible show GetA _ _ _ _ _ _ _); first | ((with_reducible refine geta_tk (by (k_dflt (assumption)); done) (by (k_dflt (assumption)); done) (by (k_dflt ((with_reducible_and_instances repeat (first | exact List.Mem.head _ | apply List.Mem.tail)))); done) (by (k_dflt ((with_reducible_and_instances repeat (first | exact List.Mem.head _ | apply List.Mem.tail)))); done) (by (k_dflt ((with_reducible_and_instances repeat (first | exact List.Mem.head _ | apply List.Mem.tail)))); done) (by (k_dflt ((with_reducible repeat (first | exact Ent.here | (apply Ent.there; (focus decide)))))); done) (by (k_dflt (first | exact rfl | exact handed_ovV _ | assumption)); done) ?_))) | ((with_reducible show SetA _ _ _ _ _ _ _ _); first | ((with_reducible refine seta_tk (by (k_dflt (assumption)); done) (by (k_dflt (assumption)); done) (by (k_dflt ((with_reducible_and_instances repeat (first | exact List.Mem.head _ | apply List.Mem.tail)))); done) (by (k_dflt ((with_reducible repeat (first | exact OUpd.head | apply OUpd.tail)))); done) (by (k_dflt ((with_reducible_and_instances repeat (first | exact List.Mem.head _ | apply List.Mem.tail)))); done) (by (k_dflt ((with_reducible repeat (first | exact EPut.here | exact EPut.nil | (apply EPut.there; (focus decide)))))); done) (by (k_dflt (exact Nat.le_of_ble_eq_true rfl)); done) ?_))) | fail)
    all_goals first | ((refine' frg_intro (ob2 := [(t, .inst 133 d), (d, .dct _)]) ?fp ⟨?fe0, ?fe1⟩; (case fp => (with_reducible repeat (first | exact Picks.nil | (apply Picks.cons; (focus (with_reducible repeat (first | exact Pick.head | apply Pick.tail))))))); (case fe0 => rfl); (case fe1 => rfl)))
  case c1 => exact rfl
  case c2 => exact rfl
  case c3 => exact rfl
theorem new_S {c : Cx} (ok : c.Ok) (HG : GK c.g) {l : List Nat} (hl : l.length ≤ 1000) {j : Nat} {o : Option (List Nat)} (hn : nxt l 0 = some (j, o)) (hd : 3 ≤ c.d) (hh : c.B.handled = none) {Q : QT V} {X : QT Addr} {lo : Loc} {ob : Obs}
    (h : ∀ x dx, Q (.ref x) lo ((x, .inst 133 dx) :: (dx, .dct (tokE (.bool true) (.str l) l (j : Int) (ovV o))) :: ob)) : Cal c (.ref 133) [.str l] Q X lo ob :=
  cal_new (small := []) (oth := []) (ob2 := fun x dx => (x, .inst 133 dx) :: (dx, .dct (tokE (.bool true) (.str l) l (j : Int) (ovV o))) :: ob) ok HG.tk.mi HG.tk.ii HG.tk.isf (fun x dx => init_S HG hl hn) (fun x dx => .cons (.cons .nil)) (by omega) (.inr hh) h
theorem new_B {c : Cx} (ok : c.Ok) (HG : GK c.g) {l : List Nat} (hl : l.length ≤ 1000) {j : Nat} {o : Option (List Nat)} (hn : nxt l 0 = some (j, o)) (hd : 3 ≤ c.d) (hh : c.B.handled = none) {Q : QT V} {X : QT Addr} {lo : Loc} {ob : Obs}
    (h : ∀ x dx, Q (.ref x) lo ((x, .inst 133 dx) :: (dx, .dct (tokE (.bool false) (.bytes l) l (j : Int) (ovV o))) :: ob)) : Cal c (.ref 133) [.bytes l] Q X lo ob :=
  cal_new (small := []) (oth := []) (ob2 := fun x dx => (x, .inst 133 dx) :: (dx, .dct (tokE (.bool false) (.bytes l) l (j : Int) (ovV o))) :: ob) ok HG.tk.mi HG.tk.ii HG.tk.isf (fun x dx => init_B HG hl hn) (fun x dx => .cons (.cons .nil)) (by omega) (.inr hh) h
theorem octets_F : ∀ {g : G} (HG : GK g) {l : List Nat} (hl : l.length ≤ 1000) (hc : ∀ k ∈ l, k < 256), FnE g 142 [.str l] 1 false (.bytes l) ([]) ([]) := by
  k_fill
  intro g HG l hl hc
  have H := HG.tk
  have hp := HG.hp
  have hK := HG.hK
  refine FnC.forget ?_
  refine' fn_intro (pn := [Str.ofString "text"]) (lo0 := [some (.str l), none]) (X := fun _ _ _ => False) ?ho ?hcd ?hb ?hpn ?hlo ?hloc ?hnd ?hcell leaves_never ?h ?c1 ?c2 ?c3
  case ho => rw [hK]; k_is
  case hcd => rw [hK]; k_is
  case hb => intro s' cas' X' hv'; obtain ⟨c1', rfl, h1'⟩ := VRs1 hv'; exact BindsTo.of_eq rfl
  case hpn => decide
  case hlo => rfl
  case hloc => decide
  case hnd => decide
  case hcell => decide
  case h =>
    intro c ok hg henv hns hns' hcv hd hhq
    subst hg
    dsimp only at hns hns'
    have hh := hhq rfl
    skip
    repeat' (first | ((with_reducible show W _ FR (execs _ _) _ _ _ _); first | ((with_reducible refine S_cons ?_))) | ((with_reducible show W _ VR (eval (Expr.Name _ _) _) _ _ _ _); first | ((with_reducible refine W_local (by (k_dflt (assumption)); done) (by (k_dflt (assumption)); done) (by (k_dflt (assumption)); done) (by (k_dflt ((with_reducible repeat (first | exact Has.here | apply Has.there)))); done) ?_)) | ((with_reducible refine W_bltT (by (k_dflt (assumption)); done) (by (k_dflt (assumption)); done) (by (k_dflt (assumption)); done) (by (k_dflt ((with_reducible repeat (first | exact InN.here | apply InN.there)))); done) (by (k_dflt ((with_reducible_and_instances repeat (first | exact List.Mem.head _ | apply List.Mem.tail)))); done) ?_))) | ((with_reducible show W _ VR (eval (Expr.Call _ _ _ _) _) _ _ _ _); first | (refine W_Call (by assumption) (by rfl) ?_)) | ((with_reducible show W _ VR (eval (Expr.ListComp _ _ _ _) _) _ _ _ _); first | ((refine W_Comp0 (by (k_dflt (assumption)); done) (by (k_dflt (decide)); done) (by (k_dflt (exact rfl)); done) (by (k_dflt (decide)); done) (by (k_dflt (exact rfl)); done) (by (k_dflt (decide)); done) (by (k_dflt (exact rfl)); done) (by (k_dflt (decide)); done) ?_))) | ((with_reducible show W _ FR (exec (Stmt.Return (some _) _) _) _ _ _ _); first | ((with_reducible refine S_Return ?_))) | ((with_reducible show Args _ _ _ _ _ _); first | ((with_reducible refine args_cons' ?_))) | ((with_reducible show Kp _ _ ∧ _); first | ((with_reducible refine kp_and kp_type ?_))) | ((with_reducible show CompF _ _ _ _ _ _ _ _ _); first | ((refine compF (Itr_str (by (k_dflt (assumption)); done)) (by (k_dflt ((first | assumption | omega | decide | (simp only [List.length_append, List.length_cons, List.length_nil, List.length_drop, List.length_take, List.length_map] at *; omega)))); done) ?_))) | fail)
    refine CompE.mapk (fun (k : Nat) => V.int (k : Int)) (fun k hk c2 ok2 hg2 hns2 hcv2 hd2 hB2 => ?_) ?_
    · have H2 : GK c2.g := by rw [hg2]; exact HG
      have H3 := H2.tk
      dsimp only at hns2
      repeat' (first | ((with_reducible show W _ VR (eval (Expr.Name _ _) _) _ _ _ _); first | ((with_reducible refine W_bltT (by (k_dflt (assumption)); done) (by (k_dflt (assumption)); done) (by (k_dflt (assumption)); done) (by (k_dflt ((with_reducible repeat (first | exact InN.here | apply InN.there)))); done) (by (k_dflt ((with_reducible_and_instances repeat (first | exact List.Mem.head _ | apply List.Mem.tail)))); done) ?_)) | ((with_reducible refine W_comp (by (k_dflt (assumption)); done) (by (k_dflt (assumption)); done) (by (k_dflt (assumption)); done) (by (k_dflt ((with_reducible repeat (first | exact InN.here | apply InN.there)))); done) (by (k_dflt ((with_reducible_and_instances repeat (first | exact List.Mem.head _ | apply List.Mem.tail)))); done) ?_))) | ((with_reducible show W _ VR (eval (Expr.Call _ _ _ _) _) _ _ _ _); first | (refine W_Call (by assumption) (by rfl) ?_)) | ((with_reducible show Cal _ _ _ _ _ _ _); first | ((with_reducible refine ord_1 ?_))) | ((with_reducible show Args _ _ _ _ _ _); first | ((with_reducible refine args_cons' ?_)) | ((with_reducible refine args_nil' ?_))) | ((with_reducible show Kp _ _ ∧ _); first | ((with_reducible refine kp_and kp_blt ?_))) | fail)
      all_goals exact ⟨rfl, rfl, rfl⟩
    · intro D
      repeat' (first | ((with_reducible show Args _ _ _ _ _ _); first | ((with_reducible refine args_nil' ?_))) | fail)
      refine' bytes_list ?oh ?om ?oc ?oz ?_
      case oh => assumption
      case om => exact .inl (by ((with_reducible_and_instances repeat (first | exact List.Mem.head _ | apply List.Mem.tail))))
      case oc => assumption
      case oz => omega
      repeat' (first | ((with_reducible show Then _ _ _ _ _ _ _); first | ((with_reducible refine then_ret ?_))) | ((with_reducible show FnQ _ _ _ _); first | ((with_reducible refine fnq_ret ?_))) | fail)
      all_goals (refine' frg_intro (ob2 := []) ?fp ⟨?fe0, ?fe1⟩; (case fp => (with_reducible repeat (first | exact Picks.nil | (apply Picks.cons; (focus (with_reducible repeat (first | exact Pick.head | apply Pick.tail))))))); (case fe0 => rfl); (case fe1 => rfl))
  case c1 => exact rfl
  case c2 => exact rfl
  case c3 => exact rfl
theorem tell_N : ∀ {g : G} (HG : GK g) {t d : Addr} {it st : V} {l : List Nat} {j p : Nat} (hn : nxt l p = some (j, none)), FnE g 108 [.ref t] 1 false (.int (p : Int)) ([(t, .inst 133 d), (d, .dct (tokE it st l (j : Int) .none))]) ([(t, .inst 133 d), (d, .dct (tokE it st l (j : Int) .none))]) := by
  k_fill
  intro g HG t d it st l j p hn
  have H := HG.tk
  have hp := HG.hp
  have hK := HG.hK
  refine FnC.forget ?_
  refine' fn_intro (pn := [Str.ofString "self"]) (lo0 := [some (.ref t), none]) (X := fun _ _ _ => False) ?ho ?hcd ?hb ?hpn ?hlo ?hloc ?hnd ?hcell leaves_never ?h ?c1 ?c2 ?c3
  case ho => rw [hK]; k_is
  case hcd => rw [hK]; k_is
  case hb => intro s' cas' X' hv'; obtain ⟨c1', rfl, h1'⟩ := VRs1 hv'; exact BindsTo.of_eq rfl
  case hpn => decide
  case hlo => rfl
  case hloc => decide
  case hnd => decide
  case hcell => decide
  case h =>
    intro c ok hg henv hns hns' hcv hd hhq
    subst hg
    dsimp only at hns hns'
    have hh := hhq rfl
    skip
    repeat' (first | ((with_reducible show Then _ _ _ _ _ _ _); first | ((with_reducible refine then_ret ?_))) | ((with_reducible show W _ FR (execs _ _) _ _ _ _); first | ((with_reducible refine S_cons ?_))) | ((with_reducible show W _ VR (eval (Expr.Name _ _) _) _ _ _ _); first | ((with_reducible refine W_local (by (k_dflt (assumption)); done) (by (k_dflt (assumption)); done) (by (k_dflt (assumption)); done) (by (k_dflt ((with_reducible repeat (first | exact Has.here | apply Has.there)))); done) ?_)) | ((with_reducible refine W_bltT (by (k_dflt (assumption)); done) (by (k_dflt (assumption)); done) (by (k_dflt (assumption)); done) (by (k_dflt ((with_reducible repeat (first | exact InN.here | apply InN.there)))); done) (by (k_dflt ((with_reducible_and_instances repeat (first | exact List.Mem.head _ | apply List.Mem.tail)))); done) ?_))) | ((with_reducible show W _ VR (eval (Expr.Constant (Const.str _) _ _) _) _ _ _ _); first | ((with_reducible refine W_str lit0 ?_))) | ((with_reducible show W _ VR (eval (Expr.Attribute _ _ _) _) _ _ _ _); first | (refine W_Attr ?_)) | ((with_reducible show W _ VR (eval (Expr.Call _ _ _ _) _) _ _ _ _); first | (refine W_Call (by assumption) (by rfl) ?_)) | ((with_reducible show W _ VR (eval (Expr.BinOp _ _ _ _) _) _ _ _ _); first | ((with_reducible refine W_BinOp ?_))) | ((with_reducible show W _ VR (eval (Expr.BoolOp _ _ _) _) _ _ _ _); first | ((with_reducible refine W_BoolOp ?_))) | ((with_reducible show W _ FR (exec (Stmt.Return (some _) _) _) _ _ _ _); first | ((with_reducible refine S_Return ?_))) | ((with_reducible show Op2 _ _ _ _ _ _ _ _); first | ((with_reducible refine sub_ints ?_))) | ((with_reducible show Tru _ _ _ _ _ _); first | ((with_reducible refine tru_none ?_))) | ((with_reducible show Cal _ _ _ _ _ _ _); first | ((with_reducible refine len_str (by (k_dflt ((first | assumption | omega | decide | (simp only [List.length_append, List.length_cons, List.length_nil, List.length_drop, List.length_take, List.length_map] at *; omega)))); done) ?_))) | ((with_reducible show Br false _ _); first | ((with_reducible refine br_f ?_))) | ((with_reducible show Args _ _ _ _ _ _); first | ((with_reducible refine args_cons' ?_)) | ((with_reducible refine args_nil' ?_))) | ((with_reducible show ValAll _ _ _ _ _ _ _); first | ((with_reducible refine val_or ?_)) | ((with_reducible refine val_one ?_))) | ((with_reducible show FnQ _ _ _ _); first | ((with_reducible refine fnq_ret ?_))) | ((with_reducible show Kp _ _ ∧ _); first | ((with_reducible refine kp_and kp_blt ?_))) | ((with_reducible show GetA _ _ _ _ _ _ _); first | ((with_reducible refine geta_tk (by (k_dflt (assumption)); done) (by (k_dflt (assumption)); done) (by (k_dflt ((with_reducible_and_instances repeat (first | exact List.Mem.head _ | apply List.Mem.tail)))); done) (by (k_dflt ((with_reducible_and_instances repeat (first | exact List.Mem.head _ | apply List.Mem.tail)))); done) (by (k_dflt ((with_reducible_and_instances repeat (first | exact List.Mem.head _ | apply List.Mem.tail)))); done) (by (k_dflt ((with_reducible repeat (first | exact Ent.here | (apply Ent.there; (focus decide)))))); done) (by (k_dflt (first | exact rfl | exact handed_ovV _ | assumption)); done) ?_))) | fail)
    all_goals (rw [tell_none hn])
    all_goals first | ((refine' frg_intro (ob2 := [(t, .inst 133 d), (d, .dct (tokE it st l (j : Int) _))]) ?fp ⟨?fe0, ?fe1⟩; (case fp => (with_reducible repeat (first | exact Picks.nil | (apply Picks.cons; (focus (with_reducible repeat (first | exact Pick.head | apply Pick.tail))))))); (case fe0 => rfl); (case fe1 => rfl)))
  case c1 => exact rfl
  case c2 => exact rfl
  case c3 => exact rfl
theorem tell_S : ∀ {g : G} (HG : GK g) {t d : Addr} {it st : V} {l : List Nat} {j p : Nat} {s : List Nat} (hn : nxt l p = some (j, some s)), FnE g 108 [.ref t] 1 false (.int (p : Int)) ([(t, .inst 133 d), (d, .dct (tokE it st l (j : Int) (.str s)))]) ([(t, .inst 133 d), (d, .dct (tokE it st l (j : Int) (.str s)))]) := by
  k_fill
  intro g HG t d it st l j p s hn
  have H := HG.tk
  have hp := HG.hp
  have hK := HG.hK
  refine FnC.forget ?_
  refine' fn_intro (pn := [Str.ofString "self"]) (lo0 := [some (.ref t), none]) (X := fun _ _ _ => False) ?ho ?hcd ?hb ?hpn ?hlo ?hloc ?hnd ?hcell leaves_never ?h ?c1 ?c2 ?c3
  case ho => rw [hK]; k_is
  case hcd => rw [hK]; k_is
  case hb => intro s' cas' X' hv'; obtain ⟨c1', rfl, h1'⟩ := VRs1 hv'; exact BindsTo.of_eq rfl
  case hpn => decide
  case hlo => rfl
  case hloc => decide
  case hnd => decide
  case hcell => decide
  case h =>
    intro c ok hg henv hns hns' hcv hd hhq
    subst hg
    dsimp only at hns hns'
    have hh := hhq rfl
    obtain ⟨g1, g2, g3, g4, g5, g6, g7⟩ := nxt_sign hn
    repeat' (first | ((with_reducible show Then _ _ _ _ _ _ _); first | ((with_reducible refine then_ret ?_))) | ((with_reducible show W _ FR (execs _ _) _ _ _ _); first | ((with_reducible refine S_cons ?_))) | ((with_reducible show W _ VR (eval (Expr.Name _ _) _) _ _ _ _); first | ((with_reducible refine W_local (by (k_dflt (assumption)); done) (by (k_dflt (assumption)); done) (by (k_dflt (assumption)); done) (by (k_dflt ((with_reducible repeat (first | exact Has.here | apply Has.there)))); done) ?_)) | ((with_reducible refine W_bltT (by (k_dflt (assumption)); done) (by (k_dflt (assumption)); done) (by (k_dflt (assumption)); done) (by (k_dflt ((with_reducible repeat (first | exact InN.here | apply InN.there)))); done) (by (k_dflt ((with_reducible_and_instances repeat (first | exact List.Mem.head _ | apply List.Mem.tail)))); done) ?_))) | ((with_reducible show W _ VR (eval (Expr.Attribute _ _ _) _) _ _ _ _); first | (refine W_Attr ?_)) | ((with_reducible show W _ VR (eval (Expr.Call _ _ _ _) _) _ _ _ _); first | (refine W_Call (by assumption) (by rfl) ?_)) | ((with_reducible show W _ VR (eval (Expr.BinOp _ _ _ _) _) _ _ _ _); first | ((with_reducible refine W_BinOp ?_))) | ((with_reducible show W _ VR (eval (Expr.BoolOp _ _ _) _) _ _ _ _); first | ((with_reducible refine W_BoolOp ?_))) | ((with_reducible show W _ FR (exec (Stmt.Return (some _) _) _) _ _ _ _); first | ((with_reducible refine S_Return ?_))) | ((with_reducible show Op2 _ _ _ _ _ _ _ _); first | ((with_reducible refine sub_ints ?_))) | ((with_reducible show Tru _ _ _ _ _ _); first | ((with_reducible refine tru_str (by (k_dflt ((first | assumption | omega | decide | (simp only [List.length_append, List.length_cons, List.length_nil, List.length_drop, List.length_take, List.length_map] at *; omega)))); done) ?_))) | ((with_reducible show Cal _ _ _ _ _ _ _); first | ((with_reducible refine len_str (by (k_dflt ((first | assumption | omega | decide | (simp only [List.length_append, List.length_cons, List.length_nil, List.length_drop, List.length_take, List.length_map] at *; omega)))); done) ?_))) | ((with_reducible show Br (decide _) _ _); first | ((with_reducible refine br_yes (by assumption) ?_))) | ((with_reducible show Args _ _ _ _ _ _); first | ((with_reducible refine args_cons' ?_)) | ((with_reducible refine args_nil' ?_))) | ((with_reducible show ValAll _ _ _ _ _ _ _); first | ((with_reducible refine val_or ?_))) | ((with_reducible show FnQ _ _ _ _); first | ((with_reducible refine fnq_ret ?_))) | ((with_reducible show Kp _ _ ∧ _); first | ((with_reducible refine kp_and kp_blt ?_))) | ((with_reducible show GetA _ _ _ _ _ _ _); first | ((with_reducible refine geta_tk (by (k_dflt (assumption)); done) (by (k_dflt (assumption)); done) (by (k_dflt ((with_reducible_and_instances repeat (first | exact List.Mem.head _ | apply List.Mem.tail)))); done) (by (k_dflt ((with_reducible_and_instances repeat (first | exact List.Mem.head _ | apply List.Mem.tail)))); done) (by (k_dflt ((with_reducible_and_instances repeat (first | exact List.Mem.head _ | apply List.Mem.tail)))); done) (by (k_dflt ((with_reducible repeat (first | exact Ent.here | (apply Ent.there; (focus decide)))))); done) (by (k_dflt (first | exact rfl | exact handed_ovV _ | assumption)); done) ?_))) | fail)
    all_goals (rw [tell_some hn])
    all_goals first | ((refine' frg_intro (ob2 := [(t, .inst 133 d), (d, .dct (tokE it st l (j : Int) _))]) ?fp ⟨?fe0, ?fe1⟩; (case fp => (with_reducible repeat (first | exact Picks.nil | (apply Picks.cons; (focus (with_reducible repeat (first | exact Pick.head | apply Pick.tail))))))); (case fe0 => rfl); (case fe1 => rfl)))
  case c1 => exact rfl
  case c2 => exact rfl
  case c3 => exact rfl
theorem tell_O {g : G} (HG : GK g) {t d : Addr} {it st : V} {l : List Nat} {j p : Nat} {o : Option (List Nat)} (hn : nxt l p = some (j, o)) : FnE g 108 [.ref t] 1 false (.int (p : Int)) ([(t, .inst 133 d), (d, .dct (tokE it st l (j : Int) (ovV o)))]) ([(t, .inst 133 d), (d, .dct (tokE it st l (j : Int) (ovV o)))]) := by
  cases o with
  | none => exact tell_N HG hn
  | some s => exact tell_S HG hn
end Mine
end
section
open PySem PySem.W PyProof.Rows PySem.Spec PySem.Calls
set_option Elab.async false
set_option linter.unusedVariables false
set_option pp.maxSteps 600
namespace Mine
set_option maxRecDepth 100000
set_option maxHeartbeats 4000000
def sgn (n : Int) : Nat := ([97, 98, 10, 92, 92, 92][(n.fmod 6).toNat]?).getD 0
theorem sgn_mem (n : Int) : sgn n ∈ [97, 98, 10, 92] := by
  have h1 := fmod_lo n (n := 6) (by decide)
  have h2 := fmod_hi n (n := 6) (by decide)
  unfold sgn
  have : (n.fmod 6).toNat < 6 := by omega
  generalize (n.fmod 6).toNat = k at *
  match k, this with
  | 0, _ | 1, _ | 2, _ | 3, _ | 4, _ | 5, _ => decide
theorem foo : PySem.Challenge.rw_kq0017_11.Holds := by
  refine Mine.hd ?_
  k_go0
  (all_goals try k_fold)
  refine wpAny_noRaise ?_
  rename_i w s0 s1 mg mb Gz Y fa o pm doc kV ho hgens KX Xz Vz GL T B TE TW q9 q8 M q7 q6 hcd ns hs hlay0 hL1 hr1 hl2 w4 w3 D ws w0 hL ra ww r0 hI hr hcond1 hcond K0 hDf h1 F N0
  refine law_enter (g := ⟨_, _, _, _, _, _, _, _, _, s1.os, s1.gens⟩) (lo0 := [some (.ref D), none, none, none, none, none, none, none, none, none, none, none, none, none, none, none, none]) (m := _) _ KX T rfl rfl rfl rfl ?nd F ?lr rfl rfl ?fin ?body
  case nd => dsimp only [envOf]; decide
  case lr =>
    intro x v hx
    dsimp only at hx
    cases hx with
    | here => exact ⟨_, rfl, rfl⟩
    | there hx => exfalso; revert hx; intro hx; (repeat (cases hx with | there hx => ?_)); cases hx
  case fin =>
    intro s' hk ho' hg'
    exact ⟨.inl ⟨_, _, [], rfl, (fun _ => rfl), ReadsW.bool true, (by first | rfl | wrow_post), fun _ => ⟨List.nodup_nil, fun _ hm => (nomatch hm)⟩⟩, hk, ho', hg'.trans hgens⟩
  case body =>
    intro c ok hg henv hns hcv hd hh
    have hns' := hns
    rw [henv.symm] at hns'
    dsimp only at hns
    have hns2 : c.env.scope.names = c.ns := hns'.symm
    rw [hns] at hns2
    have hp : c.g.prog = PySem.Challenge.rw_kq0017_11.row.prog := congrArg G.prog hg
    have hK : c.g.K = Mine.hd.heap_39 c.g.w.params := by rw [show c.g.w = w from congrArg G.w hg]; exact congrArg G.K hg
    have HG : GK c.g := gk _ hp hK
    have H := HG.tk
    have hbase : BaseL c D (ns.map V.int) := ⟨ws, by rw [show c.g.hb = s1.heap from congrArg G.hb hg]; exact hL, vrs_ints hI⟩
    have hlen : ns.length ≤ 63 := by omega
    dsimp only [envOf] at hns hns2
    clear hns' henv hg N0 F h1 hDf K0 hcond hcond1 hr hI r0 ww ra hL w0 ws w3 w4 hl2 hr1 hL1 hlay0 hs hcd q6 q7 M q8 q9 TW TE B T GL Vz Xz KX hgens ho kV doc pm o fa Y Gz mb mg s1 s0 w
    repeat' (first | ((with_reducible show W _ FR (execs _ _) _ _ _ _); first | ((with_reducible refine S_cons ?_))) | ((with_reducible show W _ VR (eval (Expr.Name _ _) _) _ _ _ _); first | ((with_reducible refine W_local (by (k_dflt (assumption)); done) (by (k_dflt (assumption)); done) (by (k_dflt (assumption)); done) (by (k_dflt ((with_reducible repeat (first | exact Has.here | apply Has.there)))); done) ?_))) | ((with_reducible show W _ VR (eval (Expr.Constant (Const.int _) _ _) _) _ _ _ _); first | ((with_reducible refine W_int ?_))) | ((with_reducible show W _ VR (eval (Expr.Constant (Const.str _) _ _) _) _ _ _ _); first | ((with_reducible refine W_str lit0 ?_))) | ((with_reducible show W _ VR (eval (Expr.Call (Expr.Attribute _ _ _) _ _ _) _) _ _ _ _); first | (refine W_Method (by assumption) (by rfl) ?_)) | ((with_reducible show W _ VR (eval (Expr.BinOp _ _ _ _) _) _ _ _ _); first | ((with_reducible refine W_BinOp ?_))) | ((with_reducible show W _ VR (eval (Expr.Subscript _ (Expr.Slice _ _ none _) _) _) _ _ _ _); first | (refine W_Slice ?_)) | ((with_reducible show W _ VR (eval (Expr.ListComp _ _ _ _) _) _ _ _ _); first | ((refine W_Comp0 (by (k_dflt (assumption)); done) (by (k_dflt (decide)); done) (by (k_dflt (exact rfl)); done) (by (k_dflt (decide)); done) (by (k_dflt (exact rfl)); done) (by (k_dflt (decide)); done) (by (k_dflt (exact rfl)); done) (by (k_dflt (decide)); done) ?_))) | ((with_reducible show W _ FR (exec (Stmt.Assign [Expr.Name _ _] _ _) _) _ _ _ _); first | (refine S_Assign ?_)) | ((with_reducible show Args _ _ _ _ _ _); first | ((with_reducible refine args_cons' ?_))) | ((with_reducible show Kp _ _ ∧ _); first | ((with_reducible refine kp_and kp_blt ?_))) | ((with_reducible show Part _ _ _ _ _ _); first | ((with_reducible refine part_none ?_)) | ((with_reducible refine part_some ?_))) | ((with_reducible show ∃ _, V.int _ = V.int _ ∧ _); first | ((with_reducible refine int_ex ?_))) | ((with_reducible show Cut _ _ _ _ _ _ _ _ _ _); first | ((refine cut_list (by (k_dflt ((first | (refine' Or.inl ?lm; (case lm => (with_reducible_and_instances repeat (first | exact List.Mem.head _ | apply List.Mem.tail)))) | exact LA.base (by assumption)))); done) (by (k_dflt ((first | assumption | omega | decide | (simp only [List.length_append, List.length_cons, List.length_nil, List.length_drop, List.length_take, List.length_map] at *; omega)))); done) ?_); intro _)) | ((with_reducible show GetM _ _ _ _ _ _ _); first | (with_reducible refine getm_str PySem.F.slot_str_join PySem.F.type_str_join ?_)) | fail)
    have ecut : cut (ns.map V.int) none (some 6) = (ns.take 6).map V.int := cut_ns_map (k := 6)
    rw [ecut]
    repeat' (first | ((with_reducible show CompF _ _ _ _ _ _ _ _ _); first | ((refine compF (Itr_list (by (k_dflt (assumption)); done) (by (k_dflt ((with_reducible repeat (first | exact Picks.nil | (apply Picks.cons; (focus (with_reducible repeat (first | exact Pick.head | apply Pick.tail)))))))); done)) (by (k_dflt ((first | assumption | omega | decide | (simp only [List.length_append, List.length_cons, List.length_nil, List.length_drop, List.length_take, List.length_map] at *; omega)))); done) ?_))) | fail)
    refine CompE.mapk (fun n => V.str [sgn n]) (fun n hn c2 ok2 hg2 hn2 hcv2 hd2 hB2 => ?_) ?_
    · have H2 : GK c2.g := by rw [hg2]; exact HG
      have H3 := H2.tk
      have hh2 : c2.B.handled = none := by rw [hB2]; exact hh
      have h1 := fmod_lo n (n := 6) (by decide)
      have h2 := fmod_hi n (n := 6) (by decide)
      dsimp only at hn2
      repeat' (first | ((with_reducible show W _ VR (eval (Expr.Name _ _) _) _ _ _ _); first | ((with_reducible refine W_comp (by (k_dflt (assumption)); done) (by (k_dflt (assumption)); done) (by (k_dflt (assumption)); done) (by (k_dflt ((with_reducible repeat (first | exact InN.here | apply InN.there)))); done) (by (k_dflt ((with_reducible_and_instances repeat (first | exact List.Mem.head _ | apply List.Mem.tail)))); done) ?_))) | ((with_reducible show W _ VR (eval (Expr.Constant (Const.int _) _ _) _) _ _ _ _); first | ((with_reducible refine W_int ?_))) | ((with_reducible show W _ VR (eval (Expr.Constant (Const.str _) _ _) _) _ _ _ _); first | ((with_reducible refine W_str lit1 ?_)) | ((with_reducible refine W_str lit3 ?_))) | ((with_reducible show W _ VR (eval (Expr.BinOp _ _ _ _) _) _ _ _ _); first | ((with_reducible refine W_BinOp ?_))) | ((with_reducible show W _ VR (eval (Expr.Subscript _ _ _) _) _ _ _ _); first | (refine W_Sub ?_)) | ((with_reducible show Op2 _ _ _ _ _ _ _ _); first | ((with_reducible refine mod_ints (by (k_dflt ((first | assumption | omega | decide | (simp only [List.length_append, List.length_cons, List.length_nil, List.length_drop, List.length_take, List.length_map] at *; omega)))); done) ?_)) | ((with_reducible refine add_strs (by (k_dflt ((first | assumption | omega | decide | (simp only [List.length_append, List.length_cons, List.length_nil, List.length_drop, List.length_take, List.length_map] at *; omega)))); done) ?_)) | ((with_reducible refine mul_int_str (by (k_dflt ((first | assumption | omega | decide | (simp only [List.length_append, List.length_cons, List.length_nil, List.length_drop, List.length_take, List.length_map] at *; omega)))); done) (by (k_dflt ((first | assumption | omega | decide | (simp only [List.length_append, List.length_cons, List.length_nil, List.length_drop, List.length_take, List.length_map] at *; omega)))); done) (by (k_dflt ((first | assumption | omega | decide | (simp only [List.length_append, List.length_cons, List.length_nil, List.length_drop, List.length_take, List.length_map] at *; omega)))); done) ?_))) | ((with_reducible show Sub2 _ _ _ _ _ _ _ _ _); first | ((refine sub_str (by assumption) (by omega) (by omega) ?_ ?_); (focus (intro _ _)); rotate_left; (focus (intro _; first | (exfalso; exact stepA_bad (by assumption) (by assumption) (by assumption) (by assumption)) | (exfalso; exact run_outA (by assumption) (by assumption)) | intro _)); rotate_right)) | fail)
      all_goals first
        | (refine ⟨?_, rfl, rfl⟩
           with_reducible rename getElem? _ _ = some _ => hk
           rw [show ([97, 98, 10] ++ (List.replicate (Int.toNat 3) [92]).flatten : List Nat) = [97, 98, 10, 92, 92, 92] from rfl] at hk
           unfold sgn
           rw [hk]
           rfl)
        | (with_reducible rename getElem? _ _ = none => hk
           rw [show ([97, 98, 10] ++ (List.replicate (Int.toNat 3) [92]).flatten : List Nat) = [97, 98, 10, 92, 92, 92] from rfl, List.getElem?_eq_none_iff] at hk
           simp only [List.length_cons, List.length_nil] at hk
           omega)
    · have e2 : (ns.take 6).map (fun n => V.str [sgn n]) = ((ns.take 6).map sgn).map fun k => V.str [k] := by rw [List.map_map]; rfl
      rw [e2]
      have hl0 : ((ns.take 6).map sgn).length ≤ 6 := by simp; omega
      have hm0 : ∀ k ∈ (ns.take 6).map sgn, k ∈ [97, 98, 10, 92] := by
        intro k hk
        obtain ⟨n, _, rfl⟩ := List.mem_map.mp hk
        exact sgn_mem n
      generalize (ns.take 6).map sgn = l0 at *
      clear e2 ecut
      intro Dc
      repeat' (first | ((with_reducible show Then _ _ _ _ _ _ _); first | ((with_reducible refine then_next ?_))) | ((with_reducible show W _ FR (execs _ _) _ _ _ _); first | ((with_reducible refine S_cons ?_))) | ((with_reducible show W _ VR (eval (Expr.Name _ _) _) _ _ _ _); first | ((with_reducible refine W_local (by (k_dflt (assumption)); done) (by (k_dflt (assumption)); done) (by (k_dflt (assumption)); done) (by (k_dflt ((with_reducible repeat (first | exact Has.here | apply Has.there)))); done) ?_)) | ((with_reducible refine W_bltT (by (k_dflt (assumption)); done) (by (k_dflt (assumption)); done) (by (k_dflt (assumption)); done) (by (k_dflt ((with_reducible repeat (first | exact InN.here | apply InN.there)))); done) (by (k_dflt ((with_reducible_and_instances repeat (first | exact List.Mem.head _ | apply List.Mem.tail)))); done) ?_))) | ((with_reducible show W _ VR (eval (Expr.Constant (Const.int _) _ _) _) _ _ _ _); first | ((with_reducible refine W_int ?_))) | ((with_reducible show W _ VR (eval (Expr.Constant (Const.str _) _ _) _) _ _ _ _); first | ((with_reducible refine W_str lit4 ?_))) | ((with_reducible show W _ VR (eval (Expr.Call _ _ _ _) _) _ _ _ _); first | (refine W_Call (by assumption) (by rfl) ?_)) | ((with_reducible show W _ VR (eval (Expr.BinOp _ _ _ _) _) _ _ _ _); first | ((with_reducible refine W_BinOp ?_))) | ((with_reducible show W _ FR (exec (Stmt.For _ _ _ _ _) _) _ _ _ _); first | (refine S_For ?_)) | ((with_reducible show Op2 _ _ _ _ _ _ _ _); first | ((with_reducible refine add_ints ?_)) | ((with_reducible refine add_strs (by (k_dflt ((first | assumption | omega | decide | (simp only [List.length_append, List.length_cons, List.length_nil, List.length_drop, List.length_take, List.length_map] at *; omega)))); done) ?_))) | ((with_reducible show Cal _ _ _ _ _ _ _); first | ((with_reducible refine cal_app ?_)) | ((with_reducible refine len_str (by (k_dflt ((first | assumption | omega | decide | (simp only [List.length_append, List.length_cons, List.length_nil, List.length_drop, List.length_take, List.length_map] at *; omega)))); done) ?_)) | ((with_reducible refine range_1 ?_); intro _) | ((with_reducible refine join_signs' (by (k_dflt ((first | (refine' Or.inl ?lm; (case lm => (with_reducible_and_instances repeat (first | exact List.Mem.head _ | apply List.Mem.tail)))) | exact LA.base (by assumption)))); done) (by (k_dflt ((first | assumption | omega | decide | (simp only [List.length_append, List.length_cons, List.length_nil, List.length_drop, List.length_take, List.length_map] at *; omega)))); done) ?_))) | ((with_reducible show Args _ _ _ _ _ _); first | ((with_reducible refine args_cons' ?_)) | ((with_reducible refine args_nil' ?_))) | ((with_reducible show Kp _ _ ∧ _); first | ((with_reducible refine kp_and kp_blt ?_)) | ((with_reducible refine kp_and kp_type ?_))) | ((with_reducible show Sto _ _ _ _ _ _ _); first | ((with_reducible refine Sto_local (by (k_dflt (assumption)); done) (by (k_dflt (assumption)); done) (by (k_dflt (assumption)); done) (by (k_dflt ((with_reducible repeat (first | exact Put.here | apply Put.there)))); done) ?_))) | fail)
      have hll : (l0 ++ [97]).length ≤ 7 := by simp; omega
      have hc8 : ∀ c ∈ l0 ++ [97], c < 256 := by
        intro c hc
        have hc2 : c ∈ [97, 98, 10, 92] := by
          rcases List.mem_append.mp hc with h | h
          · exact hm0 c h
          · rw [List.mem_singleton.mp h]; decide
        simp only [List.mem_cons, List.not_mem_nil, or_false] at hc2
        rcases hc2 with rfl | rfl | rfl | rfl <;> decide
      generalize hl : l0 ++ [97] = l at *
      have hl1 : l.length ≤ 1000 := by omega
      rename_i R0
      refine' For_range (n := l.length + 1) ?rh ?rE ?rp ?rs ?rn ?_
      case rh => assumption
      case rE => exact passes_never
      case rp => (with_reducible repeat (first | exact Picks.nil | (apply Picks.cons; (focus (with_reducible repeat (first | exact Pick.head | apply Pick.tail))))))
      case rs => exact small_one (by omega) (by omega) (by omega) (by omega)
      case rn => exact rangeSize_nat _ (l.length + 1)
      refine' ⟨_, [], _, LoS.refl, Picks.nil, ?_⟩
      refine forW_inv (fun k lo ob => ∃ x1 x2 x3 x4 x5 x6 x7 x8 x9 x10, lo = [some (.ref D), some (.str l), x1, x2, x3, x4, x5, x6, x7, x8, x9, x10, none, none, none, none, none] ∧ ob = []) (fun k v lo ob hv hI => ?_) (fun lo ob hI => ?_) ⟨_, _, _, _, _, _, _, _, _, _, rfl, rfl⟩
      · obtain ⟨x1, x2, x3, x4, x5, x6, x7, x8, x9, x10, rfl, rfl⟩ := hI
        obtain ⟨hk, rfl⟩ : k < l.length + 1 ∧ V.int (0 + (k : Int)) = v := by
          rw [List.getElem?_map] at hv
          by_cases hk : k < l.length + 1
          · rw [List.getElem?_range hk] at hv
            exact ⟨hk, by simpa using hv⟩
          · rw [List.getElem?_eq_none (by simpa using hk)] at hv
            cases hv
        clear hv
        repeat' (first | ((with_reducible show W _ FR (execs _ _) _ _ _ _); first | ((with_reducible refine S_cons ?_))) | ((with_reducible show W _ VR (eval (Expr.Constant (Const.str _) _ _) _) _ _ _ _); first | ((with_reducible refine W_str lit4 ?_)) | ((with_reducible refine W_str lit5 ?_)) | ((with_reducible refine W_str lit6 ?_))) | ((with_reducible show W _ VR (eval (Expr.Tuple _ _ _) _) _ _ _ _); first | (refine W_Tuple (by rfl) ?_)) | ((with_reducible show W _ FR (exec (Stmt.For _ _ _ _ _) _) _ _ _ _); first | (refine S_For ?_)) | ((with_reducible show Args _ _ _ _ _ _); first | ((with_reducible refine args_cons' ?_)) | ((with_reducible refine args_nil' ?_))) | ((with_reducible show _ ≤ _ ∧ _); first | ((with_reducible refine disp (by (k_dflt ((first | assumption | omega | decide | (simp only [List.length_append, List.length_cons, List.length_nil, List.length_drop, List.length_take, List.length_map] at *; omega)))); done) ?_); intro _)) | ((with_reducible show Asg _ _ _ _ _ _ _); first | ((with_reducible refine asg_name ?_))) | ((with_reducible show Sto _ _ _ _ _ _ _); first | ((with_reducible refine Sto_local (by (k_dflt (assumption)); done) (by (k_dflt (assumption)); done) (by (k_dflt (assumption)); done) (by (k_dflt ((with_reducible repeat (first | exact Put.here | apply Put.there)))); done) ?_))) | fail)
        rename_i T1
        refine' For_tup ?gh ?gE ?gp ?_
        case gh => assumption
        case gE => exact passes_never
        case gp => (with_reducible repeat (first | exact Picks.nil | (apply Picks.cons; (focus (with_reducible repeat (first | exact Pick.head | apply Pick.tail))))))
        refine' ⟨_, [], _, LoS.refl, Picks.nil, ?_⟩
        refine forW_inv (fun i lo ob => ∃ x2 x3 x4 x5 x6 x7 x8 x9 x10, lo = [some (.ref D), some (.str l), some (.int (0 + (k : Int))), x2, x3, x4, x5, x6, x7, x8, x9, x10, none, none, none, none, none] ∧ ob = []) (fun i v lo ob hv hI => ?_) (fun lo ob hI => ?_) ⟨_, _, _, _, _, _, _, _, _, rfl, rfl⟩
        · obtain ⟨x2, x3, x4, x5, x6, x7, x8, x9, x10, rfl, rfl⟩ := hI
          obtain ⟨tl, rfl, m0, htl, htl2, htl3⟩ : ∃ tl, v = .str tl ∧ ∃ m0, m0 ++ [97] = tl ∧ tl.length ≤ 2 ∧ ∀ c ∈ tl, c < 256 := by
            have := List.mem_of_getElem? hv
            simp only [List.mem_cons, List.not_mem_nil, or_false] at this
            rcases this with rfl | rfl | rfl
            · exact ⟨_, rfl, [], rfl, by decide, by decide⟩
            · exact ⟨_, rfl, [98], rfl, by decide, by decide⟩
            · exact ⟨_, rfl, [92], rfl, by decide, by decide⟩
          clear hv
          repeat' (first | ((with_reducible show Then _ _ _ _ _ _ _); first | ((with_reducible refine then_next ?_))) | ((with_reducible show W _ FR (execs _ _) _ _ _ _); first | ((with_reducible refine S_cons ?_))) | ((with_reducible show W _ VR (eval (Expr.Name _ _) _) _ _ _ _); first | ((with_reducible refine W_local (by (k_dflt (assumption)); done) (by (k_dflt (assumption)); done) (by (k_dflt (assumption)); done) (by (k_dflt ((with_reducible repeat (first | exact Has.here | apply Has.there)))); done) ?_))) | ((with_reducible show W _ VR (eval (Expr.Constant (Const.int _) _ _) _) _ _ _ _); first | ((with_reducible refine W_int ?_))) | ((with_reducible show W _ VR (eval (Expr.BinOp _ _ _ _) _) _ _ _ _); first | ((with_reducible refine W_BinOp ?_))) | ((with_reducible show W _ VR (eval (Expr.Subscript _ (Expr.Slice _ _ none _) _) _) _ _ _ _); first | (refine W_Slice ?_)) | ((with_reducible show W _ FR (exec (Stmt.Assign [Expr.Name _ _] _ _) _) _ _ _ _); first | (refine S_Assign ?_)) | ((with_reducible show Op2 _ _ _ _ _ _ _ _); first | ((with_reducible refine add_strs (by (k_dflt ((first | assumption | omega | decide | (simp only [List.length_append, List.length_cons, List.length_nil, List.length_drop, List.length_take, List.length_map] at *; omega)))); done) ?_))) | ((with_reducible show Asg _ _ _ _ _ _ _); first | ((with_reducible refine asg_name ?_))) | ((with_reducible show Sto _ _ _ _ _ _ _); first | ((with_reducible refine Sto_local (by (k_dflt (assumption)); done) (by (k_dflt (assumption)); done) (by (k_dflt (assumption)); done) (by (k_dflt ((with_reducible repeat (first | exact Put.here | apply Put.there)))); done) ?_))) | ((with_reducible show Part _ _ _ _ _ _); first | ((with_reducible refine part_none ?_)) | ((with_reducible refine part_some ?_))) | ((with_reducible show ∃ _, V.int _ = V.int _ ∧ _); first | ((with_reducible refine int_ex ?_))) | ((with_reducible show Cut _ _ _ _ _ _ _ _ _ _); first | ((refine cut_str_ns (by (k_dflt (omega)); done) (by (k_dflt ((first | assumption | omega | decide | (simp only [List.length_append, List.length_cons, List.length_nil, List.length_drop, List.length_take, List.length_map] at *; omega)))); done) ?_))) | fail)
          have hm1 : (l.take (0 + (k : Int)).toNat ++ tl).length ≤ 1000 := by simp; omega
          have hm8 : ∀ c ∈ l.take (0 + (k : Int)).toNat ++ tl, c < 256 := by
            intro c hc
            rcases List.mem_append.mp hc with h | h
            · exact hc8 c (List.mem_of_mem_take h)
            · exact htl3 c h
          have hmE : (l.take (0 + (k : Int)).toNat ++ m0) ++ [97] = l.take (0 + (k : Int)).toNat ++ tl := by rw [← htl, List.append_assoc]
          generalize l.take (0 + (k : Int)).toNat ++ tl = m at *
          generalize l.take (0 + (k : Int)).toNat ++ m0 = m00 at hmE
          refine W.mono (Q := fun f lo ob => f = AF.next ∧ ∃ q, Most l m q ∧ lo = [some (.ref D), some (.str l), some (.int (0 + (k : Int))), some (.str tl), some (.str m), some (.int (q : Int)), x5, x6, x7, x8, x9, x10, none, none, none, none, none] ∧ ob = []) ?w1 ?w2 (fun _ _ _ x => x)
          case w1 =>
            refine' S_While (fun n lo ob => ∃ q, Pre l m q ∧ n = l.length - q ∧ lo = [some (.ref D), some (.str l), some (.int (0 + (k : Int))), some (.str tl), some (.str m), some (.int (q : Int)), x5, x6, x7, x8, x9, x10, none, none, none, none, none] ∧ ob = []) passes_never (Wkn.of ⟨_, 0, Pre.zero, rfl, rfl, rfl⟩) ?_
            rintro n lo ob ⟨q, hq, rfl, rfl, rfl⟩
            have hq1 := hq.1
            have hq2 := hq.2.1
            repeat' (first | ((with_reducible show Then _ _ _ _ _ _ _); first | ((with_reducible refine then_next ?_))) | ((with_reducible show W _ FR (execs _ _) _ _ _ _); first | ((with_reducible refine S_cons ?_)) | ((with_reducible refine S_nil ?_))) | ((with_reducible show W _ VR (eval (Expr.Name _ _) _) _ _ _ _); first | ((with_reducible refine W_local (by (k_dflt (assumption)); done) (by (k_dflt (assumption)); done) (by (k_dflt (assumption)); done) (by (k_dflt ((with_reducible repeat (first | exact Has.here | apply Has.there)))); done) ?_)) | ((with_reducible refine W_bltT (by (k_dflt (assumption)); done) (by (k_dflt (assumption)); done) (by (k_dflt (assumption)); done) (by (k_dflt ((with_reducible repeat (first | exact InN.here | apply InN.there)))); done) (by (k_dflt ((with_reducible_and_instances repeat (first | exact List.Mem.head _ | apply List.Mem.tail)))); done) ?_))) | ((with_reducible show W _ VR (eval (Expr.Constant (Const.int _) _ _) _) _ _ _ _); first | ((with_reducible refine W_int ?_))) | ((with_reducible show W _ VR (eval (Expr.Call _ _ _ _) _) _ _ _ _); first | (refine W_Call (by assumption) (by rfl) ?_)) | ((with_reducible show W _ VR (eval (Expr.Subscript _ _ _) _) _ _ _ _); first | (refine W_Sub ?_)) | ((with_reducible show W _ FR (exec (Stmt.AugAssign (Expr.Name _ _) _ _ _) _) _ _ _ _); first | ((with_reducible refine S_Aug (by (k_dflt (assumption)); done) (by (k_dflt (assumption)); done) (by (k_dflt (assumption)); done) (by (k_dflt ((with_reducible repeat (first | exact Has.here | apply Has.there)))); done) ?_))) | ((with_reducible show W _ BR (isTrue (Expr.BoolOp _ _ _) _ _) _ _ _ _); first | ((with_reducible refine T_BoolOp ?_))) | ((with_reducible show W _ BR (isTrue (Expr.Compare _ _ _ _) _ _) _ _ _ _); first | (refine T_Compare ?_)) | ((with_reducible show Op2 _ _ _ _ _ _ _ _); first | ((with_reducible refine iadd_ints ?_)) | ((with_reducible refine lt_ints ?_)) | ((with_reducible refine eq_strs ?_))) | ((with_reducible show Tru _ _ _ _ _ _); first | ((with_reducible refine tru_bool ?_))) | ((with_reducible show Cal _ _ _ _ _ _ _); first | ((with_reducible refine len_str (by (k_dflt ((first | assumption | omega | decide | (simp only [List.length_append, List.length_cons, List.length_nil, List.length_drop, List.length_take, List.length_map] at *; omega)))); done) ?_)) | ((with_reducible refine min_ints (by (k_dflt (assumption)); done) ?_))) | ((with_reducible show Br true _ _); first | ((with_reducible refine br_t ?_))) | ((with_reducible show Br false _ _); first | ((with_reducible refine br_f ?_))) | ((with_reducible show Br (decide _) _ _); first | (with_reducible refine br_dec ?_ ?_ <;> intro _)) | ((with_reducible show Args _ _ _ _ _ _); first | ((with_reducible refine args_cons' ?_)) | ((with_reducible refine args_nil' ?_))) | ((with_reducible show TstAll _ _ _ _ _ _ _); first | ((with_reducible refine tst_and ?_)) | ((with_reducible refine tst_and_nil ?_))) | ((with_reducible show WhileQ _ _ _ _ _ _ _); first | ((with_reducible refine whileq_next ?_))) | ((with_reducible show Kp _ _ ∧ _); first | ((with_reducible refine kp_and kp_blt ?_))) | ((with_reducible show Sto _ _ _ _ _ _ _); first | ((with_reducible refine Sto_local (by (k_dflt (assumption)); done) (by (k_dflt (assumption)); done) (by (k_dflt (assumption)); done) (by (k_dflt ((with_reducible repeat (first | exact Put.here | apply Put.there)))); done) ?_))) | ((with_reducible show Sub2 _ _ _ _ _ _ _ _ _); first | ((refine sub_str (by assumption) (by omega) (by omega) ?_ ?_); (focus (intro _ _)); rotate_left; (focus (intro _; first | (exfalso; exact stepA_bad (by assumption) (by assumption) (by assumption) (by assumption)) | (exfalso; exact run_outA (by assumption) (by assumption)) | intro _)); rotate_right)) | fail)
            all_goals first
              | exact ⟨rfl, q, most_end hq (by assumption), rfl, rfl⟩
              | exact ⟨rfl, q, most_stop hq (by assumption) (by assumption) (by assumption), rfl, rfl⟩
              | exact Wkn.of ⟨l.length - (q + 1), by omega, q + 1, pre_step hq (by assumption) (by assumption) (by assumption), rfl, rfl, rfl⟩
              | exact get_none (pre_lt (by assumption)).1 (by assumption)
              | exact get_none (pre_lt (by assumption)).2 (by assumption)
          case w2 =>
            rintro _ _ _ ⟨rfl, q, hq, rfl, rfl⟩
            have hrs : (rstr (List.take ((q : Nat) : Int).toNat l) 92).length ≤ 1000 := by
              have := (rstr_run hq.1.1).1
              have := hq.1.1
              rw [Int.toNat_natCast]
              omega
            obtain ⟨j1, o1, hn1⟩ := nxt_ok hl (by decide) 0
            obtain ⟨j2, o2, hn2⟩ := nxt_ok hmE (by decide) 0
            repeat' (first | ((with_reducible show Cal _ _ _ _ _ _ _); first | ((refine new_S (by (k_dflt (assumption)); done) (by (k_dflt (assumption)); done) (by (k_dflt (assumption)); done) (by (k_dflt (assumption)); done) (by (k_dflt (omega)); done) (by (k_dflt (assumption)); done) ?_); intro _ _) | ((refine new_B (by (k_dflt (assumption)); done) (by (k_dflt (assumption)); done) (by (k_dflt (assumption)); done) (by (k_dflt (assumption)); done) (by (k_dflt (omega)); done) (by (k_dflt (assumption)); done) ?_); intro _ _)) | ((with_reducible show Cal _ _ _ _ _ _ _); first | ((refine cal_E (by (k_dflt (assumption)); done) (by (k_dflt ((with_reducible repeat (first | exact Picks.nil | (apply Picks.cons; (focus (with_reducible repeat (first | exact Pick.head | apply Pick.tail)))))))); done) (octets_F (by assumption) (by (k_dflt (assumption)); done) (by (k_dflt (assumption)); done)) (by (k_dflt ((with_reducible repeat (first | exact App.nil | apply App.cons)))); done) (by (k_dflt (omega)); done) (by (k_dflt (first | exact .inl rfl | exact .inr (by assumption))); done) ?_))) | ((with_reducible show Then _ _ _ _ _ _ _); first | ((with_reducible refine then_next ?_))) | ((with_reducible show W _ FR (execs _ _) _ _ _ _); first | ((with_reducible refine S_cons ?_))) | ((with_reducible show W _ VR (eval (Expr.Name _ _) _) _ _ _ _); first | ((with_reducible refine W_local (by (k_dflt (assumption)); done) (by (k_dflt (assumption)); done) (by (k_dflt (assumption)); done) (by (k_dflt ((with_reducible repeat (first | exact Has.here | apply Has.there)))); done) ?_)) | ((with_reducible refine W_globT (by (k_dflt (assumption)); done) (by (k_dflt (assumption)); done) (by (k_dflt (assumption)); done) (by (k_dflt ((with_reducible repeat (first | exact InN.here | apply InN.there)))); done) (by (k_dflt ((with_reducible_and_instances repeat (first | exact List.Mem.head _ | apply List.Mem.tail)))); done) ?_)) | ((with_reducible refine W_bltT (by (k_dflt (assumption)); done) (by (k_dflt (assumption)); done) (by (k_dflt (assumption)); done) (by (k_dflt ((with_reducible repeat (first | exact InN.here | apply InN.there)))); done) (by (k_dflt ((with_reducible_and_instances repeat (first | exact List.Mem.head _ | apply List.Mem.tail)))); done) ?_))) | ((with_reducible show W _ VR (eval (Expr.Constant (Const.int _) _ _) _) _ _ _ _); first | ((with_reducible refine W_int ?_))) | ((with_reducible show W _ VR (eval (Expr.Constant (Const.str _) _ _) _) _ _ _ _); first | ((with_reducible refine W_str lit1 ?_))) | ((with_reducible show W _ VR (eval (Expr.Call (Expr.Attribute _ _ _) _ _ _) _) _ _ _ _); first | (refine W_Method (by assumption) (by rfl) ?_)) | ((with_reducible show W _ VR (eval (Expr.Call _ _ _ _) _) _ _ _ _); first | (refine W_Call (by assumption) (by rfl) ?_)) | ((with_reducible show W _ VR (eval (Expr.BinOp _ _ _ _) _) _ _ _ _); first | ((with_reducible refine W_BinOp ?_))) | ((with_reducible show W _ VR (eval (Expr.Subscript _ (Expr.Slice _ _ none _) _) _) _ _ _ _); first | (refine W_Slice ?_)) | ((with_reducible show W _ VR (eval (Expr.Tuple _ _ _) _) _ _ _ _); first | (refine W_Tuple (by rfl) ?_)) | ((with_reducible show W _ FR (exec (Stmt.Assign [Expr.Name _ _] _ _) _) _ _ _ _); first | (refine S_Assign ?_)) | ((with_reducible show W _ FR (exec (Stmt.For _ _ _ _ _) _) _ _ _ _); first | (refine S_For ?_)) | ((with_reducible show Op2 _ _ _ _ _ _ _ _); first | ((with_reducible refine sub_ints ?_)) | ((with_reducible refine mod_ints (by (k_dflt ((first | assumption | omega | decide | (simp only [List.length_append, List.length_cons, List.length_nil, List.length_drop, List.length_take, List.length_map] at *; omega)))); done) ?_))) | ((with_reducible show Cal _ _ _ _ _ _ _); first | ((with_reducible refine cal_app ?_)) | ((with_reducible refine len_str (by (k_dflt ((first | assumption | omega | decide | (simp only [List.length_append, List.length_cons, List.length_nil, List.length_drop, List.length_take, List.length_map] at *; omega)))); done) ?_)) | ((with_reducible refine rstrip_1 (by (k_dflt ((first | assumption | omega | decide | (simp only [List.length_append, List.length_cons, List.length_nil, List.length_drop, List.length_take, List.length_map] at *; omega)))); done) ?_))) | ((with_reducible show Args _ _ _ _ _ _); first | ((with_reducible refine args_cons' ?_)) | ((with_reducible refine args_nil' ?_))) | ((with_reducible show Kp _ _ ∧ _); first | ((with_reducible refine kp_and kp_blt ?_)) | ((with_reducible refine kp_fun (by (k_dflt (assumption)); done) (by (k_dflt ((with_reducible_and_instances repeat (first | exact List.Mem.head _ | apply List.Mem.tail)))); done) ?_))) | ((with_reducible show _ ≤ _ ∧ _); first | ((with_reducible refine disp (by (k_dflt ((first | assumption | omega | decide | (simp only [List.length_append, List.length_cons, List.length_nil, List.length_drop, List.length_take, List.length_map] at *; omega)))); done) ?_); intro _)) | ((with_reducible show Sto _ _ _ _ _ _ _); first | ((with_reducible refine Sto_local (by (k_dflt (assumption)); done) (by (k_dflt (assumption)); done) (by (k_dflt (assumption)); done) (by (k_dflt ((with_reducible repeat (first | exact Put.here | apply Put.there)))); done) ?_))) | ((with_reducible show Part _ _ _ _ _ _); first | ((with_reducible refine part_none ?_)) | ((with_reducible refine part_some ?_))) | ((with_reducible show ∃ _, V.int _ = V.int _ ∧ _); first | ((with_reducible refine int_ex ?_))) | ((with_reducible show Cut _ _ _ _ _ _ _ _ _ _); first | ((refine cut_str_ns (by (k_dflt (omega)); done) (by (k_dflt ((first | assumption | omega | decide | (simp only [List.length_append, List.length_cons, List.length_nil, List.length_drop, List.length_take, List.length_map] at *; omega)))); done) ?_))) | ((with_reducible show GetM _ _ _ _ _ _ _); first | (with_reducible refine getm_str PySem.F.slot_str_rstrip PySem.F.type_str_rstrip ?_)) | fail)
            rw [end_of hq.1.1]
            obtain ⟨E, hE⟩ : ∃ E, q - runAt l q % 2 = E := ⟨_, rfl⟩
            rw [hE]
            rename_i A1 dA1 B1 dB1 P1 A2 dA2 B2 dB2 P2 P0
            refine' For_tup ?uh ?uE ?up ?_
            case uh => assumption
            case uE => exact passes_never
            case up => (with_reducible repeat (first | exact Picks.nil | (apply Picks.cons; (focus (with_reducible repeat (first | exact Pick.head | apply Pick.tail))))))
            refine' ⟨_, [(P1, .tup [.ref A1, .ref B1]), (A1, .inst 133 dA1), (dA1, .dct _), (B1, .inst 133 dB1), (dB1, .dct _), (P2, .tup [.ref A2, .ref B2]), (A2, .inst 133 dA2), (dA2, .dct (tokE (.bool false) (.bytes l) l (j1 : Int) (ovV o1))), (B2, .inst 133 dB2), (dB2, .dct (tokE (.bool true) (.str m) m (j2 : Int) (ovV o2)))], _, LoS.refl, ?up2, ?_⟩
            case up2 => (with_reducible repeat (first | exact Picks.nil | (apply Picks.cons; (focus (with_reducible repeat (first | exact Pick.head | apply Pick.tail))))))
            refine forW_inv (fun i lo ob => ∃ x6 x7 x8 x9 x10, lo = [some (.ref D), some (.str l), some (.int (0 + (k : Int))), some (.str tl), some (.str m), some (.int (q : Int)), some (.int (E : Int)), x6, x7, x8, x9, x10, none, none, none, none, none] ∧
              ((i = 0 ∧ ob = (P1, .tup [.ref A1, .ref B1]) :: (A1, .inst 133 dA1) :: (dA1, .dct (tokE (.bool true) (.str l) l (j1 : Int) (ovV o1))) :: (B1, .inst 133 dB1) :: (dB1, .dct (tokE (.bool false) (.bytes m) m (j2 : Int) (ovV o2))) :: [(P2, .tup [.ref A2, .ref B2]), (A2, .inst 133 dA2), (dA2, .dct (tokE (.bool false) (.bytes l) l (j1 : Int) (ovV o1))), (B2, .inst 133 dB2), (dB2, .dct (tokE (.bool true) (.str m) m (j2 : Int) (ovV o2)))]) ∨
               (i = 1 ∧ ob = (P2, .tup [.ref A2, .ref B2]) :: (A2, .inst 133 dA2) :: (dA2, .dct (tokE (.bool false) (.bytes l) l (j1 : Int) (ovV o1))) :: (B2, .inst 133 dB2) :: (dB2, .dct (tokE (.bool true) (.str m) m (j2 : Int) (ovV o2))) :: []) ∨ (2 ≤ i ∧ ob = []))) (fun i v lo ob hv hI => ?_) (fun lo ob hI => ?_) ⟨_, _, _, _, _, rfl, .inl ⟨rfl, rfl⟩⟩
            · obtain ⟨x6, x7, x8, x9, x10, rfl, hI⟩ := hI
              obtain ⟨T, t, dt, u, du, a1, a2, b1, b2, oth, rfl, rfl, hoth⟩ : ∃ T t dt u du a1 a2 b1 b2 oth, v = .ref T ∧ ob = (T, .tup [.ref t, .ref u]) :: (t, .inst 133 dt) :: (dt, .dct (tokE a1 a2 l (j1 : Int) (ovV o1))) :: (u, .inst 133 du) :: (du, .dct (tokE b1 b2 m (j2 : Int) (ovV o2))) :: oth ∧
                  ((i + 1 = 1 ∧ oth = (P2, .tup [.ref A2, .ref B2]) :: (A2, .inst 133 dA2) :: (dA2, .dct (tokE (.bool false) (.bytes l) l (j1 : Int) (ovV o1))) :: (B2, .inst 133 dB2) :: (dB2, .dct (tokE (.bool true) (.str m) m (j2 : Int) (ovV o2))) :: []) ∨ (2 ≤ i + 1 ∧ oth = [])) := by
                rcases hI with ⟨rfl, rfl⟩ | ⟨rfl, rfl⟩ | ⟨hi2, rfl⟩
                · cases hv; exact ⟨_, _, _, _, _, _, _, _, _, _, rfl, rfl, .inl ⟨rfl, rfl⟩⟩
                · cases hv; exact ⟨_, _, _, _, _, _, _, _, _, _, rfl, rfl, .inr ⟨Nat.le_refl _, rfl⟩⟩
                · match i, hi2 with
                  | i + 2, _ => simp at hv
              clear hv hI
              repeat' (first | ((with_reducible show Then _ _ _ _ _ _ _); first | ((with_reducible refine then_next ?_))) | ((with_reducible show W _ FR (execs _ _) _ _ _ _); first | ((with_reducible refine S_cons ?_))) | ((with_reducible show W _ VR (eval (Expr.Constant (Const.bool _) _ _) _) _ _ _ _); first | ((with_reducible refine W_bool ?_))) | ((with_reducible show W _ FR (exec (Stmt.Assign [Expr.Name _ _] _ _) _) _ _ _ _); first | (refine S_Assign ?_)) | ((with_reducible show Asg _ _ _ _ _ _ _); first | ((with_reducible refine asg_name ?_)) | ((with_reducible refine asg_tup (by (k_dflt (assumption)); done) (by (k_dflt ((with_reducible_and_instances repeat (first | exact List.Mem.head _ | apply List.Mem.tail)))); done) (by (k_dflt (exact rfl)); done) (by (k_dflt (exact rfl)); done) ?_))) | ((with_reducible show AsgEach _ _ _ _ _ _ _); first | ((with_reducible refine asg_cons ?_)) | ((with_reducible refine asg_nil ?_))) | ((with_reducible show Sto _ _ _ _ _ _ _); first | ((with_reducible refine Sto_local (by (k_dflt (assumption)); done) (by (k_dflt (assumption)); done) (by (k_dflt (assumption)); done) (by (k_dflt ((with_reducible repeat (first | exact Put.here | apply Put.there)))); done) ?_))) | fail)
              refine W.mono (Q := fun f lo ob => f = AF.next ∧ ∃ j o jj oo g1 g2 g3, nxt l E = some (j, o) ∧ nxt m E = some (jj, oo) ∧ lo = [some (.ref D), some (.str l), some (.int (0 + (k : Int))), some (.str tl), some (.str m), some (.int (q : Int)), some (.int (E : Int)), some (.ref t), some (.ref u), g1, g2, g3, none, none, none, none, none] ∧
                ob = (t, .inst 133 dt) :: (dt, .dct (tokE a1 a2 l (j : Int) (ovV o))) :: (u, .inst 133 du) :: (du, .dct (tokE b1 b2 m (jj : Int) (ovV oo))) :: oth) ?v1 ?v2 (fun _ _ _ x => x)
              case v1 =>
                refine' S_While (fun n lo ob => ∃ (g : Bool) (pos j : Nat) (o : Option (List Nat)) (jj : Nat) (oo : Option (List Nat)) (g2 g3 : Option V), nxt l pos = some (j, o) ∧ nxt m pos = some (jj, oo) ∧ Both l m q pos ∧ (g = false → E = pos) ∧ n = (if g = true then l.length + 1 - pos else 0) ∧
                  lo = [some (.ref D), some (.str l), some (.int (0 + (k : Int))), some (.str tl), some (.str m), some (.int (q : Int)), some (.int (E : Int)), some (.ref t), some (.ref u), some (.bool g), g2, g3, none, none, none, none, none] ∧
                  ob = (t, .inst 133 dt) :: (dt, .dct (tokE a1 a2 l (j : Int) (ovV o))) :: (u, .inst 133 du) :: (du, .dct (tokE b1 b2 m (jj : Int) (ovV oo))) :: oth) passes_never (wkn_pk LoS.refl ?fq ⟨_, true, 0, j1, o1, j2, o2, _, _, hn1, hn2, both_zero, (fun h => nomatch h), rfl, rfl, rfl⟩) ?_
                case fq => (with_reducible repeat (first | exact Pk.all | exact Pk.nil | (apply Pk.cons; (focus (with_reducible repeat (first | exact Pick.head | apply Pick.tail)))) | apply Pk.drop))
                rintro n lo ob ⟨g, pos, j, o, jj, oo, g2, g3, hl1', hm1', hb, hg, rfl, rfl, rfl⟩
                rcases o with _ | s
                · rw [show ovV none = V.none from rfl]
                  obtain rfl : E = pos := hE ▸ both_end hq hb hl1'
                  repeat' (first | ((with_reducible show W _ VR (eval (Expr.Name _ _) _) _ _ _ _); first | ((with_reducible refine W_local (by (k_dflt (assumption)); done) (by (k_dflt (assumption)); done) (by (k_dflt (assumption)); done) (by (k_dflt ((with_reducible repeat (first | exact Has.here | apply Has.there)))); done) ?_))) | ((with_reducible show W _ VR (eval (Expr.Constant Const.none _ _) _) _ _ _ _); first | ((with_reducible refine W_none ?_))) | ((with_reducible show W _ VR (eval (Expr.Attribute _ _ _) _) _ _ _ _); first | (refine W_Attr ?_)) | ((with_reducible show W _ BR (isTrue (Expr.BoolOp _ _ _) _ _) _ _ _ _); first | ((with_reducible refine T_BoolOp ?_))) | ((with_reducible show W _ BR (isTrue (Expr.Compare _ _ _ _) _ _) _ _ _ _); first | (refine T_Compare ?_)) | ((with_reducible show Op2 _ _ _ _ _ _ _ _); first | ((with_reducible refine isnot_none_none ?_))) | ((with_reducible show Tru _ _ _ _ _ _); first | ((with_reducible refine tru_bool ?_))) | ((with_reducible show Br false _ _); first | ((with_reducible refine br_f ?_))) | ((with_reducible show TstAll _ _ _ _ _ _ _); first | ((with_reducible refine tst_and ?_))) | ((with_reducible show GetA _ _ _ _ _ _ _); first | ((with_reducible refine geta_tk (by (k_dflt (assumption)); done) (by (k_dflt (assumption)); done) (by (k_dflt ((with_reducible_and_instances repeat (first | exact List.Mem.head _ | apply List.Mem.tail)))); done) (by (k_dflt ((with_reducible_and_instances repeat (first | exact List.Mem.head _ | apply List.Mem.tail)))); done) (by (k_dflt ((with_reducible_and_instances repeat (first | exact List.Mem.head _ | apply List.Mem.tail)))); done) (by (k_dflt ((with_reducible repeat (first | exact Ent.here | (apply Ent.there; (focus decide)))))); done) (by (k_dflt (first | exact rfl | exact handed_ovV _ | assumption)); done) ?_))) | fail)
                  all_goals first
                    | exact ⟨rfl, _, _, _, _, _, _, _, hl1', hm1', rfl, rfl⟩
                · rw [show ovV (some s) = V.str s from rfl]
                  cases g with
                  | false =>
                    obtain rfl := hg rfl
                    repeat' (first | ((with_reducible show W _ VR (eval (Expr.Name _ _) _) _ _ _ _); first | ((with_reducible refine W_local (by (k_dflt (assumption)); done) (by (k_dflt (assumption)); done) (by (k_dflt (assumption)); done) (by (k_dflt ((with_reducible repeat (first | exact Has.here | apply Has.there)))); done) ?_))) | ((with_reducible show W _ VR (eval (Expr.Constant Const.none _ _) _) _ _ _ _); first | ((with_reducible refine W_none ?_))) | ((with_reducible show W _ VR (eval (Expr.Attribute _ _ _) _) _ _ _ _); first | (refine W_Attr ?_)) | ((with_reducible show W _ BR (isTrue (Expr.BoolOp _ _ _) _ _) _ _ _ _); first | ((with_reducible refine T_BoolOp ?_))) | ((with_reducible show W _ BR (isTrue (Expr.Compare _ _ _ _) _ _) _ _ _ _); first | (refine T_Compare ?_)) | ((with_reducible show W _ BR (isTrue _ _ _) _ _ _ _); first | (refine T_plain rfl ?_)) | ((with_reducible show Op2 _ _ _ _ _ _ _ _); first | ((with_reducible refine isnot_str_none' ?_))) | ((with_reducible show Tru _ _ _ _ _ _); first | ((with_reducible refine tru_bool ?_))) | ((with_reducible show Br true _ _); first | ((with_reducible refine br_t ?_))) | ((with_reducible show Br false _ _); first | ((with_reducible refine br_f ?_))) | ((with_reducible show TstAll _ _ _ _ _ _ _); first | ((with_reducible refine tst_and ?_))) | ((with_reducible show GetA _ _ _ _ _ _ _); first | ((with_reducible refine geta_tk (by (k_dflt (assumption)); done) (by (k_dflt (assumption)); done) (by (k_dflt ((with_reducible_and_instances repeat (first | exact List.Mem.head _ | apply List.Mem.tail)))); done) (by (k_dflt ((with_reducible_and_instances repeat (first | exact List.Mem.head _ | apply List.Mem.tail)))); done) (by (k_dflt ((with_reducible_and_instances repeat (first | exact List.Mem.head _ | apply List.Mem.tail)))); done) (by (k_dflt ((with_reducible repeat (first | exact Ent.here | (apply Ent.there; (focus decide)))))); done) (by (k_dflt (first | exact rfl | exact handed_ovV _ | assumption)); done) ?_))) | fail)
                    all_goals first
                      | exact ⟨rfl, _, _, _, _, _, _, _, hl1', hm1', rfl, rfl⟩
                  | true =>
                    obtain ⟨j', o', hn'⟩ := nxt_ok hl (by decide) j
                    obtain ⟨jj', oo', hm'⟩ := nxt_ok hmE (by decide) jj
                    obtain ⟨c1, c2, c3, c4, c5, c6, c7⟩ := nxt_sign hl1'
                    have hjj := nxt_le hm1' (by omega)
                    by_cases hso : some s = oo
                    · have he1 : Eqs (.str s) (ovV oo) true := eqs_ov_t hso
                      have he2 : Eqs (ovV oo) (.str s) true := eqs_ov_t hso.symm
                      repeat' (first | ((with_reducible show Cal _ _ _ _ _ _ _); first | ((refine cal_E (by (k_dflt (assumption)); done) (by (k_dflt ((with_reducible repeat (first | exact Picks.nil | (apply Picks.cons; (focus (with_reducible repeat (first | exact Pick.head | apply Pick.tail)))))))); done) (tell_S (by assumption) (by (k_dflt (assumption)); done)) (by (k_dflt ((with_reducible repeat (first | exact App.nil | apply App.cons)))); done) (by (k_dflt (omega)); done) (by (k_dflt (first | exact .inl rfl | exact .inr (by assumption))); done) ?_))) | ((with_reducible show Cal _ _ _ _ _ _ _); first | ((refine cal_E (by (k_dflt (assumption)); done) (by (k_dflt ((with_reducible repeat (first | exact Picks.nil | (apply Picks.cons; (focus (with_reducible repeat (first | exact Pick.head | apply Pick.tail)))))))); done) (match_T (by assumption) (by (k_dflt (first | exact rfl | exact handed_ovV _ | assumption)); done) (by (k_dflt (first | assumption | exact eqs_tt | exact eqs_nn)); done) (by (k_dflt (assumption)); done) (by (k_dflt (first | omega | exact Nat.zero_le _)); done) (by (k_dflt (assumption)); done)) (by (k_dflt ((with_reducible repeat (first | exact App.nil | apply App.cons)))); done) (by (k_dflt (omega)); done) (by (k_dflt (first | exact .inl rfl | exact .inr (by assumption))); done) ?_)) | ((refine cal_E (by (k_dflt (assumption)); done) (by (k_dflt ((with_reducible repeat (first | exact Picks.nil | (apply Picks.cons; (focus (with_reducible repeat (first | exact Pick.head | apply Pick.tail)))))))); done) (get_F (by assumption) (by (k_dflt (first | exact rfl | exact handed_ovV _ | assumption)); done) (by (k_dflt (assumption)); done) (by (k_dflt (first | omega | exact Nat.zero_le _)); done) (by (k_dflt (assumption)); done)) (by (k_dflt ((with_reducible repeat (first | exact App.nil | apply App.cons)))); done) (by (k_dflt (omega)); done) (by (k_dflt (first | exact .inl rfl | exact .inr (by assumption))); done) ?_))) | ((with_reducible show Then _ _ _ _ _ _ _); first | ((with_reducible refine then_next ?_))) | ((with_reducible show W _ FR (execs _ _) _ _ _ _); first | ((with_reducible refine S_cons ?_)) | ((with_reducible refine S_nil ?_))) | ((with_reducible show W _ VR (eval (Expr.Name _ _) _) _ _ _ _); first | ((with_reducible refine W_local (by (k_dflt (assumption)); done) (by (k_dflt (assumption)); done) (by (k_dflt (assumption)); done) (by (k_dflt ((with_reducible repeat (first | exact Has.here | apply Has.there)))); done) ?_))) | ((with_reducible show W _ VR (eval (Expr.Constant Const.none _ _) _) _ _ _ _); first | ((with_reducible refine W_none ?_))) | ((with_reducible show W _ VR (eval (Expr.Attribute _ _ _) _) _ _ _ _); first | (refine W_Attr ?_)) | ((with_reducible show W _ VR (eval (Expr.Call (Expr.Attribute _ _ _) _ _ _) _) _ _ _ _); first | (refine W_Method (by assumption) (by rfl) ?_)) | ((with_reducible show W _ VR (eval (Expr.Compare _ _ _ _) _) _ _ _ _); first | (refine W_Compare ?_)) | ((with_reducible show W _ VR (eval (Expr.Tuple _ _ _) _) _ _ _ _); first | (refine W_Tuple (by rfl) ?_)) | ((with_reducible show W _ FR (exec (Stmt.Assign [Expr.Name _ _] _ _) _) _ _ _ _); first | (refine S_Assign ?_)) | ((with_reducible show W _ FR (exec (Stmt.If _ _ _ _) _) _ _ _ _); first | ((with_reducible refine S_If ?_))) | ((with_reducible show W _ FR (exec (Stmt.Expr _ _) _) _ _ _ _); first | (refine S_ExprV ?_ (inter (by assumption)))) | ((with_reducible show W _ BR (isTrue (Expr.BoolOp _ _ _) _ _) _ _ _ _); first | ((with_reducible refine T_BoolOp ?_))) | ((with_reducible show W _ BR (isTrue (Expr.Compare _ _ _ _) _ _) _ _ _ _); first | (refine T_Compare ?_)) | ((with_reducible show W _ BR (isTrue _ _ _) _ _ _ _); first | (refine T_plain rfl ?_)) | ((with_reducible show Op2 _ _ _ _ _ _ _ _); first | ((with_reducible refine eqs_use (by (k_dflt (assumption)); done) ?_)) | ((with_reducible refine isnot_str_none' ?_)) | ((with_reducible refine isnot_b1 ?_))) | ((with_reducible show Tru _ _ _ _ _ _); first | ((with_reducible refine tru_bool ?_))) | ((with_reducible show Br true _ _); first | ((with_reducible refine br_t ?_))) | ((with_reducible show Br false _ _); first | ((with_reducible refine br_f ?_))) | ((with_reducible show Args _ _ _ _ _ _); first | ((with_reducible refine args_cons' ?_)) | ((with_reducible refine args_nil' ?_))) | ((with_reducible show TstAll _ _ _ _ _ _ _); first | ((with_reducible refine tst_and ?_)) | ((with_reducible refine tst_and_nil ?_))) | ((with_reducible show WhileQ _ _ _ _ _ _ _); first | ((with_reducible refine whileq_next ?_))) | ((with_reducible show Kp _ _ ∧ _); first | ((with_reducible refine kp_met (by (k_dflt (assumption)); done) (by (k_dflt ((with_reducible_and_instances repeat (first | exact List.Mem.head _ | apply List.Mem.tail)))); done) ?_))) | ((with_reducible show _ ≤ _ ∧ _); first | ((with_reducible refine disp (by (k_dflt ((first | assumption | omega | decide | (simp only [List.length_append, List.length_cons, List.length_nil, List.length_drop, List.length_take, List.length_map] at *; omega)))); done) ?_); intro _)) | ((with_reducible show plainV _ = true ∧ _); first | ((with_reducible refine plain_and (plain_ovV _) ?_))) | ((with_reducible show Sto _ _ _ _ _ _ _); first | ((with_reducible refine Sto_local (by (k_dflt (assumption)); done) (by (k_dflt (assumption)); done) (by (k_dflt (assumption)); done) (by (k_dflt ((with_reducible repeat (first | exact Put.here | apply Put.there)))); done) ?_))) | ((with_reducible show GetM _ _ _ _ _ _ _); first | ((with_reducible refine getm_tk (by (k_dflt (assumption)); done) (by (k_dflt (assumption)); done) (by (k_dflt ((with_reducible_and_instances repeat (first | exact List.Mem.head _ | apply List.Mem.tail)))); done) (by (k_dflt ((with_reducible_and_instances repeat (first | exact List.Mem.head _ | apply List.Mem.tail)))); done) (by (k_dflt ((with_reducible_and_instances repeat (first | exact List.Mem.head _ | apply List.Mem.tail)))); done) (by (k_dflt ((repeat (first | with_reducible exact NoEnt.nil | (with_reducible apply NoEnt.cons; (focus decide)))))); done) ?_))) | ((with_reducible show GetA _ _ _ _ _ _ _); first | ((with_reducible refine geta_tk (by (k_dflt (assumption)); done) (by (k_dflt (assumption)); done) (by (k_dflt ((with_reducible_and_instances repeat (first | exact List.Mem.head _ | apply List.Mem.tail)))); done) (by (k_dflt ((with_reducible_and_instances repeat (first | exact List.Mem.head _ | apply List.Mem.tail)))); done) (by (k_dflt ((with_reducible_and_instances repeat (first | exact List.Mem.head _ | apply List.Mem.tail)))); done) (by (k_dflt ((with_reducible repeat (first | exact Ent.here | (apply Ent.there; (focus decide)))))); done) (by (k_dflt (first | exact rfl | exact handed_ovV _ | assumption)); done) ?_))) | fail)
                      subst hso
                      have hsp := List.length_pos_iff.mpr c4
                      obtain ⟨rfl, hb'⟩ := both_next hq hb hl1' hm1'
                      refine' wkn_pk LoS.refl ?fr ⟨l.length + 1 - j, ?lt, true, j, j', o', jj', oo', _, _, hn', hm', hb', (fun h => nomatch h), rfl, rfl, rfl⟩
                      case fr => (with_reducible repeat (first | exact Pk.all | exact Pk.nil | (apply Pk.cons; (focus (with_reducible repeat (first | exact Pick.head | apply Pick.tail)))) | apply Pk.drop))
                      case lt => rw [if_pos rfl]; omega
                    · have he1 : Eqs (.str s) (ovV oo) false := eqs_ov_f hso
                      have he2 : Eqs (ovV oo) (.str s) false := eqs_ov_f fun h => hso h.symm
                      repeat' (first | ((with_reducible show Cal _ _ _ _ _ _ _); first | ((refine cal_E (by (k_dflt (assumption)); done) (by (k_dflt ((with_reducible repeat (first | exact Picks.nil | (apply Picks.cons; (focus (with_reducible repeat (first | exact Pick.head | apply Pick.tail)))))))); done) (tell_S (by assumption) (by (k_dflt (assumption)); done)) (by (k_dflt ((with_reducible repeat (first | exact App.nil | apply App.cons)))); done) (by (k_dflt (omega)); done) (by (k_dflt (first | exact .inl rfl | exact .inr (by assumption))); done) ?_))) | ((with_reducible show Cal _ _ _ _ _ _ _); first | ((refine cal_E (by (k_dflt (assumption)); done) (by (k_dflt ((with_reducible repeat (first | exact Picks.nil | (apply Picks.cons; (focus (with_reducible repeat (first | exact Pick.head | apply Pick.tail)))))))); done) (match_F (by assumption) (by (k_dflt (first | exact rfl | exact handed_ovV _ | assumption)); done) (by (k_dflt (first | assumption | exact eqs_ff (by assumption) | exact eqs_sn | exact eqs_ns)); done)) (by (k_dflt ((with_reducible repeat (first | exact App.nil | apply App.cons)))); done) (by (k_dflt (omega)); done) (by (k_dflt (first | exact .inl rfl | exact .inr (by assumption))); done) ?_))) | ((with_reducible show Then _ _ _ _ _ _ _); first | ((with_reducible refine then_next ?_))) | ((with_reducible show W _ FR (execs _ _) _ _ _ _); first | ((with_reducible refine S_cons ?_)) | ((with_reducible refine S_nil ?_))) | ((with_reducible show W _ VR (eval (Expr.Name _ _) _) _ _ _ _); first | ((with_reducible refine W_local (by (k_dflt (assumption)); done) (by (k_dflt (assumption)); done) (by (k_dflt (assumption)); done) (by (k_dflt ((with_reducible repeat (first | exact Has.here | apply Has.there)))); done) ?_))) | ((with_reducible show W _ VR (eval (Expr.Constant Const.none _ _) _) _ _ _ _); first | ((with_reducible refine W_none ?_))) | ((with_reducible show W _ VR (eval (Expr.Attribute _ _ _) _) _ _ _ _); first | (refine W_Attr ?_)) | ((with_reducible show W _ VR (eval (Expr.Call (Expr.Attribute _ _ _) _ _ _) _) _ _ _ _); first | (refine W_Method (by assumption) (by rfl) ?_)) | ((with_reducible show W _ VR (eval (Expr.Compare _ _ _ _) _) _ _ _ _); first | (refine W_Compare ?_)) | ((with_reducible show W _ VR (eval (Expr.Tuple _ _ _) _) _ _ _ _); first | (refine W_Tuple (by rfl) ?_)) | ((with_reducible show W _ FR (exec (Stmt.Assign [Expr.Name _ _] _ _) _) _ _ _ _); first | (refine S_Assign ?_)) | ((with_reducible show W _ FR (exec (Stmt.If _ _ _ _) _) _ _ _ _); first | ((with_reducible refine S_If ?_))) | ((with_reducible show W _ BR (isTrue (Expr.BoolOp _ _ _) _ _) _ _ _ _); first | ((with_reducible refine T_BoolOp ?_))) | ((with_reducible show W _ BR (isTrue (Expr.Compare _ _ _ _) _ _) _ _ _ _); first | (refine T_Compare ?_)) | ((with_reducible show W _ BR (isTrue _ _ _) _ _ _ _); first | (refine T_plain rfl ?_)) | ((with_reducible show Op2 _ _ _ _ _ _ _ _); first | ((with_reducible refine eqs_use (by (k_dflt (assumption)); done) ?_)) | ((with_reducible refine isnot_str_none' ?_)) | ((with_reducible refine isnot_b1 ?_)) | ((with_reducible refine ne_tups (by (k_dflt (assumption)); done) (by (k_dflt ((with_reducible_and_instances repeat (first | exact List.Mem.head _ | apply List.Mem.tail)))); done) (by (k_dflt ((with_reducible_and_instances repeat (first | exact List.Mem.head _ | apply List.Mem.tail)))); done) (by (k_dflt ((with_reducible repeat (first | exact eqds_nil | exact eqds_left | exact eqds_right | exact eqd_int | exact eqd_ov | exact eqd_str | exact eqd_nn | exact eqd_ns | exact eqd_sn | apply eqds_cons)))); done) ?_))) | ((with_reducible show Tru _ _ _ _ _ _); first | ((with_reducible refine tru_bool ?_))) | ((with_reducible show Br true _ _); first | ((with_reducible refine br_t ?_))) | ((with_reducible show Br false _ _); first | ((with_reducible refine br_f ?_))) | ((with_reducible show Br (! _) _ _); first | ((with_reducible refine br_not ?_))) | ((with_reducible show Br (_ && _) _ _); first | ((with_reducible refine br_and ?_))) | ((with_reducible show Br (decide _) _ _); first | ((with_reducible refine br_eq_self ?_))) | ((with_reducible show Args _ _ _ _ _ _); first | ((with_reducible refine args_cons' ?_)) | ((with_reducible refine args_nil' ?_))) | ((with_reducible show TstAll _ _ _ _ _ _ _); first | ((with_reducible refine tst_and ?_)) | ((with_reducible refine tst_and_nil ?_))) | ((with_reducible show WhileQ _ _ _ _ _ _ _); first | ((with_reducible refine whileq_next ?_))) | ((with_reducible show Kp _ _ ∧ _); first | ((with_reducible refine kp_met (by (k_dflt (assumption)); done) (by (k_dflt ((with_reducible_and_instances repeat (first | exact List.Mem.head _ | apply List.Mem.tail)))); done) ?_))) | ((with_reducible show _ ≤ _ ∧ _); first | ((with_reducible refine disp (by (k_dflt ((first | assumption | omega | decide | (simp only [List.length_append, List.length_cons, List.length_nil, List.length_drop, List.length_take, List.length_map] at *; omega)))); done) ?_); intro _)) | ((with_reducible show Sto _ _ _ _ _ _ _); first | ((with_reducible refine Sto_local (by (k_dflt (assumption)); done) (by (k_dflt (assumption)); done) (by (k_dflt (assumption)); done) (by (k_dflt ((with_reducible repeat (first | exact Put.here | apply Put.there)))); done) ?_))) | ((with_reducible show GetM _ _ _ _ _ _ _); first | ((with_reducible refine getm_tk (by (k_dflt (assumption)); done) (by (k_dflt (assumption)); done) (by (k_dflt ((with_reducible_and_instances repeat (first | exact List.Mem.head _ | apply List.Mem.tail)))); done) (by (k_dflt ((with_reducible_and_instances repeat (first | exact List.Mem.head _ | apply List.Mem.tail)))); done) (by (k_dflt ((with_reducible_and_instances repeat (first | exact List.Mem.head _ | apply List.Mem.tail)))); done) (by (k_dflt ((repeat (first | with_reducible exact NoEnt.nil | (with_reducible apply NoEnt.cons; (focus decide)))))); done) ?_))) | ((with_reducible show GetA _ _ _ _ _ _ _); first | ((with_reducible refine geta_tk (by (k_dflt (assumption)); done) (by (k_dflt (assumption)); done) (by (k_dflt ((with_reducible_and_instances repeat (first | exact List.Mem.head _ | apply List.Mem.tail)))); done) (by (k_dflt ((with_reducible_and_instances repeat (first | exact List.Mem.head _ | apply List.Mem.tail)))); done) (by (k_dflt ((with_reducible_and_instances repeat (first | exact List.Mem.head _ | apply List.Mem.tail)))); done) (by (k_dflt ((with_reducible repeat (first | exact Ent.here | (apply Ent.there; (focus decide)))))); done) (by (k_dflt (first | exact rfl | exact handed_ovV _ | assumption)); done) ?_))) | fail)
                      obtain rfl : E = pos := hE ▸ both_stop hq hb hl1' hm1' hso
                      refine' wkn_pk (ob2 := (t, .inst 133 dt) :: (dt, .dct (tokE a1 a2 l (j : Int) (.str s))) :: (u, .inst 133 du) :: (du, .dct (tokE b1 b2 m (jj : Int) (ovV oo))) :: oth) LoS.refl ?fs ⟨0, ?lt2, false, E, j, some s, jj, oo, _, _, hl1', hm1', hb, (fun _ => rfl), rfl, rfl, rfl⟩
                      case fs => (with_reducible repeat (first | exact Pk.all | exact Pk.nil | (apply Pk.cons; (focus (with_reducible repeat (first | exact Pick.head | apply Pick.tail)))) | apply Pk.drop))
                      case lt2 => rw [if_pos rfl]; omega
              case v2 =>
                rintro _ _ _ ⟨rfl, j, o, jj, oo, g1, g2, g3, hl1', hm1', rfl, rfl⟩
                rcases o with _ | s
                · obtain ⟨e1, e2⟩ := nxt_none hl1'
                  subst e1
                  have hEl := hq.1.1
                  have he3 : Eqs (.int (j : Int)) (.int (l.length : Int)) true := eqs_int_t (by omega)
                  rw [show ovV none = V.none from rfl]
                  repeat' (first | ((with_reducible show Cal _ _ _ _ _ _ _); first | ((refine cal_E (by (k_dflt (assumption)); done) (by (k_dflt ((with_reducible repeat (first | exact Picks.nil | (apply Picks.cons; (focus (with_reducible repeat (first | exact Pick.head | apply Pick.tail)))))))); done) (tell_N (by assumption) (by (k_dflt (assumption)); done)) (by (k_dflt ((with_reducible repeat (first | exact App.nil | apply App.cons)))); done) (by (k_dflt (omega)); done) (by (k_dflt (first | exact .inl rfl | exact .inr (by assumption))); done) ?_)) | ((refine cal_E (by (k_dflt (assumption)); done) (by (k_dflt ((with_reducible repeat (first | exact Picks.nil | (apply Picks.cons; (focus (with_reducible repeat (first | exact Pick.head | apply Pick.tail)))))))); done) (tell_O (by assumption) (by (k_dflt (assumption)); done)) (by (k_dflt ((with_reducible repeat (first | exact App.nil | apply App.cons)))); done) (by (k_dflt (omega)); done) (by (k_dflt (first | exact .inl rfl | exact .inr (by assumption))); done) ?_))) | ((with_reducible show Cal _ _ _ _ _ _ _); first | ((refine cal_E (by (k_dflt (assumption)); done) (by (k_dflt ((with_reducible repeat (first | exact Picks.nil | (apply Picks.cons; (focus (with_reducible repeat (first | exact Pick.head | apply Pick.tail)))))))); done) (match_T (by assumption) (by (k_dflt (first | exact rfl | exact handed_ovV _ | assumption)); done) (by (k_dflt (first | assumption | exact eqs_tt | exact eqs_nn)); done) (by (k_dflt (assumption)); done) (by (k_dflt (first | omega | exact Nat.zero_le _)); done) (by (k_dflt (assumption)); done)) (by (k_dflt ((with_reducible repeat (first | exact App.nil | apply App.cons)))); done) (by (k_dflt (omega)); done) (by (k_dflt (first | exact .inl rfl | exact .inr (by assumption))); done) ?_))) | ((with_reducible show Then _ _ _ _ _ _ _); first | ((with_reducible refine then_next ?_))) | ((with_reducible show W _ FR (execs _ _) _ _ _ _); first | ((with_reducible refine S_cons ?_)) | ((with_reducible refine S_nil ?_))) | ((with_reducible show W _ VR (eval (Expr.Name _ _) _) _ _ _ _); first | ((with_reducible refine W_local (by (k_dflt (assumption)); done) (by (k_dflt (assumption)); done) (by (k_dflt (assumption)); done) (by (k_dflt ((with_reducible repeat (first | exact Has.here | apply Has.there)))); done) ?_)) | ((with_reducible refine W_bltT (by (k_dflt (assumption)); done) (by (k_dflt (assumption)); done) (by (k_dflt (assumption)); done) (by (k_dflt ((with_reducible repeat (first | exact InN.here | apply InN.there)))); done) (by (k_dflt ((with_reducible_and_instances repeat (first | exact List.Mem.head _ | apply List.Mem.tail)))); done) ?_))) | ((with_reducible show W _ VR (eval (Expr.Constant Const.none _ _) _) _ _ _ _); first | ((with_reducible refine W_none ?_))) | ((with_reducible show W _ VR (eval (Expr.Call (Expr.Attribute _ _ _) _ _ _) _) _ _ _ _); first | (refine W_Method (by assumption) (by rfl) ?_)) | ((with_reducible show W _ VR (eval (Expr.Call _ _ _ _) _) _ _ _ _); first | (refine W_Call (by assumption) (by rfl) ?_)) | ((with_reducible show W _ VR (eval (Expr.Compare _ _ _ _) _) _ _ _ _); first | (refine W_Compare ?_)) | ((with_reducible show W _ FR (exec (Stmt.If _ _ _ _) _) _ _ _ _); first | ((with_reducible refine S_If ?_))) | ((with_reducible show W _ BR (isTrue (Expr.BoolOp _ _ _) _ _) _ _ _ _); first | ((with_reducible refine T_BoolOp ?_))) | ((with_reducible show W _ BR (isTrue (Expr.Compare _ _ _ _) _ _) _ _ _ _); first | (refine T_Compare ?_)) | ((with_reducible show Op2 _ _ _ _ _ _ _ _); first | ((with_reducible refine eqs_use (by (k_dflt (assumption)); done) ?_)) | ((with_reducible refine ne_ints ?_)) | ((with_reducible refine isnot_b1 ?_))) | ((with_reducible show Tru _ _ _ _ _ _); first | ((with_reducible refine tru_bool ?_))) | ((with_reducible show Cal _ _ _ _ _ _ _); first | ((with_reducible refine len_str (by (k_dflt ((first | assumption | omega | decide | (simp only [List.length_append, List.length_cons, List.length_nil, List.length_drop, List.length_take, List.length_map] at *; omega)))); done) ?_))) | ((with_reducible show Br false _ _); first | ((with_reducible refine br_f ?_))) | ((with_reducible show Br (decide _) _ _); first | ((with_reducible refine br_ne_self ?_))) | ((with_reducible show Args _ _ _ _ _ _); first | ((with_reducible refine args_cons' ?_)) | ((with_reducible refine args_nil' ?_))) | ((with_reducible show TstAll _ _ _ _ _ _ _); first | ((with_reducible refine tst_or ?_)) | ((with_reducible refine tst_or_nil ?_))) | ((with_reducible show TurnQ _ _ _ _ _); first | ((with_reducible refine turn_next ?_))) | ((with_reducible show Kp _ _ ∧ _); first | ((with_reducible refine kp_and kp_blt ?_)) | ((with_reducible refine kp_met (by (k_dflt (assumption)); done) (by (k_dflt ((with_reducible_and_instances repeat (first | exact List.Mem.head _ | apply List.Mem.tail)))); done) ?_))) | ((with_reducible show GetM _ _ _ _ _ _ _); first | ((with_reducible refine getm_tk (by (k_dflt (assumption)); done) (by (k_dflt (assumption)); done) (by (k_dflt ((with_reducible_and_instances repeat (first | exact List.Mem.head _ | apply List.Mem.tail)))); done) (by (k_dflt ((with_reducible_and_instances repeat (first | exact List.Mem.head _ | apply List.Mem.tail)))); done) (by (k_dflt ((with_reducible_and_instances repeat (first | exact List.Mem.head _ | apply List.Mem.tail)))); done) (by (k_dflt ((repeat (first | with_reducible exact NoEnt.nil | (with_reducible apply NoEnt.cons; (focus decide)))))); done) ?_))) | fail)
                  all_goals first
                    | (refine' wkn_pk LoS.refl ?ft ⟨_, _, _, _, _, rfl, .inr hoth⟩; (case ft => (with_reducible repeat (first | exact Pk.all | exact Pk.nil | (apply Pk.cons; (focus (with_reducible repeat (first | exact Pick.head | apply Pick.tail)))) | apply Pk.drop))))
                · have hEl := nxt_sign hl1'
                  have he3 : Eqs (.int (E : Int)) (.int (l.length : Int)) false := eqs_int_f (by omega)
                  rw [show ovV (some s) = V.str s from rfl]
                  repeat' (first | ((with_reducible show Cal _ _ _ _ _ _ _); first | ((refine cal_E (by (k_dflt (assumption)); done) (by (k_dflt ((with_reducible repeat (first | exact Picks.nil | (apply Picks.cons; (focus (with_reducible repeat (first | exact Pick.head | apply Pick.tail)))))))); done) (tell_S (by assumption) (by (k_dflt (assumption)); done)) (by (k_dflt ((with_reducible repeat (first | exact App.nil | apply App.cons)))); done) (by (k_dflt (omega)); done) (by (k_dflt (first | exact .inl rfl | exact .inr (by assumption))); done) ?_)) | ((refine cal_E (by (k_dflt (assumption)); done) (by (k_dflt ((with_reducible repeat (first | exact Picks.nil | (apply Picks.cons; (focus (with_reducible repeat (first | exact Pick.head | apply Pick.tail)))))))); done) (tell_O (by assumption) (by (k_dflt (assumption)); done)) (by (k_dflt ((with_reducible repeat (first | exact App.nil | apply App.cons)))); done) (by (k_dflt (omega)); done) (by (k_dflt (first | exact .inl rfl | exact .inr (by assumption))); done) ?_))) | ((with_reducible show Cal _ _ _ _ _ _ _); first | ((refine cal_E (by (k_dflt (assumption)); done) (by (k_dflt ((with_reducible repeat (first | exact Picks.nil | (apply Picks.cons; (focus (with_reducible repeat (first | exact Pick.head | apply Pick.tail)))))))); done) (match_F (by assumption) (by (k_dflt (first | exact rfl | exact handed_ovV _ | assumption)); done) (by (k_dflt (first | assumption | exact eqs_ff (by assumption) | exact eqs_sn | exact eqs_ns)); done)) (by (k_dflt ((with_reducible repeat (first | exact App.nil | apply App.cons)))); done) (by (k_dflt (omega)); done) (by (k_dflt (first | exact .inl rfl | exact .inr (by assumption))); done) ?_))) | ((with_reducible show Then _ _ _ _ _ _ _); first | ((with_reducible refine then_next ?_))) | ((with_reducible show W _ FR (execs _ _) _ _ _ _); first | ((with_reducible refine S_cons ?_)) | ((with_reducible refine S_nil ?_))) | ((with_reducible show W _ VR (eval (Expr.Name _ _) _) _ _ _ _); first | ((with_reducible refine W_local (by (k_dflt (assumption)); done) (by (k_dflt (assumption)); done) (by (k_dflt (assumption)); done) (by (k_dflt ((with_reducible repeat (first | exact Has.here | apply Has.there)))); done) ?_)) | ((with_reducible refine W_bltT (by (k_dflt (assumption)); done) (by (k_dflt (assumption)); done) (by (k_dflt (assumption)); done) (by (k_dflt ((with_reducible repeat (first | exact InN.here | apply InN.there)))); done) (by (k_dflt ((with_reducible_and_instances repeat (first | exact List.Mem.head _ | apply List.Mem.tail)))); done) ?_))) | ((with_reducible show W _ VR (eval (Expr.Constant Const.none _ _) _) _ _ _ _); first | ((with_reducible refine W_none ?_))) | ((with_reducible show W _ VR (eval (Expr.Call (Expr.Attribute _ _ _) _ _ _) _) _ _ _ _); first | (refine W_Method (by assumption) (by rfl) ?_)) | ((with_reducible show W _ VR (eval (Expr.Call _ _ _ _) _) _ _ _ _); first | (refine W_Call (by assumption) (by rfl) ?_)) | ((with_reducible show W _ VR (eval (Expr.Compare _ _ _ _) _) _ _ _ _); first | (refine W_Compare ?_)) | ((with_reducible show W _ FR (exec (Stmt.If _ _ _ _) _) _ _ _ _); first | ((with_reducible refine S_If ?_))) | ((with_reducible show W _ BR (isTrue (Expr.BoolOp _ _ _) _ _) _ _ _ _); first | ((with_reducible refine T_BoolOp ?_))) | ((with_reducible show W _ BR (isTrue (Expr.Compare _ _ _ _) _ _) _ _ _ _); first | (refine T_Compare ?_)) | ((with_reducible show Op2 _ _ _ _ _ _ _ _); first | ((with_reducible refine eqs_use (by (k_dflt (assumption)); done) ?_)) | ((with_reducible refine ne_ints ?_)) | ((with_reducible refine isnot_b1 ?_))) | ((with_reducible show Tru _ _ _ _ _ _); first | ((with_reducible refine tru_bool ?_))) | ((with_reducible show Cal _ _ _ _ _ _ _); first | ((with_reducible refine len_str (by (k_dflt ((first | assumption | omega | decide | (simp only [List.length_append, List.length_cons, List.length_nil, List.length_drop, List.length_take, List.length_map] at *; omega)))); done) ?_))) | ((with_reducible show Br false _ _); first | ((with_reducible refine br_f ?_))) | ((with_reducible show Br (decide _) _ _); first | ((with_reducible refine br_ne_self ?_))) | ((with_reducible show Args _ _ _ _ _ _); first | ((with_reducible refine args_cons' ?_)) | ((with_reducible refine args_nil' ?_))) | ((with_reducible show TstAll _ _ _ _ _ _ _); first | ((with_reducible refine tst_or ?_)) | ((with_reducible refine tst_or_nil ?_))) | ((with_reducible show TurnQ _ _ _ _ _); first | ((with_reducible refine turn_next ?_))) | ((with_reducible show Kp _ _ ∧ _); first | ((with_reducible refine kp_and kp_blt ?_)) | ((with_reducible refine kp_met (by (k_dflt (assumption)); done) (by (k_dflt ((with_reducible_and_instances repeat (first | exact List.Mem.head _ | apply List.Mem.tail)))); done) ?_))) | ((with_reducible show GetM _ _ _ _ _ _ _); first | ((with_reducible refine getm_tk (by (k_dflt (assumption)); done) (by (k_dflt (assumption)); done) (by (k_dflt ((with_reducible_and_instances repeat (first | exact List.Mem.head _ | apply List.Mem.tail)))); done) (by (k_dflt ((with_reducible_and_instances repeat (first | exact List.Mem.head _ | apply List.Mem.tail)))); done) (by (k_dflt ((with_reducible_and_instances repeat (first | exact List.Mem.head _ | apply List.Mem.tail)))); done) (by (k_dflt ((repeat (first | with_reducible exact NoEnt.nil | (with_reducible apply NoEnt.cons; (focus decide)))))); done) ?_))) | fail)
                  all_goals first
                    | (refine' wkn_pk LoS.refl ?ft ⟨_, _, _, _, _, rfl, .inr hoth⟩; (case ft => (with_reducible repeat (first | exact Pk.all | exact Pk.nil | (apply Pk.cons; (focus (with_reducible repeat (first | exact Pick.head | apply Pick.tail)))) | apply Pk.drop))))
            · obtain ⟨x6, x7, x8, x9, x10, rfl, hI⟩ := hI
              obtain rfl : ob = [] := by
                rcases hI with ⟨h, _⟩ | ⟨h, _⟩ | ⟨_, h⟩
                · cases h
                · cases h
                · exact h
              repeat' (first | ((with_reducible show Then _ _ _ _ _ _ _); first | ((with_reducible refine then_next ?_))) | ((with_reducible show W _ FR (execs _ _) _ _ _ _); first | ((with_reducible refine S_nil ?_))) | ((with_reducible show TurnQ _ _ _ _ _); first | ((with_reducible refine turn_next ?_))) | fail)
              all_goals exact wkn_pk (ob2 := []) LoS.refl Pk.nil ⟨_, _, _, _, _, _, _, _, _, rfl, rfl⟩
        · obtain ⟨x2, x3, x4, x5, x6, x7, x8, x9, x10, rfl, rfl⟩ := hI
          repeat' (first | ((with_reducible show Then _ _ _ _ _ _ _); first | ((with_reducible refine then_next ?_))) | ((with_reducible show W _ FR (execs _ _) _ _ _ _); first | ((with_reducible refine S_nil ?_))) | ((with_reducible show TurnQ _ _ _ _ _); first | ((with_reducible refine turn_next ?_))) | fail)
          all_goals exact wkn_pk (ob2 := []) LoS.refl Pk.nil ⟨_, _, _, _, _, _, _, _, _, _, rfl, rfl⟩
      · obtain ⟨x1, x2, x3, x4, x5, x6, x7, x8, x9, x10, rfl, rfl⟩ := hI
        repeat' (first | ((with_reducible show Then _ _ _ _ _ _ _); first | ((with_reducible refine then_next ?_)) | ((with_reducible refine then_ret ?_))) | ((with_reducible show W _ FR (execs _ _) _ _ _ _); first | ((with_reducible refine S_cons ?_))) | ((with_reducible show W _ VR (eval (Expr.Constant (Const.bool _) _ _) _) _ _ _ _); first | ((with_reducible refine W_bool ?_))) | ((with_reducible show W _ FR (exec (Stmt.Return (some _) _) _) _ _ _ _); first | ((with_reducible refine S_Return ?_))) | fail)
        all_goals rfl
end Mine
end
theorem PySem.Challenge.cw_kq0017_11_holds : PySem.Challenge.rw_kq0017_11.Holds := by
  exact Mine.foo
