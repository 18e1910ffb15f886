import PyProof.Rows.All
import Wide.All
import OpenK.AllK
import Wide.FinOn
import Lean
import PySem.Challenge.RW_wn0107_02
set_option Elab.async false
set_option maxRecDepth 100000
set_option maxHeartbeats 80000000
set_option genSizeOf false
set_option linter.all false
section
open PySem PySem.W PyProof.Rows
namespace Mine
local macro_rules | `(tactic| o_head (kmHook $k $a $e $t)) => do
  match t with
  | `($x :: []) => `(tactic| o_head (kmHook $k $a $e [189, 196, $x]))
  | _ => Lean.Macro.throwUnsupported
local macro_rules | `(tactic| o_law) => `(tactic| refine holds_law (by as_aux_lemma => kernel_rfl) fun said => ?_)
local macro_rules | `(tactic| refine $t) => do
  let has := (t.raw.find? fun s => s.isOfKind ``Lean.Parser.Term.syntheticHole && s[1].getId.eraseMacroScopes == `hl).isSome
  unless has do Lean.Macro.throwUnsupported
  let p ← `((fun _ => by kernel_rfl))
  let r := t.raw.replaceM (m := Id) fun s => if s.isOfKind ``Lean.Parser.Term.syntheticHole && s[1].getId.eraseMacroScopes == `hl then some p.raw else none
  `(tactic| refine $(⟨r⟩))
open_top hd for PySem.Challenge.rw_wn0107_02
theorem top_off : True := by
  w_top off
  trivial
end Mine
end
open PySem PySem.W PyProof.Rows PySem.Calls
namespace Mine
open PySem.Challenge (rw_wn0107_02)
local macro_rules | `(tactic| walk_at $s:str) => `(tactic| k_extra $(Lean.Syntax.mkStrLit ("q:" ++ s.getString)))
local macro_rules | `(tactic| k_steps) => `(tactic| repeat' (first | (k_extra "hk"; (try dsimp only)) | (k_unfold; (try dsimp only)) | (k_end; kc_close) | walk1 | (dsimp only; walk1) | (leave1; walk_say "STEP leave1"; (try dsimp only)) | fail "no step"))
local macro_rules | `(tactic| k_room) => `(tactic| k_extra "q:k_room")
local macro_rules | `(tactic| k_units) => `(tactic| k_extra "q:k_units")
local macro_rules | `(tactic| k_mem) => `(tactic| k_extra "q:k_mem")
local macro_rules | `(tactic| k_ne) => `(tactic| k_extra "q:k_ne")
local macro_rules | `(tactic| k_inst) => `(tactic| k_extra "q:k_inst")
local macro_rules | `(tactic| k_all) => `(tactic| k_extra "q:k_all")
local macro_rules | `(tactic| k_lt $h:ident) => `(tactic| (replace $h := allLt_of $h; dsimp only [AllLt] at $h:ident))
local macro_rules | `(tactic| row_timed "f" ($t)) => do
  let r ← t.raw.rewriteBottomUpM fun s => do
    if s.isIdent && s.getId.toString.back == 'Z' then return Lean.mkIdent (← Lean.Macro.addMacroScope s.getId)
    if s.getKind == ``Lean.Parser.Tactic.fail then return (← `(tactic| skip)).raw
    return s
  return r
section
theorem off_PRE1q : True := by
  k_with_none
  trivial
open PySem PySem.W PyProof.Rows PySem.Calls
noncomputable abbrev entD (P : Params) (t1 t2 t3 t4 : Tok) (ua ru : Addr) : Obj :=
  dictOf [⟨PyData.keyHash P "useragents", .str "useragents" t1, .ref ua⟩, ⟨PyData.keyHash P "rulelines", .str "rulelines" t2, .ref ru⟩,
    ⟨PyData.keyHash P "delay", .str "delay" t3, .none⟩, ⟨PyData.keyHash P "req_rate", .str "req_rate" t4, .none⟩] 4
noncomputable abbrev lsO (vs : List Value) (n : Nat) : Obj := ⟨.type "list", none, .seq vs.toArray n, #[]⟩
end
section
theorem off_RA : True := by
  k_with_none
  trivial
open PySem PySem.W PyProof.Rows PySem.Calls
theorem execs_consK {M : Model} {A : Around} {st : Stmt} {rest : List Stmt} {env : Env} {Q : Flow → Shared → Prop} {E : Value → Shared → Prop} {hh : Heap} {g : _} {d : _} {o : _} {t : Nat}
    (h : ∀ (K : Flow → Shared → Prop) (tk : Nat), (∀ f s', (match f with | .next => wpAny M A (execs rest env) Q E s' | f => Q f s') → K f s') → wpAny M A (exec st env) K E ⟨hh, g, d, tk, o⟩) : wpAny M A (execs (st :: rest) env) Q E ⟨hh, g, d, t, o⟩ := wpAny_execs_cons (h _ t fun _ _ x => x)
theorem wp_gen {α : Type} {M : Model} {A : Around} {x : Sem α} {Q : α → Shared → Prop} {E : Value → Shared → Prop} {s : Shared}
    (h : ∀ (K : α → Shared → Prop) (E' : Value → Shared → Prop), (∀ v s', Q v s' → K v s') → (∀ v s', E v s' → E' v s') → wpAny M A x K E' s) : wpAny M A x Q E s := h Q E (fun _ _ x => x) fun _ _ x => x
theorem ja0 {p q : Prop} (h : p ∧ q) : p := h.1
theorem ja1 {x0 p q : Prop} (h : x0 ∧ p ∧ q) : p := h.2.1
theorem je1 {x0 x p : Prop} (h : x0 ∧ x ∧ p) : p := h.2.2
theorem ja2 {x0 x1 p q : Prop} (h : x0 ∧ x1 ∧ p ∧ q) : p := h.2.2.1
theorem ja3 {x0 x1 x2 p q : Prop} (h : x0 ∧ x1 ∧ x2 ∧ p ∧ q) : p := h.2.2.2.1
theorem ja4 {x0 x1 x2 x3 p q : Prop} (h : x0 ∧ x1 ∧ x2 ∧ x3 ∧ p ∧ q) : p := h.2.2.2.2.1
theorem ja5 {x0 x1 x2 x3 x4 p q : Prop} (h : x0 ∧ x1 ∧ x2 ∧ x3 ∧ x4 ∧ p ∧ q) : p := h.2.2.2.2.2.1
theorem je5 {x0 x1 x2 x3 x4 x p : Prop} (h : x0 ∧ x1 ∧ x2 ∧ x3 ∧ x4 ∧ x ∧ p) : p := h.2.2.2.2.2.2
theorem ja6 {x0 x1 x2 x3 x4 x5 p q : Prop} (h : x0 ∧ x1 ∧ x2 ∧ x3 ∧ x4 ∧ x5 ∧ p ∧ q) : p := h.2.2.2.2.2.2.1
theorem ja7 {x0 x1 x2 x3 x4 x5 x6 p q : Prop} (h : x0 ∧ x1 ∧ x2 ∧ x3 ∧ x4 ∧ x5 ∧ x6 ∧ p ∧ q) : p := h.2.2.2.2.2.2.2.1
theorem je7 {x0 x1 x2 x3 x4 x5 x6 x p : Prop} (h : x0 ∧ x1 ∧ x2 ∧ x3 ∧ x4 ∧ x5 ∧ x6 ∧ x ∧ p) : p := h.2.2.2.2.2.2.2.2
theorem ja8 {x0 x1 x2 x3 x4 x5 x6 x7 p q : Prop} (h : x0 ∧ x1 ∧ x2 ∧ x3 ∧ x4 ∧ x5 ∧ x6 ∧ x7 ∧ p ∧ q) : p := h.2.2.2.2.2.2.2.2.1
theorem ja9 {x0 x1 x2 x3 x4 x5 x6 x7 x8 p q : Prop} (h : x0 ∧ x1 ∧ x2 ∧ x3 ∧ x4 ∧ x5 ∧ x6 ∧ x7 ∧ x8 ∧ p ∧ q) : p := h.2.2.2.2.2.2.2.2.2.1
theorem je13 {x0 x1 x2 x3 x4 x5 x6 x7 x8 x9 x10 x11 x12 x p : Prop} (h : x0 ∧ x1 ∧ x2 ∧ x3 ∧ x4 ∧ x5 ∧ x6 ∧ x7 ∧ x8 ∧ x9 ∧ x10 ∧ x11 ∧ x12 ∧ x ∧ p) : p := h.2.2.2.2.2.2.2.2.2.2.2.2.2.2
theorem je14 {x0 x1 x2 x3 x4 x5 x6 x7 x8 x9 x10 x11 x12 x13 x p : Prop} (h : x0 ∧ x1 ∧ x2 ∧ x3 ∧ x4 ∧ x5 ∧ x6 ∧ x7 ∧ x8 ∧ x9 ∧ x10 ∧ x11 ∧ x12 ∧ x13 ∧ x ∧ p) : p := h.2.2.2.2.2.2.2.2.2.2.2.2.2.2.2
theorem js {a : Nat} : a < a + 1 := Nat.lt_succ_self a
theorem jl {a b : Nat} (h : a < b) : a < b + 1 := Nat.lt_succ_of_lt h
theorem jn {a b c : Nat} (h : a ≤ b) (e : b ≤ c := by decide) : a ≤ c := Nat.le_trans h e
theorem jj {a b c : Int} (h : a ≤ b) (e : b < c := by decide) : a < c := Int.lt_of_le_of_lt h e
theorem fm {α : Type} {P : α → Prop} {a : α} {l : List α} (h : P a) (t : ∀ x ∈ l, P x) : ∀ x ∈ a :: l, P x := List.forall_mem_cons.mpr ⟨h, t⟩
theorem bn0 {i n : Nat} (h : n - i = 0) : n ≤ i := Nat.sub_eq_zero_iff_le.mp h
theorem bn1 {i n k : Nat} (h : n - i = k + 1) : n - (i + 1) = k := by rw [Nat.sub_succ, h]; rfl
theorem bn2 {i n k : Nat} (h : n - i = k + 1) : i < n := Nat.lt_of_sub_pos (h ▸ Nat.succ_pos k)
theorem bi1 {i n k : Nat} (h : i + (k + 1) = n) : i < n := h ▸ Nat.lt_add_of_pos_right (Nat.succ_pos k)
theorem bi2 {i n k : Nat} (h : i + (k + 1) = n) : i + 1 + k = n := (Nat.succ_add_eq_add_succ i k).trans h
theorem room0 {d n R : Nat} (h : d + n < R) : d < R := Nat.lt_of_le_of_lt (Nat.le_add_right d n) h
theorem room1 {d n a R : Nat} (h : d + n < R) (e : Nat.ble a n = true) : d + a < R := Nat.lt_of_le_of_lt (Nat.add_le_add_left (Nat.le_of_ble_eq_true e) d) h
theorem room2 {d n a b R : Nat} (h : d + n < R) (e : Nat.ble (a + b) n = true) : d + a + b < R := Nat.add_assoc d a b ▸ room1 h e
theorem room3 {d n a b c R : Nat} (h : d + n < R) (e : Nat.ble (a + b + c) n = true) : d + a + b + c < R := by rw [Nat.add_assoc, Nat.add_assoc d, ← Nat.add_assoc a]; exact room1 h e
theorem room4 {d n a b c f R : Nat} (h : d + n < R) (e : Nat.ble (a + b + c + f) n = true) : d + a + b + c + f < R := by rw [Nat.add_assoc, Nat.add_assoc d, Nat.add_assoc d]; exact room1 h ((by simp only [Nat.add_assoc] at e ⊢; exact e))
noncomputable abbrev accO (C d : Addr) (xs : Array Value) (n : Nat) : Obj := ⟨.ref C, some d, .seq xs n, #[]⟩
section
variable {prog : Program} {w : World} {A : Around} {E : Value → Shared → Prop} {s : Shared} {K : Frag} {x C dx L : Addr} {h₀ : Heap} {m : Str → Option Value} {news news' : List (Addr × Obj)} {od : Obj} {xs : Array Value} {n : Nat}
theorem instAcc (hx : s.heap.get? x = some (accO C dx xs n)) (hd : s.heap.get? dx = some od) : InstAt s.heap x (accO C dx xs n) C (some od) := ⟨hx, rfl, rfl, hd⟩
theorem instAcc_news (N : News h₀ L s.heap news) (h1 : (x, accO C dx xs n) ∈ news) (h2 : (dx, od) ∈ news) : InstAt s.heap x (accO C dx xs n) C (some od) := instAcc (N _ h1).1 (N _ h2).1
theorem check_on {M : Model} {id owner nm : String} {self : Value} {rest : List Value} {kw : List (Str × Value)} {Q : Unit → Shared → Prop}
    (hs : splitId id = some (owner, nm)) (hk : builtinKind id = some .slot ∨ builtinKind id = some .method) (hi : Looks M s.heap (isInstance self (.type owner)) true) (ha : argsOk id ⟨self :: rest, kw⟩) (q : Q () s) :
    wpAny M A (checkBuiltinCall id ⟨self :: rest, kw⟩) Q E s := by
  rcases hk with hk | hk <;>
  · unfold checkBuiltinCall
    rw [hk, hs]
    dsimp only
    refine wpAny_bind (hi.here ?_)
    rw [Bool.not_true, if_neg Bool.false_ne_true]
    cases hsig : Manifest.signature? id with
    | none => exact wpAny_pure q
    | some sig =>
      unfold argsOk at ha
      rw [hsig] at ha
      have h2 : Bind.checkArgs id sig ⟨self :: rest, kw⟩ = pure () := ha
      show wpAny M A (Bind.checkArgs id sig ⟨self :: rest, kw⟩) Q E s
      rw [h2]; exact wpAny_pure q
theorem call_on {id owner nm : String} {b : Builtin} {self : Value} {rest : List Value} {Q : Value → Shared → Prop}
    (hp : plainId id = true) (hb : entryFor table id = some b) (hs : splitId id = some (owner, nm)) (hk : builtinKind id = some .slot ∨ builtinKind id = some .method)
    (hi : Looks (model prog w) s.heap (isInstance self (.type owner)) true) (ha : argsOk id ⟨self :: rest, []⟩)
    (hc : wpAny (model prog w) A.in1 (b ⟨self :: rest, []⟩) (fun fin s' => ∃ v, fin = .done (.ret v) ∧ Q v s') E s) :
    wpAny (model prog w) A (call (.builtin id) (self :: rest)) Q E s := by
  refine wpAny_call (codeAny_call_builtin hp hb (check_on hs hk hi ha (wpAny_mono hc (fun fin s' h' => ?_) fun _ _ h' => h')))
  obtain ⟨v, rfl, hv⟩ := h'; exact hv
theorem acc_isList (X : K.In s.heap) (hx : s.heap.get? x = some (accO C dx xs n)) (hsub : subIn K (.ref C) (.type "list") = some true) : Looks (model prog w) s.heap (isInstance (.ref x) (.type "list")) true :=
  ((Looks.ld (part := some headPart) hx).andThen .now).andThen (looks_subIn X hsub)
theorem acc_append_at {v : Value} {Q : Value → Shared → Prop} (X : K.In s.heap) (hx : s.heap.get? x = some (accO C dx xs n)) (hsub : subIn K (.ref C) (.type "list") = some true) (hsz : xs.size ≤ 1000)
    (h : ∀ h', Heap.SameBut x s.heap h' → h'.get? x = some (accO C dx (xs.push v) (n + 1)) → Q .none { s with heap := h' }) :
    wpAny (model prog w) A (call (.builtin "list.append") [.ref x, v]) Q E s := by
  refine call_on (by decide +kernel) PySem.F.entry_list_append (owner := "list") (nm := "append") (by decide +kernel) (.inr (by decide +kernel)) (acc_isList X hx hsub) (PySem.F.args_list_append_2 _ _) ?_
  show wpAny _ _ (updateSeq x (·.push v) >>= fun _ => ret .none) _ _ s
  have e : Obj.mapSeq (·.push v) (accO C dx xs n) = accO C dx (xs.push v) (n + 1) := by simp [Obj.mapSeq]
  refine wpAny_bind (wpAny_updateSeq hx rfl (wpAny_pure ⟨.none, rfl, h _ (Heap.SameBut.update ..) ?_⟩) (by rw [sizeLine_eq]; omega) (by rw [sizeLine_eq, Array.size_push]; omega))
  rw [Heap.get?_update_self _ hx (by rw [e]; rfl), e]
theorem acc_pop_body {Q : Value → Shared → Prop} {ys : List Value} {v : Value} (hx : s.heap.get? x = some (accO C dx (ys ++ [v]).toArray n)) (hsz : ys.length ≤ 1000)
    (h : ∀ h' n', Heap.SameBut x s.heap h' → h'.get? x = some (accO C dx ys.toArray n') → Q v { s with heap := h' }) :
    wpAny (model prog w) A (Builtin.«list.pop» ⟨[.ref x], []⟩) (fun fin s' => ∃ v, fin = .done (.ret v) ∧ Q v s') E s := by
  show wpAny _ _ (Builtin.List.listItems (.ref x) >>= _) _ _ s
  unfold Builtin.List.listItems
  refine wpAny_bind (wpAny_bind (wpAny_seqItems hx rfl (wpAny_pure ?_)))
  have e1 : (ys ++ [v]).toArray.isEmpty = false := by simp
  have e2 : seqIndex? (-1) (ys ++ [v]).toArray.size = some ys.length := by
    unfold seqIndex?
    simp
    omega
  have e3 : ((seqIndex? (-1) (ys ++ [v]).toArray.size).bind fun k => (ys ++ [v]).toArray[k]?.map (k, ·)) = some (ys.length, v) := by rw [e2]; simp
  rw [e1, if_neg (by decide), e3]
  show wpAny _ _ (updateSeq x (fun xs => xs.eraseIdxIfInBounds ys.length) >>= fun _ => ret v) _ _ s
  have e : Obj.mapSeq (·.eraseIdxIfInBounds ys.length) (accO C dx (ys ++ [v]).toArray n) = accO C dx ys.toArray (n + 1) := by
    simp [Obj.mapSeq, List.eraseIdx_append_of_length_le]
  refine (wpAny_bind (wpAny_updateSeq hx rfl (wpAny_pure ⟨v, rfl, h _ (n + 1) (Heap.SameBut.update ..) ?_⟩) (by rw [sizeLine_eq]; simp; omega) (by rw [sizeLine_eq, List.eraseIdxIfInBounds_toArray, List.size_toArray, List.eraseIdx_append_of_length_le (Nat.le_refl _)]; simp; omega)))
  rw [Heap.get?_update_self _ hx (by rw [e]; rfl), e]
theorem acc_len_body {Q : Value → Shared → Prop} (hx : s.heap.get? x = some (accO C dx xs n)) (h : Q (.int xs.size s.toks) { s with toks := s.toks + 1 }) :
    wpAny (model prog w) A (Builtin.«list.__len__» ⟨[.ref x], []⟩) (fun fin s' => ∃ v, fin = .done (.ret v) ∧ Q v s') E s := by
  show wpAny _ _ (seqSize x >>= fun k => retInt k) _ _ s
  unfold seqSize
  refine wpAny_bind (wpAny_bind (wpAny_loadPart hx (wpAny_pure ?_)))
  exact wpAny_bind (wpAny_mkInt (wpAny_pure ⟨_, rfl, h⟩))
theorem special_bi {M : Model} {ox : Obj} {odx : Option Obj} {name : Str} {id : String} {args : List Value} {Q : Option Value → Shared → Prop} (X : K.In s.heap) (I : InstAt s.heap x ox C odx)
    (hs : findIn K (.ref C) name = some (some (.builtin id))) (hb : bindSpecial (.builtin id) (.ref x) = pure (.builtin id, [.ref x])) (h : wpAny M A (call (.builtin id) (.ref x :: args)) (fun v => Q (some v)) E s) :
    wpAny M A (callSpecial? (.ref x) name args) Q E s := by
  unfold callSpecial? specialOf
  refine wpAny_bind (wpAny_bind (I.type.here ((looks_findIn X hs).here ?_)))
  refine wpAny_holding ?_
  rw [hb]
  exact wpAny_bind (wpAny_pure (wpAny_bind (wpAny_mono h (fun _ _ z => wpAny_pure z) fun _ _ z => z)))
theorem seqKey_inst {M : Model} {ox : Obj} {odx : Option Obj} {name : Str} {k : Value} {Q : Value → Shared → Prop} (X : K.In s.heap) (I : InstAt s.heap x ox C odx) (hq : noSeq K C = true) (h : Q k s) : wpAny M A (sequenceKey (.ref x) k name) Q E s := by
  unfold sequenceKey
  refine wpAny_bind (I.type.here ?_)
  refine wpAny_bind ((anyM_none X hq).here ?_)
  rw [if_pos (show (!false) = true from rfl)]
  exact wpAny_pure h
theorem acc_getItem_int {Q : Value → Shared → Prop} {k : Int} {t : Tok} {v : Value} (X : K.In s.heap) (I : InstAt s.heap x (accO C dx xs n) C (some od)) (hsub : subIn K (.ref C) (.type "list") = some true) (hq : noSeq K C = true)
    (hs : findIn K (.ref C) "__getitem__" = some (some (.builtin "list.__getitem__"))) (h0 : 0 ≤ k) (hfit : k < 2 ^ 63) (hv : xs[k.toNat]? = some v) (h : Q v s) :
    wpAny (model prog w) A (getItem (.ref x) (.int k t)) Q E s := by
  unfold getItem
  refine wpAny_holding (wpAny_bind (seqKey_inst X I hq ?_))
  refine wpAny_bind (special_bi X I hs (slot_list_getitem.bind _) ?_)
  refine call_on slot_list_getitem.plain entry_list_getitem (owner := "list") (nm := "__getitem__") (by decide +kernel) (.inr (by decide +kernel)) (acc_isList X I.at_ hsub) (args_list_getitem _ _) ?_
  show wpAny _ _ (Builtin.List.listSubscript? (.int k t) >>= _) _ _ s
  refine wpAny_bind (wpAny_listSubscript_int (fitsIndex_of h0 hfit) ?_)
  clear hfit
  obtain ⟨j, rfl⟩ := Int.eq_ofNat_of_zero_le h0
  have hx' : xs[j]? = some v := hv
  show wpAny _ _ ((seqItemAt x j >>= fun r => pure (r.map (j, ·))) >>= _) _ _ s
  refine wpAny_bind (wpAny_bind (wpAny_seqItemAt I.at_ rfl (wpAny_pure ?_)))
  rw [hx']
  first
    | exact wpAny_bind (wpAny_pure (wpAny_pure ⟨v, rfl, wpAny_pure h⟩))
    | exact wpAny_pure ⟨v, rfl, wpAny_pure h⟩
theorem acc_getSlice {Q : Value → Shared → Prop} {sl : Addr} {vl vu vs : Value} {lo hi st : Option Int} (X : K.In s.heap) (I : InstAt s.heap x (accO C dx xs n) C (some od)) (hsub : subIn K (.ref C) (.type "list") = some true) (hq : noSeq K C = true)
    (hs : findIn K (.ref C) "__getitem__" = some (some (.builtin "list.__getitem__"))) (hsl : s.heap.IsSliceOf sl vl vu vs) (pl : IsPart vl lo) (pu : IsPart vu hi) (ps : IsPart vs st) (h0 : st ≠ some 0) (hsz : xs.size ≤ 1000)
    (h : Q (.ref s.heap.objs.size) { s with heap := s.heap.push { cls := .type "list", data := .seq (slicePick xs lo hi st) } }) :
    wpAny (model prog w) A (getItem (.ref x) (.ref sl)) Q E s := by
  obtain ⟨os, hos, hcs, hds⟩ := id hsl
  have hTs : s.TypeIs (.ref sl) "slice" := ⟨os, hos, hcs⟩
  unfold getItem
  refine wpAny_holding (wpAny_bind (seqKey_inst X I hq ?_))
  refine wpAny_bind (special_bi X I hs (slot_list_getitem.bind _) ?_)
  refine call_on slot_list_getitem.plain entry_list_getitem (owner := "list") (nm := "__getitem__") (by decide +kernel) (.inr (by decide +kernel)) (acc_isList X I.at_ hsub) (args_list_getitem _ _) ?_
  show wpAny _ _ (Builtin.List.listSubscript? (.ref sl) >>= _) _ _ s
  refine wpAny_bind ?_
  unfold Builtin.List.listSubscript?
  refine wpAny_bind (wpAny_specialOf hTs slice_no_index ?_)
  rw [Option.isNone_none, if_pos rfl]
  refine wpAny_pure ?_
  show wpAny _ _ (typeOf (.ref sl) >>= _) _ _ s
  refine wpAny_bind (wpAny_typeOf hTs ?_)
  rw [if_neg (by decide)]
  rw [listSliceParts_eq]
  have hstep : ¬ ((rawPart st == rawInt 0) = true) := by
    cases st with
    | none => exact Bool.false_ne_true
    | some c =>
      intro hh
      have : c = 0 := by simpa [rawPart, rawInt] using hh
      exact h0 (by rw [this])
  refine wpAny_bind (wpAny_bind (wpAny_field hos hds (x := vs) rfl (wpAny_bind (wpAny_listPart ps ?_))))
  rw [if_neg hstep]
  refine wpAny_bind (wpAny_field hos hds (x := vl) rfl (wpAny_bind (wpAny_listPart pl ?_)))
  refine wpAny_bind (wpAny_field hos hds (x := vu) rfl (wpAny_bind (wpAny_listPart pu (wpAny_pure ?_))))
  refine wpAny_bind (m := Builtin.List.listItems (.ref x)) ?_
  unfold Builtin.List.listItems
  refine wpAny_bind (wpAny_seqItems I.at_ rfl (wpAny_pure ?_))
  refine wpAny_bind (wpAny_of_eq (sliceIndices_raw lo hi st xs.size h0) ?_)
  exact wpAny_bind (wpAny_newObj_type (wpAny_pure ⟨_, rfl, wpAny_pure h⟩) (Nat.le_trans (slicePick_size_le xs lo hi st) (by rw [sizeLine_eq]; omega)))
theorem acc_setSlice {Q : Unit → Shared → Prop} {sl b : Addr} {vl vu vs : Value} {lo hi : Option Int} {zs : Array Value} {start stop : Int} (X : K.In s.heap) (I : InstAt s.heap x (accO C dx xs n) C (some od)) (hsub : subIn K (.ref C) (.type "list") = some true) (hq : noSeq K C = true)
    (hs : findIn K (.ref C) "__setitem__" = some (some (.builtin "list.__setitem__"))) (hsl : s.heap.IsSliceOf sl vl vu vs) (pl : IsPart vl lo) (pu : IsPart vu hi) (ps : IsPart vs none) (hb : s.heap.IsList b zs) (hne : b ≠ x)
    (hsz : xs.size ≤ 1000) (hsz' : zs.size ≤ 1000) (hbd : sliceBounds lo hi none xs.size = (start, stop, 1))
    (h : ∀ h' n', Heap.SameBut x s.heap h' → h'.get? x = some (accO C dx (xs.extract 0 start.toNat ++ zs ++ xs.extract (max start stop).toNat xs.size) n') → Q () { s with heap := h' }) :
    wpAny (model prog w) A (setItem (.ref x) (.ref sl) (.ref b)) Q E s := by
  obtain ⟨os, hos, hcs, hds⟩ := id hsl
  obtain ⟨ob, hob, hcb, nb, hdb⟩ := id hb
  have hTs : s.TypeIs (.ref sl) "slice" := ⟨os, hos, hcs⟩
  unfold setItem
  refine wpAny_holding (wpAny_bind (seqKey_inst X I hq ?_))
  refine wpAny_bind (special_bi X I hs (slot_list_setitem.bind _) ?_)
  refine call_on slot_list_setitem.plain entry_list_setitem (owner := "list") (nm := "__setitem__") (by decide +kernel) (.inl (by decide +kernel)) (acc_isList X I.at_ hsub) (args_list_setitem _ _ _) ?_
  show wpAny _ _ (Builtin.List.listSubscript? (.ref sl) >>= _) _ _ s
  refine wpAny_bind ?_
  unfold Builtin.List.listSubscript?
  refine wpAny_bind (wpAny_specialOf hTs slice_no_index ?_)
  rw [Option.isNone_none, if_pos rfl]
  refine wpAny_pure ?_
  show wpAny _ _ (typeOf (.ref sl) >>= _) _ _ s
  refine wpAny_bind (wpAny_typeOf hTs ?_)
  rw [if_neg (by decide)]
  rw [listSliceParts_eq]
  refine wpAny_bind (wpAny_bind (wpAny_field hos hds (x := vs) rfl (wpAny_bind (wpAny_listPart ps ?_))))
  rw [if_neg (show ¬ ((rawPart none == rawInt 0) = true) from Bool.false_ne_true)]
  refine wpAny_bind (wpAny_field hos hds (x := vl) rfl (wpAny_bind (wpAny_listPart pl ?_)))
  refine wpAny_bind (wpAny_field hos hds (x := vu) rfl (wpAny_bind (wpAny_listPart pu (wpAny_pure ?_))))
  have hsr : Builtin.List.listSameRef (.ref x) (.ref b) = false := by
    show (x == b) = false
    exact beq_eq_false_iff_ne.mpr (Ne.symm hne)
  dsimp only
  rw [hsr, if_neg Bool.false_ne_true]
  have hTb : s.TypeIs (.ref b) "list" := ⟨ob, hob, hcb⟩
  refine wpAny_bind ?_
  unfold Builtin.List.listAllItems
  refine wpAny_bind (wpAny_typeOf hTb ?_)
  rw [if_pos (by decide)]
  have lb : ∀ {Q' : Array Value → Shared → Prop}, Q' zs s → wpAny (model prog w) A.in1 (Builtin.List.listItems (.ref b)) Q' E s := fun hq => by
    unfold Builtin.List.listItems; exact wpAny_bind (wpAny_seqItems hob hdb (wpAny_pure hq))
  have lx : ∀ {Q' : Array Value → Shared → Prop}, Q' xs s → wpAny (model prog w) A.in1 (Builtin.List.listItems (.ref x)) Q' E s := fun hq => by
    unfold Builtin.List.listItems; exact wpAny_bind (wpAny_seqItems I.at_ rfl (wpAny_pure hq))
  first | refine lb ?_ | refine wpAny_bind (lb (wpAny_pure ?_))
  refine wpAny_bind (lx ?_)
  refine wpAny_bind (wpAny_of_eq (sliceIndices_raw lo hi none xs.size (by simp)) ?_)
  rw [hbd]
  dsimp only
  rw [if_pos (by decide)]
  have hl : Builtin.List.listTooLong (xs.size + zs.size) = false := by
    unfold Builtin.List.listTooLong
    rw [sizeLine_eq]
    exact decide_eq_false (by omega)
  rw [hl, if_neg Bool.false_ne_true]
  have e : ∃ n', Obj.mapSeq (fun xs => xs.extract 0 start.toNat ++ zs ++ xs.extract (max start stop).toNat xs.size) (accO C dx xs n) = accO C dx (xs.extract 0 start.toNat ++ zs ++ xs.extract (max start stop).toNat xs.size) n' := by
    unfold Obj.mapSeq; exact ⟨_, rfl⟩
  obtain ⟨n', e⟩ := e
  have hsz2 : (xs.extract 0 start.toNat ++ zs ++ xs.extract (max start stop).toNat xs.size).size ≤ 3000 := by
    simp only [Array.size_append, Array.size_extract]
    exact Nat.le_trans (Nat.add_le_add (Nat.add_le_add (Nat.le_trans (Nat.sub_le _ _) (Nat.min_le_right _ _)) (Nat.le_refl _)) (Nat.le_trans (Nat.sub_le _ _) (Nat.min_le_right _ _))) (Nat.le_trans (Nat.add_le_add (Nat.add_le_add hsz hsz') hsz) (by decide))
  show wpAny _ _ (rule _ >>= fun _ => updateSeq x (fun xs => xs.extract 0 start.toNat ++ zs ++ xs.extract (max start stop).toNat xs.size) >>= _) _ _ s
  refine wpAny_bind (wpAny_rule (wpAny_bind (wpAny_updateSeq I.at_ rfl (wpAny_bind (wpAny_letGo (wpAny_pure ⟨.none, rfl, wpAny_pure (h _ n' (Heap.SameBut.update ..) ?_)⟩))) (by rw [sizeLine_eq]; omega) (by rw [sizeLine_eq]; omega))))
  rw [Heap.get?_update_self _ I.at_ (by rw [e]; rfl), e]
theorem acc_init_body {Q : Value → Shared → Prop} (hx : s.heap.get? x = some (accO C dx xs n)) (hsz : xs.size ≤ 1000)
    (h : ∀ h' n', Heap.SameBut x s.heap h' → h'.get? x = some (accO C dx #[] n') → Q .none { s with heap := h' }) :
    wpAny (model prog w) A (Builtin.«list.__init__» ⟨[.ref x], []⟩) (fun fin s' => ∃ v, fin = .done (.ret v) ∧ Q v s') E s := by
  show wpAny _ _ (Builtin.List.listItems (.ref x) >>= fun old => updateSeq x (fun _ => #[]) >>= fun _ => letGo old.toList.reverse >>= fun _ => ret .none) _ _ s
  have e : ∃ n', Obj.mapSeq (fun _ => #[]) (accO C dx xs n) = accO C dx #[] n' := by
    unfold Obj.mapSeq; exact ⟨_, rfl⟩
  obtain ⟨n', e⟩ := e
  refine wpAny_bind ?_
  unfold Builtin.List.listItems
  refine wpAny_bind (wpAny_seqItems hx rfl (wpAny_pure ?_))
  refine wpAny_bind (wpAny_updateSeq hx rfl (wpAny_bind (wpAny_letGo (wpAny_pure ⟨.none, rfl, h _ n' (Heap.SameBut.update ..) ?_⟩))) (by rw [sizeLine_eq]; omega) (by rw [sizeLine_eq]; simp))
  rw [Heap.get?_update_self _ hx (by rw [e]; rfl), e]
theorem ifBound_bi {M : Model} {ox : Obj} {odx : Option Obj} {name : Str} {id : String} {refuse : Sem Value} {Q : Option Value → Shared → Prop} (X : K.In s.heap) (I : InstAt s.heap x ox C odx)
    (hs : findIn K (.ref C) name = some (some (.builtin id))) (hb : bindSpecial (.builtin id) (.ref x) = pure (.builtin id, [.ref x])) (hc : wpAny M A (call (.builtin id) [.ref x]) (fun v => Q (some v)) E s) :
    wpAny M A (callSpecialIfBoundUnlessNone? (.ref x) name refuse) Q E s := by
  unfold callSpecialIfBoundUnlessNone? bindSpecialIfBound? specialOf
  refine wpAny_holding (wpAny_bind (wpAny_bind (wpAny_bind (I.type.here ((looks_findIn X hs).here ?_)))))
  dsimp only
  rw [hb]
  refine wpAny_bind (wpAny_askSetting (wpAny_ite ?_))
  have fin : wpAny M A (if (Value.builtin id == Value.none) = true then (refuse >>= fun v => pure (some v)) else (call (.builtin id) [.ref x] >>= fun v => pure (some v))) Q E s := by
    rw [builtin_beq_none, if_neg Bool.false_ne_true]
    exact wpAny_bind (wpAny_mono hc (fun v s' h' => wpAny_pure h') fun _ _ h' => h')
  refine iteInduction (motive := fun p => p) (fun _ => ?_) (fun _ => ?_)
  · exact wpAny_bind (wpAny_pure (wpAny_pure fin))
  · exact wpAny_tryCatch (wpAny_bind (wpAny_pure (wpAny_pure fin)))
theorem acc_pyIter {Q : Value → Shared → Prop} (X : K.In s.heap) (I : InstAt s.heap x (accO C dx xs n) C (some od)) (hsub : subIn K (.ref C) (.type "list") = some true)
    (hs : findIn K (.ref C) "__iter__" = some (some (.builtin "list.__iter__")))
    (hQ : Q (.ref s.heap.objs.size) { s with heap := s.heap.push { cls := .type "list_iterator", data := .fields #[.ref x, .int 0 0] } }) :
    wpAny (model prog w) A (pyIter (.ref x)) Q E s := by
  unfold pyIter specialOf
  refine wpAny_bind (wpAny_bind (I.type.here ((looks_findIn X hs).here ?_)))
  show wpAny _ _ (callSpecialIfBoundUnlessNone? (.ref x) "__iter__" _ >>= _) _ _ s
  refine wpAny_bind (ifBound_bi X I hs (slot_list_iter.bind _) ?_)
  have hT : (⟨s.heap.push { cls := .type "list_iterator", data := .fields #[.ref x, .int 0 0] }, s.gens, s.drawn, s.toks, s.os⟩ : Shared).TypeIs (.ref s.heap.objs.size) "list_iterator" := ⟨_, Heap.get?_push_size _ rfl, rfl⟩
  refine call_on slot_list_iter.plain entry_list_iter (owner := "list") (nm := "__iter__") (by decide +kernel) (.inl (by decide +kernel)) (acc_isList X I.at_ hsub) (args_list_iter _) ?_
  show wpAny _ _ (do ret (← newFields "list_iterator" [.ref x, rawInt 0])) _ _ s
  exact wpAny_bind (wpAny_newObj_type (wpAny_pure ⟨_, rfl, wpAny_bind (wpAny_specialOf hT slot_listiter_next.lookup (wpAny_pure hQ))⟩))
end
end
section
theorem off_RB : True := by
  k_with_none
  trivial
open PySem PySem.W PyProof.Rows PySem.Calls
noncomputable def makesL (K : Frag) (C : Addr) : Bool := match K.lookup C with
  | some ⟨_, _, .cls cd, sl⟩ => !cd.abstract && !cd.hasDel && (sl.toList[4]?).join == some (.builtin "list.__new__") && !cd.mro.isEmpty && cd.mro.contains (.ref C) && cd.mro.contains (.type "list") &&
      specialIn K (.ref C) "__call__" == some (some (.builtin "type.__call__")) && instIn K (.ref C) (.type "type") == some true && typeHasDict (.ref C)
  | _ => false
structure MakesL (M : Model) (h : Heap) (C : Addr) : Prop where
  obj : ∃ oc od cd sl, h.get? C = some ⟨oc, od, .cls cd, sl⟩ ∧ cd.abstract = false ∧ cd.hasDel = false ∧ cd.mro.isEmpty = false
  made : Looks M h (Bind.madeBy (.ref C)) (some "list.__new__")
  base : Looks M h (Bind.staticBase (.ref C)) (.ref C)
  self : Looks M h (isSubtype (.ref C) (.ref C)) true
  top : Looks M h (isSubtype (.ref C) (.type "list")) true
  call : Looks M h (specialOf (.ref C) "__call__") (some (.builtin "type.__call__"))
  typ : Looks M h (isInstance (.ref C) (.type "type")) true
  hasD : typeHasDict (.ref C) = true
theorem makesL_of {K : Frag} {M : Model} {h : Heap} (X : K.In h) {C : Addr} (e : makesL K C = true) : MakesL M h C := by
  unfold makesL at e
  cases ho : K.lookup C with
  | none => rw [ho] at e; cases e
  | some ob =>
  rw [ho] at e
  obtain ⟨oc, od, dt, sl⟩ := ob
  cases dt with
  | cls cd =>
    simp only [Bool.and_eq_true, Bool.not_eq_true', beq_iff_eq] at e
    obtain ⟨⟨⟨⟨⟨⟨⟨⟨e1, e2⟩, e3⟩, e4⟩, e5⟩, e6⟩, e7⟩, e8⟩, e9⟩ := e
    have hc : clsIn K C = some cd := by unfold clsIn; rw [ho]
    have hm : Looks M h (mroOf (.ref C)) cd.mro := (looks_clsIn X hc).andThen .now
    obtain ⟨c, l, hl⟩ : ∃ c l, cd.mro = c :: l := by cases q : cd.mro with | nil => rw [q] at e4; cases e4 | cons c l => exact ⟨c, l, rfl⟩
    have made : Looks M h (Bind.madeBy (.ref C)) (some "list.__new__") := by
      intro A Q E s k q
      unfold Bind.madeBy
      refine wpAny_bind (hm A _ E s k ?_)
      rw [hl, List.forIn_cons]
      refine wpAny_bind (wpAny_bind (wpAny_bind (wpAny_bind (wpAny_loadPart (k _ _ (X _ _ ho)) (wpAny_pure ?_)))))
      dsimp only
      rw [← Array.getElem?_toList, e3]
      exact wpAny_pure (wpAny_pure (wpAny_pure q))
    refine ⟨⟨oc, od, cd, sl, X _ _ ho, e1, e2, e4⟩, made, ?_, looks_mroIn X ?_, looks_mroIn X ?_, looks_specialIn X e7, looks_instIn X e8, e9⟩
    · intro A Q E s k q
      unfold Bind.staticBase
      refine wpAny_bind (hm A _ E s k ?_)
      rw [hl, List.forIn_cons]
      exact wpAny_bind (wpAny_bind (wpAny_bind (made A _ E s k (wpAny_pure (wpAny_pure (wpAny_pure q))))))
    · unfold mroIn; rw [hc, Option.bind_some, if_neg (by rw [e4]; decide), e5]
    · unfold mroIn; rw [hc, Option.bind_some, if_neg (by rw [e4]; decide), e6]
  | _ => cases e
theorem ln_split : splitId "list.__new__" = some ("list", "__new__") := by decide +kernel
theorem ln_kind : builtinKind "list.__new__" = some .builtinFn := by decide +kernel
section
variable {prog : Program} {w : World} {A : Around} {K : Frag} {C : Addr} {R : Result → Shared → Prop} {h : Heap} {g : Array GenState} {d : Drawn} {t : Nat} {os : OsState}
theorem ln_args (a b : Value) : argsOk "list.__new__" ⟨[a, b], []⟩ := by unfold argsOk; kernel_rfl
theorem new_L {v : Value} (Y : MakesL (model prog w) h C)
    (hq : R (.ok (.ret (.ref (h.objs.size + 1)))) ⟨(h.push emptyDict).push (accO C h.objs.size #[] 0), g, d, t, os⟩) :
    codeAny (model prog w) A (.call (.builtin "list.__new__") ⟨[.ref C, v], []⟩) R ⟨h, g, d, t, os⟩ := by
  obtain ⟨⟨oc, od, cd, sl, hC, e1, e2, e4⟩, made, base, self, top, call, typ, hasD⟩ := Y
  refine codeAny_call_builtin_code (plainId_quiet F.plain_list_new _) ?_
  have hcan : (Manifest.canonical "list.__new__" != Manifest.canonical "list.__new__") = false := bne_self_eq_false _
  have isT : Looks (model prog w) h (isType (.ref C)) true := (Looks.ld (part := some headPart) hC).andThen .now
  have fin : ∀ {A'} {E' : Value → Shared → Prop} {Q' : Unit → Shared → Prop}, Q' () ⟨h, g, d, t, os⟩ → wpAny (model prog w) A' (match Manifest.signature? "list.__new__" with
      | some sig => Bind.checkArgs "list.__new__" sig ⟨[.ref C, v], []⟩
      | _ => pure ()) Q' E' ⟨h, g, d, t, os⟩ := fun q => by
    have ha := ln_args (.ref C) v
    cases hsig : Manifest.signature? "list.__new__" with
    | none => exact wpAny_pure q
    | some sig =>
      unfold argsOk at ha
      rw [hsig] at ha
      have h2 : Bind.checkArgs "list.__new__" sig ⟨[.ref C, v], []⟩ = pure () := ha
      show wpAny _ _ (Bind.checkArgs "list.__new__" sig ⟨[.ref C, v], []⟩) _ _ _
      rw [h2]; exact wpAny_pure q
  unfold checkBuiltinCall
  rw [ln_kind, ln_split]
  dsimp only
  rw [if_pos (by decide)]
  refine wpAny_bind (isT.here ?_)
  rw [Bool.not_true, if_neg Bool.false_ne_true]
  refine wpAny_bind (top.here ?_)
  rw [Bool.not_true, if_neg Bool.false_ne_true]
  refine wpAny_bind (base.here (wpAny_bind (made.here ?_)))
  dsimp only
  rw [hcan, if_neg Bool.false_ne_true]
  refine fin ?_
  refine codeAny_builtin_stack F.entry_list_new rfl fun p st => ?_
  rw [Around.under_plainId F.plain_list_new _]
  dsimp only
  rw [owner_list_new]
  refine wpAny_bind (isT.here ?_)
  rw [Bool.not_true, if_neg Bool.false_ne_true]
  refine wpAny_bind (top.here ?_)
  rw [Bool.not_true, if_neg Bool.false_ne_true]
  refine wpAny_bind (wpAny_pure ?_)
  rw [hasD]
  rw [Bool.not_true, if_neg Bool.false_ne_true]
  have hC₁ := Heap.get?_push_of_some (accO C h.objs.size #[] 0) (Heap.get?_push_of_some emptyDict hC)
  have fin2 : wpAny (model prog w) A.in1 (newObj (.ref C) (.seq #[]) (some h.objs.size)) (fun v s' => wpAny (model prog w) A.in1 (ret v) (fun fin s' => match fin with | .done f => R (.ok f) s' | .again c' => c'.quiet = true ∧ codeAny (model prog w) A c' R s') (fun e s' => R (.error e) s') s') (fun e s' => R (.error e) s') ⟨h.push emptyDict, g, d, t, os⟩ := by
    show wpAny _ _ (newObjAsIs (.ref C) (.seq #[]) (some h.objs.size)) _ _ _
    unfold newObjAsIs classHasDel
    refine wpAny_bind (wpAny_alloc (wpAny_bind (wpAny_bind (wpAny_load hC₁ (wpAny_pure ?_)))))
    rw [e2]
    refine wpAny_pure (wpAny_pure ?_)
    show R _ _
    rw [Heap.size_push]
    exact hq
  show wpAny _ _ (newDict >>= _) _ _ _
  refine wpAny_bind (wpAny_newObj_type ?_ (by size_fits))
  exact wpAny_bind fin2
theorem makeL_core {v init : Value} (Y : MakesL (model prog w) h C) (hi : Looks (model prog w) h (typeLookup (.ref C) "__init__") (some init))
    (hb : ∀ self, Looks (model prog w) h (bindSpecial init self) (init, [self]))
    (hq : codeAny (model prog w) (A.under (.builtin "type.__call__" ⟨[.ref C, v], []⟩)) (.call init ⟨[.ref (h.objs.size + 1), v], []⟩) (InitBack (h.objs.size + 1) R) ⟨(h.push emptyDict).push (accO C h.objs.size #[] 0), g, d, t, os⟩) :
    codeAny (model prog w) A (.call (.ref C) ⟨[v], []⟩) R ⟨h, g, d, t, os⟩ := by
  have Y' := Y
  obtain ⟨⟨oc, od, cd, sl, hC, e1, e2, e4⟩, made, base, self, top, call, typ, hasD⟩ := Y
  refine codeAny_of_tree ?_
  show wpAny _ _ (callAny (.ref C) _) _ _ _
  refine nd_load hC ?_
  show wpAny _ _ (callAny.viaDunder (.ref C) _) _ _ _
  unfold callAny.viaDunder
  refine wpAny_bind (call.at ?_)
  dsimp only
  rw [tc_bind]
  refine wpAny_bind (wpAny_pure (wpAny_bind (wpAny_pure ?_)))
  refine wpAny_pure (a := Fin.again (.call (.builtin "type.__call__") ⟨[.ref C, v], []⟩)) (And.intro rfl ?_)
  refine codeAny_call_builtin_at (Code.quiet_builtin _ (by decide +kernel)) entry_typeCall (check_slot tc_kind tc_split typ (tc_args _ _ _) ?_)
  unfold Builtin.«type.__call__»
  have hm : Looks (model prog w) h (mroOf (.ref C)) cd.mro := ((Looks.ld (part := none) hC).andThen .now).andThen .now
  repeat (first | rw [e4, if_neg Bool.false_ne_true] | with_reducible refine wpAny_call ?_ | lk)
  refine new_L Y' ?_
  have k : ∀ b o, h.get? b = some o → ((h.push emptyDict).push (accO C h.objs.size #[] 0)).get? b = some o := fun b o e => Heap.get?_push_of_some _ (Heap.get?_push_of_some _ e)
  have hx : ((h.push emptyDict).push (accO C h.objs.size #[] 0)).get? (h.objs.size + 1) = some (accO C h.objs.size #[] 0) := by heap_get
  have t1 : Looks (model prog w) ((h.push emptyDict).push (accO C h.objs.size #[] 0)) (typeOf (.ref (h.objs.size + 1))) (.ref C) := (Looks.ld hx).andThen .now
  have s1 := self.keeps k
  have i1 := hi.keeps k
  have b1 := (hb (.ref (h.objs.size + 1))).keeps k
  unfold isInstance callSpecial? specialOf
  repeat (first | with_reducible refine wpAny_call ?_ | lk)
  refine codeAny_mono hq fun r s' z => ?_
  rcases r with e | (v | _ | _ | _) <;> first | exact z | exact z.elim | skip
  obtain ⟨rfl, z⟩ := z
  exact wpAny_pure (wpAny_pure z)
end
section
variable {prog : Program} {w : World} {A : Around} {E : Value → Shared → Prop} {K : Frag} {C x : Addr} {s : Shared} {h₀ : Heap} {L : Addr} {m : Str → Option Value} {news : List (Addr × Obj)} {R : Result → Shared → Prop}
theorem make_L {v : Value} {fI : Addr} {Q : Value → Shared → Prop} (F : Fr h₀ L s.heap m) (X₀ : K.In h₀) (N : News h₀ L s.heap news) (hm : makesL K C = true)
    (hi : findIn K (.ref C) "__init__" = some (some (.ref fI))) (hf : isFn K (.ref fI) = true)
    (h : ∀ x dx h', Fr h₀ L h' m → News h₀ L h' ((x, accO C dx #[] 0) :: (dx, dictOf [] 0) :: news) → (∀ p ∈ news, p.1 < dx) → dx < x →
      codeAny (model prog w) (A.under (.builtin "type.__call__" ⟨[.ref C, v], []⟩)) (.call (.ref fI) ⟨[.ref x, v], []⟩) (InitBack x fun r s' => match r with | .ok (.ret v) => Q v s' | .ok _ => False | .error e => E e s') { s with heap := h' }) :
    wpAny (model prog w) A (call (.ref C) [v]) Q E s := by
  have X := X₀.keeps F.keep
  obtain ⟨hh, g, d, t, os⟩ := s
  refine wpAny_call (makeL_core (makesL_of X hm) (looks_findIn X hi) (fun self => bind_fn X self (beq_iff_eq.mp hf)) (h _ hh.objs.size _ ((F.push _).push _) ?_ (fun p hp => Heap.lt_size (N p hp).1) (Nat.lt_succ_self _)))
  have := (N.push F emptyDict).push (F.push _) (accO C hh.objs.size #[] 0)
  rwa [Heap.size_push] at this
end
end
section
theorem off_RC : True := by
  k_with_none
  trivial
open PySem PySem.W PyProof.Rows PySem.Calls Builtin Builtin.ObjectAttr
noncomputable def overList (K : Frag) (C : Addr) : Bool := (clsIn K C).any fun cd => cd.mro == [.ref C, .type "list", .type "object"]
theorem refuse_list (self : Value) : refuseLoop self "__setattr__" [.type "list", .type "object"] = pure () := by kernel_rfl
section
variable {prog : Program} {w : World} {A : Around} {E : Value → Shared → Prop} {s : Shared} {K : Frag} {x C dx L : Addr} {h₀ : Heap} {m : Str → Option Value} {news news' : List (Addr × Obj)} {ox od : Obj} {es es' : List DictEntry} {n n' : Nat} {name : Str} {v : Value} {R : Result → Shared → Prop}
theorem osaL_open {odx : Option Obj} {tk : Tok} {r : Option Value} (X : K.In s.heap) (I : InstAt s.heap x ox C odx) (hp : overList K C = true) (ht : takerIn K C name = some r)
    (h : ∀ b, wpAny (model prog w) A.in1 (match r with | some a => setByDescriptor a (.ref x) v | none => storeInOwnDict (.ref x) (.ref C) (.str name tk) name v b)
      (fun fin s' => match fin with | .done f => R (.ok f) s' | .again c' => c'.quiet = true ∧ codeAny (model prog w) A c' R s') (fun e s' => R (.error e) s') s) :
    codeAny (model prog w) A (.call (.builtin "object.__setattr__") ⟨[.ref x, .str name tk, v], []⟩) R s := by
  have SF := PySem.F.store_object
  obtain ⟨cd, hc, ho⟩ := any_some hp
  have ho : cd.mro = [.ref C, .type "list", .type "object"] := beq_iff_eq.mp ho
  have sub : Looks (model prog w) s.heap (isInstance (.ref x) (.type "object")) true := I.type.andThen (looks_mroIn X (by unfold mroIn; rw [hc, Option.bind_some, ho]; simp))
  refine codeAny_call_builtin SF.slot.plain SF.entry (@check_slot (model prog w) _ _ s "object.__setattr__" "object" "__setattr__" (.ref x) [.str name tk, v] [] _ SF.kind SF.split sub (SF.args (.ref x) (.str name tk) v) ?_)
  obtain ⟨attr, ha, hr⟩ := Option.bind_eq_some_iff.mp ht
  have hm : Looks (model prog w) s.heap (mroOf (.ref C)) cd.mro := (looks_clsIn X hc).andThen .now
  have L3 : Looks (model prog w) s.heap (storeTaker? attr) r := by
    cases attr with
    | none => cases hr; exact .now
    | some a =>
      obtain ⟨b, hb, rfl⟩ := Option.map_eq_some_iff.mp hr
      refine (looks_takesIn X hb).andThen ?_
      cases b <;> exact .now
  rw [osa_eq, refuse_eq]
  refine wpAny_bind (wpAny_bind (I.type.here (wpAny_bind (hm.here ?_))))
  rw [ho, refuseLoop_ref, refuse_list]
  refine wpAny_pure (wpAny_bind (I.type.here (wpAny_bind ((looks_findIn X ha).here (wpAny_bind (L3.here ?_))))))
  exact h _
theorem nsSet_at {Q : Unit → Shared → Prop} (D : s.heap.get? dx = some od) (hl : (lookIn name od).isSome = true) (q9 : Q () { s with heap := s.heap.update dx (Obj.putName name (PyData.keyHash w.params name) (.str name s.toks) v), toks := s.toks + 1 }) : wpAny (model prog w) A (nsSet dx name v) Q E s := by
  unfold nsSet
  refine wpAny_bind (wpAny_bind (wpAny_askSetting (wpAny_pure (wpAny_bind (wpAny_mkText (wpAny_bind (wpAny_loadPart D ?_)))))))
  unfold lookIn at hl
  split at hl
  · rename_i es₀ n₀ q
    rw [q]
    dsimp only
    have c : (!es₀.any (·.key.isStr name) && es₀.any (·.refKey)) = false := by
      rw [← Array.any_toList, ← Array.any_toList]
      split at hl
      · rename_i en he
        rw [List.any_eq_true.mpr ⟨en, List.mem_of_find?_eq_some he, List.find?_some he⟩]; rfl
      · split at hl
        · cases hl
        · rename_i z; rw [Bool.not_eq_true] at z; rw [z, Bool.and_false]
    rw [aRefKeyMayBeTheName_at, c]
    refine wpAny_updatePart D ?_
    exact q9
  · cases hl
theorem osaL_dict {od' : Obj} {tk : Tok} {pre post : List (Addr × Obj)} (F : Fr h₀ L s.heap m) (N : News h₀ L s.heap (pre ++ (dx, od) :: post)) (X : K.In s.heap)
    (I : InstAt s.heap x ox C (some od)) (hd : ox.dict = some dx) (hp : overList K C = true) (ht : takerIn K C name = some none) (hh : (clsIn K C).any (·.hasDict) = true)
    (hl : (lookIn name od).isSome = true) (h1 : ∀ p ∈ pre, p.1 ≠ dx) (h2 : ∀ p ∈ post, p.1 ≠ dx)
    (e : Obj.putName name (PyData.keyHash w.params name) (.str name s.toks) v od = od') (e' : od'.data = .dict es.toArray n) (hz : es.length ≤ 1000)
    (h : ∀ h', Fr h₀ L h' m → News h₀ L h' (pre ++ (dx, od') :: post) → R (.ok (.ret .none)) { s with heap := h', toks := s.toks + 1 }) :
    codeAny (model prog w) A (.call (.builtin "object.__setattr__") ⟨[.ref x, .str name tk, v], []⟩) R s := by
  refine osaL_open X I hp ht fun b => ?_
  obtain ⟨cd, hc, hd'⟩ := any_some hh
  obtain ⟨U1, U2⟩ := news_upd (f := Obj.putName name (PyData.keyHash w.params name) (.str name s.toks) v) F N h1 h2 e (by obtain ⟨_, _, dd, _⟩ := od'; cases e'; rfl)
  have D := (N (dx, od) (by simp)).1
  have D' := (U2 (dx, od') (by simp)).1
  obtain ⟨hx, hcl, hn, -⟩ := I
  obtain ⟨oc, odi, oda, osl⟩ := ox
  dsimp only at hcl hd
  subst hcl hd
  refine wpAny_bind (wpAny_pure (wpAny_bind (wpAny_bind (wpAny_loadPart hx ?_))))
  cases oda <;> first | cases hn | skip
  all_goals
    refine wpAny_bind ((looks_clsIn X hc).here ?_)
    rw [hd']
    refine wpAny_pure (a := some dx) (wpAny_bind (wpAny_pure (wpAny_bind ?_)))
    refine nsSet_at D hl (wpAny_bind (wpAny_lookBehind D' (by rw [e']; exact pastItsLine_dict (by rw [List.size_toArray, sizeLine_eq]; omega)) ?_))
    exact wpAny_pure (h _ U1 U2)
theorem set_dictL {Q : Unit → Shared → Prop} (F : Fr h₀ L s.heap m) (X₀ : K.In h₀) (N : News h₀ L s.heap news) (I : InstAt s.heap x ox C (some (dictOf es n))) (hd : ox.dict = some dx)
    (hs : findIn K (.ref C) "__setattr__" = some (some (.builtin "object.__setattr__"))) (hp : overList K C = true) (ht : takerIn K C name = some none) (hh : hasDictIn K C = true) (hl : (getL name es).isSome = true)
    (e : (putL name (PyData.keyHash w.params name) (.str name (s.toks + 1)) v es, putN name es n) = (es', n')) (U : Upd dx (dictOf es n) (dictOf es' n') news news') (hz : es'.length ≤ 1000)
    (h : ∀ h', Fr h₀ L h' m → News h₀ L h' news' → Q () { s with heap := h', toks := s.toks + 2 }) :
    wpAny (model prog w) A (setAttr (.ref x) name v) Q E s := by
  obtain ⟨pre, post, rfl, rfl, a, b⟩ := U.split
  obtain ⟨e1, e2⟩ := Prod.mk.inj e
  exact set_plain (X₀.keeps F.keep) I hs (osaL_dict (s := { s with toks := s.toks + 1 }) F N (X₀.keeps F.keep) I hd hp ht hh hl a b (by rw [putName_dict, e1, e2]) rfl hz fun h' F' N' => h h' F' N')
end
end
section
theorem off_RD : True := by
  k_with_none
  trivial
open PySem PySem.W PyProof.Rows PySem.Calls
noncomputable abbrev boundB (ty id : String) (v : Value) : Obj := { cls := .type ty, dict := none, data := .fields #[.builtin id, v], slots := #[] }
theorem slot_wd_get : Slot "wrapper_descriptor" "__get__" "wrapper_descriptor.__get__" := .of (owner := "wrapper_descriptor") (n := "__get__") (by rw [typeLookup_type, builtinLookup_eq_fast]; kernel_rfl) (by decide +kernel) (by decide +kernel) (by decide +kernel)
    (by first | exact .inl (by decide +kernel) | exact .inr (by decide +kernel)) (by rw [isSubtype_type]; kernel_rfl)
theorem slot_md_get : Slot "method_descriptor" "__get__" "method_descriptor.__get__" := .of (owner := "method_descriptor") (n := "__get__") (by rw [typeLookup_type, builtinLookup_eq_fast]; kernel_rfl) (by decide +kernel) (by decide +kernel) (by decide +kernel)
    (by first | exact .inl (by decide +kernel) | exact .inr (by decide +kernel)) (by rw [isSubtype_type]; kernel_rfl)
theorem entry_wd_get : entryFor table "wrapper_descriptor.__get__" = some Builtin.«wrapper_descriptor.__get__» := entryFor_of_tree (by kernel_rfl)
theorem entry_md_get : entryFor table "method_descriptor.__get__" = some Builtin.«method_descriptor.__get__» := entryFor_of_tree (by kernel_rfl)
theorem args_wd_get (a b c : Value) : argsOk "wrapper_descriptor.__get__" ⟨[a, b, c], []⟩ := by unfold argsOk; kernel_rfl
theorem args_md_get (a b c : Value) : argsOk "method_descriptor.__get__" ⟨[a, b, c], []⟩ := by unfold argsOk; kernel_rfl
section
variable {prog : Program} {w : World} {A : Around} {E : Value → Shared → Prop} {s : Shared} {h : Heap} {g : Array GenState} {d : Drawn} {t : Nat} {os : OsState}
structure LInst (M : Model) (h : Heap) (x C : Addr) (ox : Obj) : Prop where
  at_ : h.get? x = some ox
  cls : ox.cls = .ref C
  sub : Looks M h (isSubtype (.ref C) (.type "list")) true
  notMod : Looks M h (isSubtype (.ref C) (.type "module")) false
theorem wd_get {x C : Addr} {ox : Obj} {id : String} {Q : Fin → Shared → Prop} (Y : LInst (model prog w) h x C ox) (hid : ".".intercalate (id.cutAt '.').dropLast = "list")
    (hq : Q (.done (.ret (.ref h.objs.size))) ⟨h.push (boundB "method-wrapper" id (.ref x)), g, d, t, os⟩) :
    wpAny (model prog w) A (Builtin.«wrapper_descriptor.__get__» ⟨[.builtin id, .ref x, .ref C], []⟩) Q E ⟨h, g, d, t, os⟩ := by
  obtain ⟨hx, hc, hs, hm⟩ := Y
  have t1 : Looks (model prog w) h (typeOf (.ref x)) (.ref C) := hc ▸ (Looks.ld (part := some headPart) hx).andThen .now
  have s1 : Looks (model prog w) h (isSubtype (.ref C) (.type (".".intercalate (id.cutAt '.').dropLast))) true := by rw [hid]; exact hs
  unfold Builtin.«wrapper_descriptor.__get__»
  repeat lk
  exact hq
theorem md_get {x C : Addr} {ox : Obj} {id : String} {Q : Fin → Shared → Prop} (Y : LInst (model prog w) h x C ox) (hid : ".".intercalate (id.cutAt '.').dropLast = "list") (ht : Manifest.toldItsClass.contains id = false)
    (hq : Q (.done (.ret (.ref h.objs.size))) ⟨h.push (boundB "builtin_function_or_method" id (.ref x)), g, d, t, os⟩) :
    wpAny (model prog w) A (Builtin.«method_descriptor.__get__» ⟨[.builtin id, .ref x, .ref C], []⟩) Q E ⟨h, g, d, t, os⟩ := by
  obtain ⟨hx, hc, hs, hm⟩ := Y
  have t1 : Looks (model prog w) h (typeOf (.ref x)) (.ref C) := hc ▸ (Looks.ld (part := some headPart) hx).andThen .now
  have s1 : Looks (model prog w) h (isSubtype (.ref C) (.type (".".intercalate (id.cutAt '.').dropLast))) true := by rw [hid]; exact hs
  unfold Builtin.«method_descriptor.__get__»
  repeat (first | (refine Looks.at s1 ?_) | rw [ht, if_neg Bool.false_ne_true] | lk)
  exact hq
theorem super_ga_bi {so D x C : Addr} {ox : Obj} {l₀ l : List Value} {K : Frag} {name : Str} {id ty ty' gid : String} {b : Builtin} {tk : Tok} {Q : Fin → Shared → Prop}
    (hso : h.get? so = some { cls := .type "super", dict := none, data := .fields #[.ref D, .ref x, .ref C], slots := #[] }) (hno : Looks (model prog w) h (opaqueClassAbove (.ref C)) none)
    (hC : Looks (model prog w) h (mroOf (.ref C)) l₀) (hl : (l₀.dropWhile (· != .ref D)).drop 1 = l) (X : K.In h)
    (hf : alongIn K name l = some (some (.builtin id))) (hty : typeOf (.builtin id) = pure (.type ty)) (hsg : Slot ty "__get__" gid) (heg : entryFor table gid = some b) (hag : argsOk gid ⟨[.builtin id, .ref x, .ref C], []⟩)
    (hbody : ∀ {A : Around} {E : Value → Shared → Prop} {Q : Fin → Shared → Prop}, Q (.done (.ret (.ref h.objs.size))) ⟨h.push (boundB ty' id (.ref x)), g, d, t, os⟩ → wpAny (model prog w) A (b ⟨[.builtin id, .ref x, .ref C], []⟩) Q E ⟨h, g, d, t, os⟩)
    (hxC : x ≠ C) (hn : (name == ("__class__" : Str)) = false)
    (hq : Q (.done (.ret (.ref h.objs.size))) ⟨h.push (boundB ty' id (.ref x)), g, d, t, os⟩) :
    wpAny (model prog w) A (Builtin.«super.__getattribute__» ⟨[.ref so, .str name tk], []⟩) Q E ⟨h, g, d, t, os⟩ := by
  have hlk := hsg.lookup
  have hne : (Value.ref x == Value.ref C) = false := by simp [hxC]
  have hTf : (⟨h, g, d, t, os⟩ : Shared).TypeIs (.builtin id) ty := hty
  have hdt : ({ cls := .type "super", dict := none, data := .fields #[.ref D, .ref x, .ref C], slots := #[] } : Obj).data = .fields #[.ref D, .ref x, .ref C] := rfl
  have f0 : (#[.ref D, .ref x, .ref C] : Array Value)[0]? = some (.ref D) := rfl
  have f1 : (#[.ref D, .ref x, .ref C] : Array Value)[1]? = some (.ref x) := rfl
  have f2 : (#[.ref D, .ref x, .ref C] : Array Value)[2]? = some (.ref C) := rfl
  unfold Builtin.«super.__getattribute__»
  repeat (first
    | (with_reducible refine wpAny_field hso hdt f0 ?_) | (with_reducible refine wpAny_field hso hdt f1 ?_) | (with_reducible refine wpAny_field hso hdt f2 ?_)
    | (with_reducible refine ks_wpAny_notOpaque hno ?_)
    | (with_reducible refine Looks.at hC ?_; rw [hl])
    | (refine ks_forIn_along X (fun _ _ => rfl) rfl ?_ hf)
    | (with_reducible refine wpAny_typeOf hTf ?_)
    | (with_reducible refine wpAny_call_entry hsg hTf heg ?_ hag)
    | (with_reducible refine hbody ?_)
    | (with_reducible refine ⟨_, rfl, ?_⟩)
    | (rw [hn, hne, Bool.or_false, if_neg Bool.false_ne_true]) | (rw [hn, if_neg Bool.false_ne_true]) | (rw [hne, if_neg Bool.false_ne_true]) | (rw [hne, Bool.or_false, if_neg Bool.false_ne_true])
    | wp_step
    | dsimp only)
  all_goals exact hq
theorem getMethod_super_bi {so D x C : Addr} {ox : Obj} {l₀ l : List Value} {K : Frag} {name : Str} {id ty ty' gid : String} {b : Builtin} {pl : Sem Bool} {Q : Value × List Value → Shared → Prop}
    (hso : h.get? so = some { cls := .type "super", dict := none, data := .fields #[.ref D, .ref x, .ref C], slots := #[] }) (hno : Looks (model prog w) h (opaqueClassAbove (.ref C)) none)
    (hC : Looks (model prog w) h (mroOf (.ref C)) l₀) (hl : (l₀.dropWhile (· != .ref D)).drop 1 = l) (X : K.In h)
    (hf : alongIn K name l = some (some (.builtin id))) (hty : typeOf (.builtin id) = pure (.type ty)) (hsg : Slot ty "__get__" gid) (heg : entryFor table gid = some b) (hag : argsOk gid ⟨[.builtin id, .ref x, .ref C], []⟩)
    (hbody : ∀ {t : Nat} {A : Around} {E : Value → Shared → Prop} {Q : Fin → Shared → Prop}, Q (.done (.ret (.ref h.objs.size))) ⟨h.push (boundB ty' id (.ref x)), g, d, t, os⟩ → wpAny (model prog w) A (b ⟨[.builtin id, .ref x, .ref C], []⟩) Q E ⟨h, g, d, t, os⟩)
    (hxC : x ≠ C) (hn : (name == ("__class__" : Str)) = false)
    (hq : Q (.ref h.objs.size, []) ⟨h.push (boundB ty' id (.ref x)), g, d, t + 1, os⟩) :
    wpAny (model prog w) A (getMethod (.ref so) name pl) Q E ⟨h, g, d, t, os⟩ := by
  have hlk := F.ks_slot_super_ga.lookup
  have hcan := F.ks_canon_super_ga
  have hT : ∀ t', (⟨h, g, d, t', os⟩ : Shared).TypeIs (.ref so) "super" := fun _ => ⟨_, hso, rfl⟩
  unfold getMethod
  refine wpAny_bind (wpAny_specialOf (hT _) hlk ?_)
  show wpAny _ _ (if (Manifest.canonical "super.__getattribute__" != "object.__getattribute__") = true then _ else _) _ _ _
  rw [if_pos hcan]
  unfold getAttr getAttrBy
  refine wpAny_bind (wpAny_bind (wpAny_mkText (wpAny_holding (wpAny_bind (wpAny_typeOf (hT _) (wpAny_bind (wpAny_of_eq hlk ?_)))))))
  show wpAny _ _ (getAttrByItsOwn (.ref so) (.str name t) (.type "super") (.builtin "super.__getattribute__") true false) _ _ _
  unfold getAttrByItsOwn hookBefore callGetattribute boundAndCalled
  refine wpAny_bind (wpAny_of_eq (show (if onTheHeap (.type "super") then typeLookup (.type "super") "__getattr__" else pure none) = pure none from rfl) ?_)
  refine wpAny_bind (wpAny_attempt (wpAny_holding ?_))
  show wpAny _ _ (bindSpecial (.builtin "super.__getattribute__") (.ref so) >>= _) _ _ _
  refine wpAny_bind (wpAny_of_eq (F.ks_slot_super_ga.bind _) ?_)
  refine wpAny_mono (Q := fun v s' => v = .ref h.objs.size ∧ s' = ⟨h.push (boundB ty' id (.ref x)), g, d, t + 1, os⟩) (E := fun _ _ => False)
    (wpAny_call_entry F.ks_slot_super_ga (hT _) F.ks_entry_super_ga (super_ga_bi (ox := ox) hso hno hC hl X hf hty hsg heg hag hbody hxC hn ⟨_, rfl, rfl, rfl⟩) (F.ks_gaArgs_super _ _)) (fun v s' hv => ?_) fun _ _ z => z.elim
  obtain ⟨rfl, rfl⟩ := hv
  exact wpAny_pure (wpAny_pure hq)
end
end
section
theorem off_RE : True := by
  k_with_none
  trivial
open PySem PySem.W PyProof.Rows PySem.Calls
section
variable {prog : Program} {w : World} {A : Around} {E : Value → Shared → Prop} {s : Shared} {h₀ : Heap} {L : Addr} {m : Str → Option Value} {news : List (Addr × Obj)} {K : Frag} {x C D so dx : Addr} {ox od : Obj}
theorem linst_of {M : Model} (X : K.In s.heap) (I : InstAt s.heap x ox C (some od)) (hsub : subIn K (.ref C) (.type "list") = some true) (hmod : subIn K (.ref C) (.type "module") = some false) : LInst M s.heap x C ox :=
  ⟨I.at_, I.cls, looks_subIn X hsub, looks_subIn X hmod⟩
theorem superMethod_bi {name : Str} {id ty ty' gid : String} {b : Builtin} {pl : Sem Bool} {Q : Value × List Value → Shared → Prop} (F : Fr h₀ L s.heap m) (X₀ : K.In h₀) (N : News h₀ L s.heap news) (hso : (so, ks_superObj D x C) ∈ news)
    (I : InstAt s.heap x ox C (some od)) (ho : nsIn K cStatics "thirdparty.any" = some none) (hm : ks_superIn K C D name = some (some (.builtin id)))
    (hsub : subIn K (.ref C) (.type "list") = some true) (hmod : subIn K (.ref C) (.type "module") = some false)
    (hty : typeOf (.builtin id) = pure (.type ty)) (hsg : Slot ty "__get__" gid) (heg : entryFor table gid = some b) (hag : argsOk gid ⟨[.builtin id, .ref x, .ref C], []⟩)
    (hbody : ∀ {h : Heap} {g : Array GenState} {d : Drawn} {t : Nat} {os : OsState} {A : Around} {E : Value → Shared → Prop} {Q : Fin → Shared → Prop}, LInst (model prog w) h x C ox → Q (.done (.ret (.ref h.objs.size))) ⟨h.push (boundB ty' id (.ref x)), g, d, t, os⟩ → wpAny (model prog w) A (b ⟨[.builtin id, .ref x, .ref C], []⟩) Q E ⟨h, g, d, t, os⟩)
    (hn : (name == ("__class__" : Str)) = false)
    (h : ∀ q h', Fr h₀ L h' m → News h₀ L h' ((q, boundB ty' id (.ref x)) :: news) → (∀ p ∈ news, p.1 < q) → Q (.ref q, []) { s with heap := h', toks := s.toks + 1 }) :
    wpAny (model prog w) A (getMethod (.ref so) name pl) Q E s := by
  have X : K.In s.heap := X₀.keeps F.keep
  have Y : LInst (model prog w) s.heap x C ox := linst_of X I hsub hmod
  obtain ⟨hh, g, d, t, os⟩ := s
  cases hc : clsIn K C with
  | none => unfold ks_superIn at hm; rw [hc] at hm; cases hm
  | some cd =>
    unfold ks_superIn at hm
    rw [hc] at hm
    refine getMethod_super_bi (ox := ox) (N _ hso).1 (looks_opaque X ho) (l₀ := cd.mro) ?_ rfl X hm hty hsg heg hag (fun {t} {A} {E} {Q} hq => hbody Y hq) (ks_ne X I hc) hn ?_
    · exact fun A Q E s k q => wpAny_bind ((looks_clsIn X hc) A _ E s k (wpAny_pure q))
    · obtain ⟨F', N', l'⟩ := ks_newsPush (s := ⟨hh, g, d, t, os⟩) (o := boundB ty' id (.ref x)) F N rfl (Heap.get?_push_at rfl rfl) (fun b o e => Heap.get?_push_of_some _ e)
      exact h _ _ F' N' l'
noncomputable def BoundAt (q : Addr) (ty id : String) (v : Value) (h : Heap) : Prop := h.get? q = some (boundB ty id v)
theorem BoundAt.of {ty id : String} {v : Value} {q : Addr} (N : News h₀ L s.heap news) (hq : (q, boundB ty id v) ∈ news) : BoundAt q ty id v s.heap := (N _ hq).1
theorem keeps_B {M : Model} {ty id : String} {v : Value} {q : Addr} (hty : ty = "method-wrapper" ∨ ty = "builtin_function_or_method") (h : Heap) (X : BoundAt q ty id v h) :
    ∃ k, (k = Keeper.frame ∨ k = Keeper.machine ∨ k = Keeper.boundFrame) ∧ Looks M h (keeperOf (.ref q)) k := by
  refine ⟨.machine, .inr (.inl rfl), (Looks.ld (part := none) X).andThen ?_⟩
  rcases hty with rfl | rfl <;> exact .of_pure rfl
theorem callWith_B0 {M : Model} {env : Env} {pos : Pos} {first : List Value} {Q : Value → Shared → Prop} {ty id : String} {v : Value} {q : Addr} (hty : ty = "method-wrapper" ∨ ty = "builtin_function_or_method") (X : BoundAt q ty id v s.heap)
    (h : wpAny M A (call (.ref q) (first ++ [])) Q E s) : wpAny M A (callWith pos (.ref q) first (backTo pos (starEach [] env)) []) Q E s :=
  callWith_of rfl (keeps_B hty) (evalArgs_nil3 ⟨X, h⟩)
theorem call_bound {ty id : String} {v : Value} {q : Addr} {args : List Value} {b : Builtin} {Q : Value → Shared → Prop} (X : BoundAt q ty id v s.heap) (hty : ty = "method-wrapper" ∨ ty = "builtin_function_or_method") (hp : plainId id = true) (hb : entryFor table id = some b)
    (hch : ∀ {A : Around} {Q : Unit → Shared → Prop}, Q () s → wpAny (model prog w) A (checkBoundCall id ⟨v :: args, []⟩) Q E s)
    (hc : wpAny (model prog w) A.in1 (b ⟨v :: args, []⟩) (fun fin s' => ∃ v, fin = .done (.ret v) ∧ Q v s') E s) : wpAny (model prog w) A (call (.ref q) args) Q E s := by
  refine wpAny_call (codeAny_of_tree ?_)
  show wpAny _ A.in1 (callAny (.ref q) ⟨args, []⟩) _ _ _
  unfold callAny
  refine wpAny_bind (wpAny_load X ?_)
  have fin : wpAny (model prog w) A.in1 (do checkBoundCall id ⟨v :: args, []⟩; again (.builtin id ⟨v :: args, []⟩)) (fun fin s' => match fin with
      | .done f => (match (Except.ok f : Result) with | .ok (.ret v) => Q v s' | .ok _ => False | .error e => E e s')
      | .again c' => c'.quiet = true ∧ codeAny (model prog w) A c' (fun r s' => match r with | .ok (.ret v) => Q v s' | .ok _ => False | .error e => E e s') s') E s := by
    refine wpAny_bind (hch ?_)
    refine wpAny_pure ⟨plainId_quiet hp _, codeAny_builtin hb ?_⟩
    rw [Around.under_plainId hp]
    refine wpAny_mono hc (fun fin s' h' => ?_) fun _ _ x => x
    obtain ⟨v', rfl, hv⟩ := h'
    exact hv
  rcases hty with rfl | rfl <;> exact fin
end
end
section
theorem off_RF : True := by
  k_with_none
  trivial
open PySem PySem.W PyProof.Rows PySem.Calls
theorem chkB_init (a : Value) : checkBoundCall "list.__init__" ⟨[a], []⟩ = pure () := by kernel_rfl
theorem chkB_len (a : Value) : checkBoundCall "list.__len__" ⟨[a], []⟩ = pure () := by kernel_rfl
noncomputable def chkOwn (K : Frag) (C : Addr) (id : String) (args : Args) : Bool := match clsIn K C, Manifest.signature? id with
  | some cd, some sig => (pureOf (Bind.checkArgs id { sig with full := s!"{cd.qualname.toString}.{Bind.lastOf id}" } args)).isSome
  | _, _ => false
section
variable {prog : Program} {w : World} {A : Around} {E : Value → Shared → Prop} {s : Shared} {K : Frag} {x C : Addr} {ox od : Obj}
theorem chkB_own {id : String} {args : List Value} {Q : Unit → Shared → Prop} (X : K.In s.heap) (I : InstAt s.heap x ox C (some od)) (hk : builtinKind id = some .method) (hv : Manifest.varargsMethods.contains id = false)
    (hmod : subIn K (.ref C) (.type "module") = some false) (ht : typeIn K (.ref C) = some (.type "type")) (hc : chkOwn K C id ⟨.ref x :: args, []⟩ = true) (q : Q () s) :
    wpAny (model prog w) A (checkBoundCall id ⟨.ref x :: args, []⟩) Q E s := by
  unfold chkOwn at hc
  cases hcd : clsIn K C with
  | none => rw [hcd] at hc; cases hc
  | some cd =>
   rw [hcd] at hc
   cases hsig : Manifest.signature? id with
   | none => rw [hsig] at hc; cases hc
   | some sig =>
    rw [hsig] at hc
    obtain ⟨u, hu⟩ := Option.isSome_iff_exists.mp hc
    have hchk := of_pureOf hu
    have im : Looks (model prog w) s.heap (isInstance (.ref x) (.type "module")) false := I.type.andThen (looks_subIn X hmod)
    have it : Looks (model prog w) s.heap (isType (.ref x)) false := by
      intro A Q E s' k q
      refine wpAny_bind (wpAny_loadPart (k _ _ I.at_) ?_)
      have hn := I.no
      obtain ⟨c, d, dt, sl⟩ := ox
      cases dt <;> first | (exact Bool.noConfusion hn) | (show wpAny _ _ (pure false) _ _ _; exact wpAny_pure q)
    have tc : Looks (model prog w) s.heap (typeOf (.ref C)) (.type "type") := looks_typeIn X ht
    unfold checkBoundCall
    rw [hk, hsig]
    dsimp only
    rw [if_neg (by decide)]
    refine wpAny_bind (im.here ?_)
    rw [hv]
    rw [Bool.or_self, if_neg Bool.false_ne_true]
    refine wpAny_bind (it.here ?_)
    rw [if_neg Bool.false_ne_true]
    refine wpAny_bind (I.type.here ?_)
    dsimp only
    refine wpAny_bind ((looks_clsIn X hcd).here (wpAny_bind (tc.here ?_)))
    rw [if_pos (by decide)]
    rw [hchk]
    exact wpAny_pure q
end
end
section
theorem off_RG : True := by
  k_with_none
  trivial
open PySem PySem.W PyProof.Rows PySem.Calls
section
variable {prog : Program} {w : World} {A : Around} {E : Value → Shared → Prop} {s : Shared} {K : Frag} {x C dx L : Addr} {h₀ : Heap} {m : Str → Option Value} {news : List (Addr × Obj)} {g : Obj → List (Addr × Obj)} {od : Obj} {xs : Array Value} {n : Nat}
structure LCls (K : Frag) (C : Addr) : Prop where
  sub : subIn K (.ref C) (.type "list") = some true
  notMod : subIn K (.ref C) (.type "module") = some false
  noSeq : noSeq K C = true
  getI : findIn K (.ref C) "__getitem__" = some (some (.builtin "list.__getitem__"))
  setI : findIn K (.ref C) "__setitem__" = some (some (.builtin "list.__setitem__"))
  iter : findIn K (.ref C) "__iter__" = some (some (.builtin "list.__iter__"))
  typ : typeIn K (.ref C) = some (.type "type")
theorem upd_at {o o' : Obj} {h' : Heap} (F : Fr h₀ L s.heap m) (N : News h₀ L s.heap news) (U : UpdF x o news g) (hs : Heap.SameBut x s.heap h') (ho : h'.get? x = some o') : Fr h₀ L h' m ∧ News h₀ L h' (g o') := by
  obtain ⟨pre, post, rfl, hg, a, b⟩ := U.split
  have z := N (x, o) (List.mem_append.mpr (.inr (.head _)))
  exact ⟨F.change hs z.2.1 z.2.2, hg o' ▸ news_set N a b hs ho⟩
theorem updF_mem {o : Obj} (U : UpdF x o news g) : (x, o) ∈ news := by
  obtain ⟨pre, post, rfl, _⟩ := U.split
  exact List.mem_append.mpr (.inr (.head _))
theorem acc_append_K {v : Value} {Q : Value → Shared → Prop} (F : Fr h₀ L s.heap m) (X₀ : K.In h₀) (N : News h₀ L s.heap news) (Z : LCls K C) (U : UpdF x (accO C dx xs n) news g) (hsz : xs.size ≤ 1000)
    (h : ∀ h', Fr h₀ L h' m → News h₀ L h' (g (accO C dx (xs.push v) (n + 1))) → Q .none { s with heap := h' }) :
    wpAny (model prog w) A (call (.builtin "list.append") [.ref x, v]) Q E s :=
  acc_append_at (X₀.keeps F.keep) (N _ (updF_mem U)).1 Z.sub hsz fun h' hs ho => let ⟨F', N'⟩ := upd_at F N U hs ho; h h' F' N'
theorem acc_pop_K {q : Addr} {ys : List Value} {v : Value} {Q : Value → Shared → Prop} (F : Fr h₀ L s.heap m) (X₀ : K.In h₀) (N : News h₀ L s.heap news) (Z : LCls K C) (hq : (q, boundB "builtin_function_or_method" "list.pop" (.ref x)) ∈ news)
    (hd : (dx, od) ∈ news) (U : UpdF x (accO C dx (ys ++ [v]).toArray n) news g) (hchk : ∀ x, chkOwn K C "list.pop" ⟨[.ref x], []⟩ = true) (hsz : ys.length ≤ 1000)
    (h : ∀ h' n', Fr h₀ L h' m → News h₀ L h' (g (accO C dx ys.toArray n')) → Q v { s with heap := h' }) :
    wpAny (model prog w) A (call (.ref q) []) Q E s := by
  have X := X₀.keeps F.keep
  have hx := (N _ (updF_mem U)).1
  refine call_bound (BoundAt.of N hq) (.inr rfl) (by decide +kernel) PySem.F.entry_list_pop (fun {A} {Q'} hq' => chkB_own X (instAcc_news N (updF_mem U) hd) (by decide +kernel) (by decide +kernel) Z.notMod Z.typ (hchk x) hq') ?_
  exact acc_pop_body (A := A.in1) (E := E) hx hsz fun h' n' hs ho => let ⟨F', N'⟩ := upd_at F N U hs ho; h h' n' F' N'
theorem acc_len_K {q : Addr} {Q : Value → Shared → Prop} (N : News h₀ L s.heap news) (hq : (q, boundB "method-wrapper" "list.__len__" (.ref x)) ∈ news) (hx : (x, accO C dx xs n) ∈ news)
    (h : Q (.int xs.size s.toks) { s with toks := s.toks + 1 }) : wpAny (model prog w) A (call (.ref q) []) Q E s := by
  refine call_bound (BoundAt.of N hq) (.inl rfl) (by decide +kernel) PySem.F.entry_list_len (fun {A} {Q'} hq' => wpAny_of_eq (chkB_len _) hq') ?_
  exact acc_len_body (A := A.in1) (E := E) (N _ hx).1 h
theorem acc_init_K {q : Addr} {Q : Value → Shared → Prop} (F : Fr h₀ L s.heap m) (N : News h₀ L s.heap news) (hq : (q, boundB "method-wrapper" "list.__init__" (.ref x)) ∈ news) (U : UpdF x (accO C dx xs n) news g) (hsz : xs.size ≤ 1000)
    (h : ∀ h' n', Fr h₀ L h' m → News h₀ L h' (g (accO C dx #[] n')) → Q .none { s with heap := h' }) : wpAny (model prog w) A (call (.ref q) []) Q E s := by
  refine call_bound (BoundAt.of N hq) (.inl rfl) (by decide +kernel) PySem.F.entry_list_init (fun {A} {Q'} hq' => wpAny_of_eq (chkB_init _) hq') ?_
  exact acc_init_body (A := A.in1) (E := E) (N _ (updF_mem U)).1 hsz fun h' n' hs ho => let ⟨F', N'⟩ := upd_at F N U hs ho; h h' n' F' N'
theorem acc_tail {value slice : Expr} {i : Value} {ops : List Value} {Q : Value → Shared → Prop} (X : K.In s.heap) (I : InstAt s.heap x (accO C dx xs n) C (some od)) (Z : LCls K C) (h : wpAny (model prog w) A (getItem (.ref x) i) Q E s)
    (hsl : subscripted slice false (.ref x) i = operate ops (getItem (.ref x) i)) : wpAny (model prog w) A (subscriptTail value slice (.ref x) i) Q E s := by
  unfold subscriptTail getitemInPython specialOf
  refine wpAny_bind (wpAny_bind (wpAny_bind (I.type.here ((looks_findIn X Z.getI).here ?_))))
  dsimp only
  refine wpAny_pure ?_
  rw [hsl]
  exact wpAny_bind (wpAny_operating (wpAny_mono h (fun v s' z => wpAny_bind (wpAny_letTemporaryGo (wpAny_pure z))) fun _ _ z => z))
theorem acc_item_K {value slice : Expr} {k : Int} {t : Tok} {v : Value} {Q : Value → Shared → Prop} (F : Fr h₀ L s.heap m) (X₀ : K.In h₀) (N : News h₀ L s.heap news) (Z : LCls K C) (hx : (x, accO C dx xs n) ∈ news) (hd : (dx, od) ∈ news)
    (h0 : 0 ≤ k) (hfit : k < 2 ^ 63) (hv : xs[k.toNat]? = some v) (h : Q v s)
    (hsl : subscripted slice false (.ref x) (.int k t) = operate [.ref x, .int k t] (getItem (.ref x) (.int k t)) := by with_unfolding_all rfl) :
    wpAny (model prog w) A (subscriptTail value slice (.ref x) (.int k t)) Q E s :=
  have I := instAcc_news N hx hd
  acc_tail (X₀.keeps F.keep) I Z (acc_getItem_int (X₀.keeps F.keep) I Z.sub Z.noSeq Z.getI h0 hfit hv h) hsl
theorem acc_slice_K {value slice : Expr} {vl vu : Value} {lo hi : Option Int} {Q : Value → Shared → Prop} (F : Fr h₀ L s.heap m) (X₀ : K.In h₀) (N : News h₀ L s.heap news) (Z : LCls K C) (hx : (x, accO C dx xs n) ∈ news) (hd : (dx, od) ∈ news)
    (pl : IsPart vl lo) (pu : IsPart vu hi) (hsz : xs.size ≤ 1000)
    (h : ∀ D h', Fr h₀ L h' m → News h₀ L h' ((D, listOf (slicePick xs lo hi none) 0) :: news) → (∀ p ∈ news, p.1 < D) → Q (.ref D) { s with heap := h' })
    (hsl : subscripted slice false (.ref x) (.ref s.heap.objs.size) = operate [.ref s.heap.objs.size, .ref x] (getItem (.ref x) (.ref s.heap.objs.size)) := by with_unfolding_all rfl) :
    wpAny (model prog w) A (subscriptTail value slice (.ref x) (.ref s.heap.objs.size)) Q E { s with heap := s.heap.push { cls := .type "slice", data := .fields #[vl, vu, .none] } } := by
  have F₁ : Fr h₀ L (s.heap.push { cls := .type "slice", data := .fields #[vl, vu, .none] }) m := F.push _
  have N₁ : News h₀ L (s.heap.push { cls := .type "slice", data := .fields #[vl, vu, .none] }) news := N.grown fun _ _ e => Heap.get?_push_of_some _ e
  have I := instAcc_news (s := { s with heap := s.heap.push { cls := .type "slice", data := .fields #[vl, vu, .none] } }) N₁ hx hd
  refine acc_tail (X₀.keeps F₁.keep) I Z (acc_getSlice (X₀.keeps F₁.keep) I Z.sub Z.noSeq Z.getI (Heap.IsSliceOf.new ..) pl pu .none (by simp) hsz ?_) hsl
  have N2 := News.push F₁ N₁ { cls := .type "list", data := .seq (slicePick xs lo hi none) }
  have l2 : ∀ p ∈ news, p.1 < (s.heap.push { cls := .type "slice", data := .fields #[vl, vu, .none] }).objs.size := fun p hp => Heap.lt_size (N₁ p hp).1
  exact h _ _ (F₁.push _) N2 l2
theorem acc_setSlice_K {vl vu : Value} {lo hi : Option Int} {b : Addr} {zs : List Value} {nb : Nat} {start stop : Int} {Q : Unit → Shared → Prop} (F : Fr h₀ L s.heap m) (X₀ : K.In h₀) (N : News h₀ L s.heap news) (Z : LCls K C) (hd : (dx, od) ∈ news) (U : UpdF x (accO C dx xs n) news g)
    (hb : (b, listOf zs.toArray nb) ∈ news) (hne : b ≠ x)
    (pl : IsPart vl lo) (pu : IsPart vu hi) (hsz : xs.size ≤ 1000) (hsz' : zs.length ≤ 1000) (hbd : sliceBounds lo hi none xs.size = (start, stop, 1))
    (h : ∀ h' n', Fr h₀ L h' m → News h₀ L h' (g (accO C dx (xs.extract 0 start.toNat ++ zs.toArray ++ xs.extract (max start stop).toNat xs.size) n')) → Q () { s with heap := h' }) :
    wpAny (model prog w) A (setItem (.ref x) (.ref s.heap.objs.size) (.ref b)) Q E { s with heap := s.heap.push { cls := .type "slice", data := .fields #[vl, vu, .none] } } := by
  have F₁ : Fr h₀ L (s.heap.push { cls := .type "slice", data := .fields #[vl, vu, .none] }) m := F.push _
  have N₁ : News h₀ L (s.heap.push { cls := .type "slice", data := .fields #[vl, vu, .none] }) news := N.grown fun _ _ e => Heap.get?_push_of_some _ e
  have I := instAcc_news (s := { s with heap := s.heap.push { cls := .type "slice", data := .fields #[vl, vu, .none] } }) N₁ (updF_mem U) hd
  refine acc_setSlice (X₀.keeps F₁.keep) I Z.sub Z.noSeq Z.setI (Heap.IsSliceOf.new ..) pl pu .none ⟨_, (N₁ _ hb).1, rfl, nb, rfl⟩ hne hsz (by simpa using hsz') hbd fun h' n' hs ho => ?_
  have ⟨F', N'⟩ := upd_at (s := { s with heap := s.heap.push { cls := .type "slice", data := .fields #[vl, vu, .none] } }) F₁ N₁ U hs ho
  exact h h' n' F' N'
end
end
section
theorem off_RHq : True := by
  k_with_none
  trivial
open PySem PySem.W PyProof.Rows PySem.Calls
section
variable {prog : Program} {w : World} {A : Around} {E : Value → Shared → Prop} {s : Shared} {K : Frag} {x C dx L : Addr} {h₀ : Heap} {m : Str → Option Value} {news : List (Addr × Obj)} {ox : Obj} {es : List DictEntry} {n : Nat} {name : Str}
noncomputable def listGet (K : Frag) (C : Addr) : Bool := findIn K (.ref C) "__getattribute__" == some (some (.builtin "list.__getattribute__")) && findIn K (.ref C) "__getattr__" == some none
theorem listGet_of (h : listGet K C = true) : findIn K (.ref C) "__getattribute__" = some (some (.builtin "list.__getattribute__")) ∧ findIn K (.ref C) "__getattr__" = some none := by
  simp only [listGet, Bool.and_eq_true, beq_iff_eq] at h; exact h
theorem methodL {pl : Sem Bool} {Q : Value × List Value → Shared → Prop} {f : Value} {ty : String} (F : Fr h₀ L s.heap m) (X₀ : K.In h₀) (I : InstAt s.heap x ox C (some (dictOf es n))) (hg : listGet K C = true)
    (hf : findIn K (.ref C) name = some (some f)) (ht : Looks (model prog w) s.heap (typeOf f) (.type ty)) (hty : ty = "method_descriptor" ∨ ty = "wrapper_descriptor" ∨ ty = "function") (hl : getL name es = some none) (h : Q (f, [.ref x]) s) :
    wpAny (model prog w) A (getMethod (.ref x) name pl) Q E s := by
  have hcan : (Manifest.canonical "list.__getattribute__" != "object.__getattribute__") = false := by decide +kernel
  have X := X₀.keeps F.keep
  have hga := (listGet_of hg).1
  have hk := (listGet_of hg).2
  have hs : shadowIn (some (dictOf es n)) name = some false := by show (lookIn name (dictOf es n)).map _ = _; rw [lookIn_dict, hl]; rfl
  have htf : (Value.type ty != .type "function" && Value.type ty != .type "method_descriptor" && Value.type ty != .type "wrapper_descriptor") = false := by rcases hty with rfl | rfl | rfl <;> decide +kernel
  unfold getMethod specialOf
  refine wpAny_bind (wpAny_bind (I.type.here ((looks_findIn X hga).here ?_)))
  dsimp only
  rw [hcan, if_neg (by decide)]
  refine wpAny_bind (wpAny_bind (I.type.here ((looks_findIn X hk).here ?_)))
  refine wpAny_bind (wpAny_bind (I.type.here ((looks_findIn X hf).here (wpAny_bind (ht.here ?_)))))
  rw [htf, if_neg (by decide +kernel)]
  refine wpAny_bind (wpAny_loadPart I.at_ ?_)
  have hd := I.dict
  cases e : ox.dict with
  | none => exact wpAny_bind (wpAny_rule (wpAny_pure h))
  | some dx =>
    rw [e] at hd
    obtain ⟨r, a, b⟩ := Option.map_eq_some_iff.mp hs
    refine wpAny_bind (wpAny_bind (wpAny_loadPart hd ?_))
    rw [nsLook_of a]
    cases r with
    | none => exact wpAny_pure (wpAny_bind (wpAny_rule (wpAny_pure h)))
    | some v => cases b
theorem methodL_fn {pl : Sem Bool} {Q : Value × List Value → Shared → Prop} {f : Addr} (F : Fr h₀ L s.heap m) (X₀ : K.In h₀) (I : InstAt s.heap x ox C (some (dictOf es n))) (hg : listGet K C = true)
    (hf : findIn K (.ref C) name = some (some (.ref f))) (ht : isFn K (.ref f) = true) (hl : getL name es = some none) (h : Q (.ref f, [.ref x]) s) : wpAny (model prog w) A (getMethod (.ref x) name pl) Q E s :=
  methodL F X₀ I hg hf (looks_typeIn (X₀.keeps F.keep) (beq_iff_eq.mp ht)) (.inr (.inr rfl)) hl h
theorem method_bi {pl : Sem Bool} {Q : Value × List Value → Shared → Prop} {id ty : String} (F : Fr h₀ L s.heap m) (X₀ : K.In h₀) (I : InstAt s.heap x ox C (some (dictOf es n))) (hg : listGet K C = true)
    (hf : findIn K (.ref C) name = some (some (.builtin id))) (ht : typeOf (.builtin id) = pure (.type ty)) (hty : ty = "method_descriptor" ∨ ty = "wrapper_descriptor") (hl : getL name es = some none) (h : Q (.builtin id, [.ref x]) s) :
    wpAny (model prog w) A (getMethod (.ref x) name pl) Q E s :=
  methodL F X₀ I hg hf (.of_pure ht) (by rcases hty with h | h <;> simp [h]) hl h
theorem getL_own {expr : Bool} {Q : Value → Shared → Prop} {attr : Option Value} {v : Value} (F : Fr h₀ L s.heap m) (X₀ : K.In h₀) (I : InstAt s.heap x ox C (some (dictOf es n))) (Z : LCls K C) (hg : listGet K C = true) (hh : hasDictIn K C = true)
    (ha : findIn K (.ref C) name = some attr) (hn : noGet K attr = true) (hl : getL name es = some (some v)) (hv : handedIn v = true) (h : Q v { s with toks := s.toks + 1 }) :
    wpAny (model prog w) A (getAttr (.ref x) name expr) Q E s := by
  have X := X₀.keeps F.keep
  have hf := findObj_own (od := dictOf es n) (K := K) (C := C) (name := name) hh ha hn (by rw [lookIn_dict]; exact hl)
  obtain ⟨hh', g, d, t, os⟩ := s
  have L0 := I.type (M := model prog w)
  have Lg := looks_findIn (M := model prog w) X (listGet_of hg).1
  have Lk := looks_findIn (M := model prog w) X (listGet_of hg).2
  have L1 := looks_find (M := model prog w) X I hf
  have Ls : Looks (model prog w) hh' (isInstance (.ref x) (.type "list")) true := L0.andThen (looks_subIn X Z.sub)
  unfold getAttr getAttrBy
  refine wpAny_bind (wpAny_mkText (wpAny_holding (wpAny_bind (L0.at (wpAny_bind (Lg.at ?_))))))
  show wpAny _ _ (getAttrByItsOwn (.ref x) (.str name t) (.ref C) (.builtin "list.__getattribute__") true expr) _ _ _
  unfold getAttrByItsOwn hookBefore
  refine wpAny_bind ?_
  show wpAny _ _ (typeLookup (.ref C) "__getattr__") _ _ _
  refine Lk.at ?_
  refine wpAny_bind (wpAny_attempt (wpAny_holding ?_))
  show wpAny _ _ (callGetattribute _ _ _ _) _ _ _
  unfold callGetattribute
  have e : (expr && onTheHeap (.builtin "list.__getattribute__")) = false := by rw [show onTheHeap (.builtin "list.__getattribute__") = false from rfl, Bool.and_false]
  rw [e, if_neg (by decide)]
  unfold boundAndCalled
  refine wpAny_bind (wpAny_of_eq (PySem.F.slot_list_getattribute.bind (.ref x)) ?_)
  refine call_on (by decide +kernel) PySem.F.entry_list_ga (owner := "list") (nm := "__getattribute__") (by decide +kernel) (.inl (by decide +kernel)) Ls (PySem.F.args_list_getattribute_2 _ _) ?_
  show wpAny _ _ (Builtin.«object.__getattribute__» _) _ _ _
  unfold Builtin.«object.__getattribute__»
  refine wpAny_bind (wpAny_pure (wpAny_bind (wpAny_pure (wpAny_bind (L0.at (wpAny_bind (L1.at ?_)))))))
  refine wpAny_pure ⟨v, rfl, ?_⟩
  show wpAny _ _ (handedOut v) _ _ _
  rw [handedOut_of hv]; exact wpAny_pure h
section
variable {D so : Addr} {od : Obj} {pl : Sem Bool} {Q : Value × List Value → Shared → Prop} (F : Fr h₀ L s.heap m) (X₀ : K.In h₀) (N : News h₀ L s.heap news) (hso : (so, ks_superObj D x C) ∈ news) (I : InstAt s.heap x ox C (some od)) (Z : LCls K C) (ho : nsIn K cStatics "thirdparty.any" = some none)
include F X₀ N hso I Z ho
theorem super_len (hm : ks_superIn K C D "__len__" = some (some (.builtin "list.__len__")))
    (h : ∀ q h', Fr h₀ L h' m → News h₀ L h' ((q, boundB "method-wrapper" "list.__len__" (.ref x)) :: news) → (∀ p ∈ news, p.1 < q) → Q (.ref q, []) { s with heap := h', toks := s.toks + 1 }) : wpAny (model prog w) A (getMethod (.ref so) "__len__" pl) Q E s :=
  superMethod_bi F X₀ N hso I ho hm Z.sub Z.notMod (by kernel_rfl) slot_wd_get entry_wd_get (args_wd_get _ _ _) (fun Y hq => wd_get Y (by decide +kernel) hq) (by decide +kernel) h
theorem super_init (hm : ks_superIn K C D "__init__" = some (some (.builtin "list.__init__")))
    (h : ∀ q h', Fr h₀ L h' m → News h₀ L h' ((q, boundB "method-wrapper" "list.__init__" (.ref x)) :: news) → (∀ p ∈ news, p.1 < q) → Q (.ref q, []) { s with heap := h', toks := s.toks + 1 }) : wpAny (model prog w) A (getMethod (.ref so) "__init__" pl) Q E s :=
  superMethod_bi F X₀ N hso I ho hm Z.sub Z.notMod (by kernel_rfl) slot_wd_get entry_wd_get (args_wd_get _ _ _) (fun Y hq => wd_get Y (by decide +kernel) hq) (by decide +kernel) h
theorem super_pop (hm : ks_superIn K C D "pop" = some (some (.builtin "list.pop")))
    (h : ∀ q h', Fr h₀ L h' m → News h₀ L h' ((q, boundB "builtin_function_or_method" "list.pop" (.ref x)) :: news) → (∀ p ∈ news, p.1 < q) → Q (.ref q, []) { s with heap := h', toks := s.toks + 1 }) : wpAny (model prog w) A (getMethod (.ref so) "pop" pl) Q E s :=
  superMethod_bi F X₀ N hso I ho hm Z.sub Z.notMod (by kernel_rfl) slot_md_get entry_md_get (args_md_get _ _ _) (fun Y hq => md_get Y (by decide +kernel) (by decide +kernel) hq) (by decide +kernel) h
end
theorem subN {h : Heap} {a b : List (Addr × Obj)} (N : News h₀ L h a) (hs : ∀ p ∈ b, p ∈ a) : News h₀ L h b := fun p hp => N p (hs p hp)
end
noncomputable abbrev tupL (vs : List Value) : Obj := { cls := .type "tuple", data := .seq vs.toArray }
theorem z227 (P : Params) : LCls (Mine.hd.heap_1 P) 227 := ⟨by kernel_rfl, by kernel_rfl, by kernel_rfl, by kernel_rfl, by kernel_rfl, by kernel_rfl, by kernel_rfl⟩
theorem z227_get (P : Params) : listGet (Mine.hd.heap_1 P) 227 = true := by kernel_rfl
theorem z227_pop (P : Params) (x : Addr) : chkOwn (Mine.hd.heap_1 P) 227 "list.pop" ⟨[.ref x], []⟩ = true := by kernel_rfl
theorem z227_make (P : Params) : makesL (Mine.hd.heap_1 P) 227 = true := by kernel_rfl
theorem z227_over (P : Params) : overList (Mine.hd.heap_1 P) 227 = true := by kernel_rfl
theorem ty_append : typeOf (.builtin "list.append") = (pure (.type "method_descriptor") : Sem Value) := by kernel_rfl
end
section
theorem off_RIq : True := by
  k_with_none
  trivial
open PySem PySem.W PyProof.Rows PySem.Calls
section
variable {x dx L : Addr} {o d : Obj} {news : List (Addr × Obj)} {g : Obj → List (Addr × Obj)} {g2 : Obj → Obj → List (Addr × Obj)} {h₀ h : Heap}
theorem allLt_all {d : Addr} : ∀ {l : List (Addr × Obj)}, AllLt d l → ∀ p ∈ l, p.1 < d
  | [], _ => fun _ h => nomatch h
  | p :: r, ⟨a, b⟩ => fun q hq => by
    rcases List.mem_cons.mp hq with rfl | hq
    · exact a
    · exact allLt_all b q hq
theorem ownOff_one {own : List (Addr × Obj)} (a : ∀ p ∈ own, p.1 ≠ x) : OwnOff own [x] := fun p hp b hb => by
  rw [List.mem_singleton] at hb; subst hb; exact a p hp
theorem updF_own (U : UpdF x o news g) : ∃ own, (∀ p ∈ own, p ∈ news) ∧ OwnOff own [x] ∧ (∀ p ∈ news, p = (x, o) ∨ p ∈ own) ∧ ∀ o', ∀ p ∈ g o', p = (x, o') ∨ p ∈ own := by
  obtain ⟨pre, post, rfl, hg, a, b⟩ := U.split
  refine ⟨pre ++ post, fun p hp => ?_, ownOff_one fun p hp => ?_, fun p hp => ?_, fun o' p hp => ?_⟩
  · rcases List.mem_append.mp hp with h | h
    · exact List.mem_append_left _ h
    · exact List.mem_append_right _ (.tail _ h)
  · rcases List.mem_append.mp hp with h | h
    · exact a p h
    · exact b p h
  · rcases List.mem_append.mp hp with h | h
    · exact .inr (List.mem_append_left _ h)
    · rcases List.mem_cons.mp h with h | h
      · exact .inl h
      · exact .inr (List.mem_append_right _ h)
  · rw [hg] at hp
    rcases List.mem_append.mp hp with h | h
    · exact .inr (List.mem_append_left _ h)
    · rcases List.mem_cons.mp h with h | h
      · exact .inl h
      · exact .inr (List.mem_append_right _ h)
theorem updF_own2 (U : UpdF x o news g) (V : ∀ o', UpdF dx d (g o') (g2 o')) : ∃ own, (∀ p ∈ own, p ∈ news) ∧ OwnOff own [x, dx] ∧ (∀ p ∈ news, p = (x, o) ∨ p = (dx, d) ∨ p ∈ own) ∧ ∀ o' d', ∀ p ∈ g2 o' d', p = (x, o') ∨ p = (dx, d') ∨ p ∈ own := by
  obtain ⟨own, h1, h2, h3, h4⟩ := updF_own U
  have hV : ∀ o', (dx, d) ∈ g o' := fun o' => updF_mem (V o')
  refine ⟨own.filter fun p => p.1 ≠ dx, fun p hp => h1 p (List.mem_filter.mp hp).1, fun p hp b hb => ?_, fun p hp => ?_, fun o' d' p hp => ?_⟩
  · obtain ⟨h, h'⟩ := List.mem_filter.mp hp
    rcases List.mem_cons.mp hb with rfl | hb
    · exact h2 p h _ (.head _)
    · rw [List.mem_singleton] at hb; subst hb; simpa using h'
  · rcases h3 p hp with h | h
    · exact .inl h
    · by_cases e : p.1 = dx
      · have hp' : p ∈ news := hp
        obtain ⟨pre, post, hn, hg, a, b⟩ := U.split
        obtain ⟨pre2, post2, hn2, hg2, a2, b2⟩ := (V o).split
        have hgo : g o = news := by rw [hg, hn]
        rw [hgo] at hn2
        rw [hn2] at hp'
        rcases List.mem_append.mp hp' with q | q
        · exact absurd e (a2 p q)
        · rcases List.mem_cons.mp q with q | q
          · exact .inr (.inl q)
          · exact absurd e (b2 p q)
      · exact .inr (.inr (List.mem_filter.mpr ⟨h, by simpa using e⟩))
  · obtain ⟨pre2, post2, hn2, hg2, a2, b2⟩ := (V o').split
    have step : p = (dx, d') ∨ (p ∈ g o' ∧ p.1 ≠ dx) := by
      rw [hg2] at hp
      rcases List.mem_append.mp hp with q | q
      · exact .inr ⟨by rw [hn2]; exact List.mem_append_left _ q, a2 p q⟩
      · rcases List.mem_cons.mp q with q | q
        · exact .inl q
        · exact .inr ⟨by rw [hn2]; exact List.mem_append_right _ (.tail _ q), b2 p q⟩
    rcases step with q | ⟨q, e⟩
    · exact .inr (.inl q)
    · rcases h4 o' p q with r | r
      · exact .inl r
      · exact .inr (.inr (List.mem_filter.mpr ⟨r, by simpa using e⟩))
theorem updF_ne {y : Addr} {oy : Obj} (U : UpdF x o news g) (hm : (y, oy) ∈ news) (e : oy ≠ o) : y ≠ x := by
  obtain ⟨own, h1, h2, h3, h4⟩ := updF_own U
  rcases h3 _ hm with h | h
  · exact absurd (congrArg Prod.snd h) e
  · exact h2 _ h _ (.head _)
end
theorem bd_all (n : Nat) : sliceBounds none none none n = (((0 : Nat) : Int), (n : Int), 1) := by simp [sliceBounds]
theorem bd_from {a n : Nat} (h : a ≤ n) : sliceBounds (some (a : Int)) none none n = ((a : Int), (n : Int), 1) := by
  simp only [sliceBounds, Option.getD_none]
  have h1 : ¬ ((a : Int) < 0) := by omega
  simp only [h1, if_false, show (1 : Int) > 0 by decide, if_true]
  congr 1
  omega
theorem ex_all (xs ys : List Value) : xs.toArray.extract 0 (((0 : Nat) : Int)).toNat ++ ys.toArray ++ xs.toArray.extract (max ((0 : Nat) : Int) (xs.toArray.size : Int)).toNat xs.toArray.size = ys.toArray := by simp
theorem ex_all0 (xs : List Value) : xs.toArray.extract 0 (((0 : Nat) : Int)).toNat ++ #[] ++ xs.toArray.extract (max ((0 : Nat) : Int) (xs.toArray.size : Int)).toNat xs.toArray.size = #[] := by simp
theorem ex_from (xs : List Value) {k : Nat} (hk : k ≤ xs.length) : xs.toArray.extract 0 (k : Int).toNat ++ #[] ++ xs.toArray.extract (max (k : Int) (xs.toArray.size : Int)).toNat xs.toArray.size = (xs.take k).toArray := by
  have e : (max (k : Int) (xs.toArray.size : Int)).toNat = xs.length := by simp; omega
  rw [e]; simp
end
section
theorem off_RJq : True := by
  k_with_none
  trivial
open PySem PySem.W PyProof.Rows PySem.Calls
noncomputable def SeqAt (h : Heap) (ax : Addr) (items : Array Value) : Prop := ∃ o n, h.get? ax = some o ∧ o.data = .seq items n
theorem SeqAt.at {h h' : Heap} {a items} (x : SeqAt h a items) (e : ∀ o, h.get? a = some o → h'.get? a = some o) : SeqAt h' a items := let ⟨o, n, ho, r⟩ := x; ⟨o, n, e _ ho, r⟩
section
variable {prog : Program} {w : World} {A : Around} {E : Value → Shared → Prop} {s : Shared}
theorem seq_item {it l : Addr} {i : Nat} {items : Array Value} {x : Value} {Q : Option Value → Shared → Prop} (hit : s.heap.IsListIter it l i) (hl : SeqAt s.heap l items) (hx : items[i]? = some x)
    (hQ : ∀ h', h'.IsListIter it l (i + 1) → Heap.SameBut it s.heap h' → Q (some x) { s with heap := h' }) : wpAny (model prog w) A (pyNext (.ref it)) Q E s := by
  obtain ⟨o, ho, hc, hd⟩ := id hit
  obtain ⟨ol, nl, hol, hdl⟩ := hl
  have e : items[(i : Int).toNat]? = some x := by rw [Int.toNat_natCast]; exact hx
  unfold pyNext
  refine wpAny_bind (wpAny_attempt (wpAny_callSpecial?_slot (name := Str.ofString "__next__") hit.typeIs slot_listiter_next (wpAny_call_entry slot_listiter_next hit.typeIs entry_listiter_next ?_ (args_listiter_next _))))
  refine (show wpAny _ _ (field (.ref it) 0 >>= _) _ _ s from wpAny_bind (wpAny_field ho hd (x := .ref l) rfl ?_))
  have ne : ¬ ((Value.ref l == Value.none) = true) := Bool.false_ne_true
  refine (show wpAny _ _ (if (Value.ref l == Value.none) = true then _ else _) _ _ s from ?_)
  rw [if_neg ne]
  refine (show wpAny _ _ (field (.ref it) 1 >>= _) _ _ s from wpAny_bind (wpAny_field ho hd (x := .int i 0) rfl ?_))
  refine (show wpAny _ _ (seqItems? (.ref l) >>= _) _ _ s from wpAny_bind (wpAny_seqItems hol hdl ?_))
  dsimp only
  rw [Int.toNat_natCast, hx]
  dsimp only
  have up : ∀ h', h'.IsListIter it l (i + 1) → Heap.SameBut it s.heap h' → Q (some x) { s with heap := h' } := hQ
  refine wpAny_bind (wpAny_setField ho hd (by simp) (wpAny_pure ⟨x, rfl, wpAny_pure (up _ ⟨_, Heap.get?_update_self _ ho (Obj.isFreed_of_fields (Obj.data_mapFields hd _)), (Obj.cls_mapFields ..).trans hc, ?_⟩ (Heap.SameBut.update ..))⟩))
  rw [Obj.data_mapFields hd]
  simp [rawInt]
theorem seq_end {it l : Addr} {i : Nat} {items : Array Value} {Q : Option Value → Shared → Prop} (hh : A.handled = none) (hit : s.heap.IsListIter it l i) (hl : SeqAt s.heap l items) (hx : items[i]? = none)
    (hQ : ∀ h', Heap.ExtBut it s.heap h' → Q none { s with heap := h' }) : wpAny (model prog w) A (pyNext (.ref it)) Q E s := by
  obtain ⟨o, ho, hc, hd⟩ := id hit
  obtain ⟨ol, nl, hol, hdl⟩ := hl
  have ne : ¬ ((Value.ref l == Value.none) = true) := Bool.false_ne_true
  unfold pyNext
  refine wpAny_bind (wpAny_attempt (wpAny_callSpecial?_slot (name := Str.ofString "__next__") hit.typeIs slot_listiter_next (wpAny_call_entry slot_listiter_next hit.typeIs entry_listiter_next ?_ (args_listiter_next _))))
  refine (show wpAny _ _ (field (.ref it) 0 >>= _) _ _ s from wpAny_bind (wpAny_field ho hd (x := .ref l) rfl ?_))
  refine (show wpAny _ _ (if (Value.ref l == Value.none) = true then _ else _) _ _ s from ?_)
  rw [if_neg ne]
  refine (show wpAny _ _ (field (.ref it) 1 >>= _) _ _ s from wpAny_bind (wpAny_field ho hd (x := .int i 0) rfl ?_))
  refine (show wpAny _ _ (seqItems? (.ref l) >>= _) _ _ s from wpAny_bind (wpAny_seqItems hol hdl ?_))
  dsimp only
  rw [Int.toNat_natCast, hx]
  dsimp only
  refine wpAny_bind (wpAny_rule (wpAny_bind (wpAny_setField ho hd (by simp) ?_)))
  refine (show wpAny _ _ (newExc (.type "StopIteration") [] >>= _) _ _ _ from wpAny_bind ?_)
  unfold newExc newTuple
  refine wpAny_bind (wpAny_newObj_type ?_ (by size_fits))
  refine wpAny_bind (m := firstArgMember _ _) (wpAny_of_eq (a := Value.none) (by first | rfl | (simp only [firstArgMember]; rfl)) (wpAny_newObj_type ?_ (by size_fits)))
  unfold raiseNew
  dsimp only
  refine wpAny_bind (wpAny_handled ?_)
  rw [show A.in1.handled = none from hh]
  refine wpAny_bind (wpAny_pure (wpAny_throw ?_))
  refine wpAny_bind (wpAny_isInstance (T := "StopIteration") (b := true) ⟨_, Heap.get?_push_size _ rfl, rfl⟩ isSubtype_stop ?_)
  exact wpAny_pure (hQ _ (((Heap.SameBut.update ..).extBut.push _).push _))
end
theorem walkPairs {prog : Program} {w : World} {A : Around} (hh : A.handled = none) (I ax : Addr) (hne : ax ≠ I) (items : Array Value) (Ts : Nat → Addr) (vals : Nat → Array Value)
    (hit : ∀ j, j < items.size → items[j]? = some (.ref (Ts j))) (hTI : ∀ j, j < items.size → Ts j ≠ I) :
    WalksU prog w A I (I :: ax :: (List.range items.size).map Ts) [I] items.size (fun j v => j < items.size ∧ v = vals j)
      (fun j h => h.IsListIter I ax j ∧ SeqAt h ax items ∧ ∀ k, k < items.size → h.IsTuple (Ts k) (vals k))
      (fun j T h => (j < items.size ∧ T = Ts j) ∧ h.IsListIter I ax (j + 1) ∧ SeqAt h ax items ∧ ∀ k, k < items.size → h.IsTuple (Ts k) (vals k)) where
  sub := fun b hb => by simp at hb; simp [hb]
  frame := fun _ _ _ st hk => ⟨st.1.at fun o e => hk I (by simp) o e, st.2.1.at fun o e => hk ax (by simp) o e,
    fun k hk' => (st.2.2 k hk').at fun o e => hk (Ts k) (List.mem_cons_of_mem _ (List.mem_cons_of_mem _ (List.mem_map.mpr ⟨k, List.mem_range.mpr hk', rfl⟩))) o e⟩
  item := fun i s Q E hi st hQ => by
    refine seq_item st.1 st.2.1 (x := .ref (Ts i)) (hit i hi) fun h' hit' hs' => ?_
    have tup : ∀ k, k < items.size → h'.IsTuple (Ts k) (vals k) := fun k hk' => (st.2.2 k hk').extBut hs'.extBut (hTI k hk')
    exact hQ (Ts i) (vals i) h' s.toks ⟨hi, rfl⟩ (tup i hi) ⟨⟨hi, rfl⟩, hit', st.2.1.at fun o e => hs'.extBut ax o hne e, tup⟩ fun b o hb e => hs'.extBut b o (fun h => hb (by simp [h])) e
  go := fun _ _ _ _ _ s Q _ hm hQ => wpAny_letOwnedTupleGo_listiter hm.2.1 (hQ s.heap hm.2 fun _ _ _ e => e)
  apart := fun j T _ hm hmem => by
    rcases List.mem_cons.mp hmem with e | e
    · exact hTI j hm.1.1 (hm.1.2 ▸ e)
    · cases e
  done := fun s Q E st hQ => seq_end hh st.1 st.2.1 (by simp) fun h' he' => hQ h' s.toks fun b o hb e => he' b o (fun h => hb (by simp [h])) e
  self := fun _ _ _ _ st hQ => wpAny_pyIter_listiter st.1 hQ
noncomputable def TabOk (o : Obj) : Prop := ∃ ps, o = tabObj ps ∧ TriplesOk ps.toList
theorem genexprCode_tab {M : Model} {A : Around} {E : Value → Shared → Prop} {s : Shared} {env : Env} {c P : Addr} {pos : Pos} {qualname : Str} {scope : Scope} {o : Obj} {Q : Value → Shared → Prop}
    (hc : env.code = .ref c) (hC : CodeHd s.heap c P) (hP : s.heap.get? P = some o) (ht : TabOk o)
    (hQ : ∀ code h' tk o', Heap.ExtBut P s.heap h' → h'.get? P = some o' → TabOk o' → Q code { s with heap := h', toks := tk }) :
    wpAny M A (genexprCode env pos qualname scope) Q E s := by
  obtain ⟨ps, rfl, hT⟩ := ht
  cases hnf : codeAmong pos ps.toList with
  | some cv => exact wpAny_genexprCode_hit hc (hC.code hP hT) hnf (hQ cv s.heap s.toks _ (Heap.ExtBut.refl _ _) hP ⟨ps, rfl, hT⟩)
  | none =>
    refine wpAny_genexprCodeX hc (hC.code hP hT) (hC.tab hP) hnf fun c' h' tk hx _ _ _ _ htb _ => ?_
    refine hQ _ h' tk _ hx htb.2 ⟨_, rfl, ?_⟩
    rw [show (ps ++ #[rawInt pos.line, rawInt pos.col, Value.ref c']).toList = ps.toList ++ [rawInt pos.line, rawInt pos.col, .ref c'] by simp]
    exact TriplesOk_snoc _ _ _ _ hT
noncomputable def GenP (prog : Program) (w : World) (A : Around) (L a : Addr) (n : Nat) (F : Nat → Value → Prop) (news : List (Addr × Obj)) (s : Shared) : Prop :=
  ∃ fp wr g St, WalksS prog w A.in4 a fp wr (GenOnlyQ g) n F St ∧ St 0 s ∧ (∀ i s', St i s' → s'.TypeIs (.ref a) "generator") ∧ a ∈ fp ∧ (∀ b ∈ fp, b < s.heap.objs.size) ∧ (∀ b ∈ wr, L < b) ∧ ∀ p ∈ news, p.1 ∉ wr
theorem passing_all (n : Nat) : passing (fun _ => true) n 0 = List.range n := by
  unfold passing; rw [List.drop_zero]; exact List.filter_eq_self.mpr fun _ _ => rfl
section
variable {prog : Program} {w : World} {A : Around} {E : Value → Shared → Prop} {s : Shared} {K : Frag} {x C dx L c tab : Addr} {h₀ : Heap} {m mg mb : Str → Option Value} {news : List (Addr × Obj)} {g : Obj → List (Addr × Obj)} {o od : Obj} {n : Nat}
  {p : Program} {loose : List Str} {mean : ExcName → Option Value}
theorem genPairs {env : Env} {elt iter : Expr} {xa xb : Str} {pa pb pt : Pos} {kt : Nat} {scope : Scope} {cl : List (Str × Addr)} {pos : Pos} {Q : Value → Shared → Prop} {ps : List (Addr × Value × Value)} {Fy : Nat → Value → Prop}
    (F : Fr h₀ L s.heap m) (X₀ : K.In h₀) (N : News h₀ L s.heap news) (T : Top p loose mean mg mb h₀) (G : AllBare s.gens)
    (hx : (x, accO C dx (ps.map fun q => Value.ref q.1).toArray n) ∈ news) (hdx : (dx, od) ∈ news) (Z : LCls K C) (hps : ∀ q ∈ ps, (q.1, tupL [q.2.1, q.2.2]) ∈ news)
    (hcd : CodeHd h₀ c tab) (U : UpdF tab o news g) (ho : TabOk o) (hcode : env.code = .ref c) (hgl : env.globals = mainGlobals)
    (hh : A.handled = none) (hco : scope.isCoroutine = false) (hclos : closureFor scope env = pure cl) (hcell : ∀ y ∈ scope.names, y.2 ≠ .cell) (h0 : scope.names.lookup (".0" : Str) = some NameKind.local)
    (hxa : scope.names.lookup xa = some .local) (hxb : scope.names.lookup xb = some .local) (hab : xa ≠ xb) (hkind : scope.kind = .function) (hroom : A.depth < recursionLimit)
    (hiter : ∀ {Q : Value → Shared → Prop}, Q (.ref x) s → wpAny (model prog w) A (eval iter env) Q E s) (hs : ∀ x, genFold iter env x = pure x)
    (helt : ∀ (code : Value) (Cf : Addr) (A' : Around) (E' : Value → Shared → Prop) (i : Nat) (q : Addr × Value × Value) (s₂ : Shared) (m₂ : Str → Option Value), A'.handled = none → A'.depth ≤ A.depth + 1 → A'.units ≤ A.units + 8 → ps[i]? = some q → Fr h₀ Cf s₂.heap m₂ → m₂ xa = some q.2.1 → m₂ xb = some q.2.2 →
      wpAny (model prog w) A' (eval elt (genEnv scope cl Cf code builtinsNs env)) (fun y s₃ => Fy i y ∧ Keeps s₂ s₃) E' s₂)
    (h : ∀ a h' tk gs o', Fr h₀ L h' m → TabOk o' → News h₀ L h' (g o') → AllBare gs → GenP prog w A L a ps.length Fy (g o') { s with heap := h', toks := tk, gens := gs } → Q (.ref a) { s with heap := h', toks := tk, gens := gs }) :
    wpAny (model prog w) A (eval (.GeneratorExp elt [⟨.Tuple [.Name xa pa, .Name xb pb] kt pt, iter, [], 0⟩] scope pos) env) Q E s := by
  have X : K.In s.heap := X₀.keeps F.keep
  have I := instAcc_news N hx hdx
  have htab := updF_mem U
  refine wpAny_GeneratorExp_walksQTD hh hco hclos hcell h0 hxa hxb hab hkind hroom (hiter (acc_pyIter X I Z.sub Z.iter ?_)) hs
  -- the iterator is made
  have lim : s.heap.NoLimit := T.nolimit.keeps F.keep
  have hxs : x < s.heap.objs.size := Heap.lt_size (N _ hx).1
  refine ⟨lim.push _, ?_⟩
  refine genexprCode_tab hcode ((hcd.keeps F.keep).keeps fun b o e => Heap.get?_push_of_some _ e) (Heap.get?_push_of_some _ (N _ htab).1) ho fun code h₃ tk o' hx3 ho' hto => ?_
  have keep3 : ∀ b ob, b ≠ tab → s.heap.get? b = some ob → h₃.get? b = some ob := fun b ob hb e => hx3 b ob hb (Heap.get?_push_of_some _ e)
  have hbase : ∀ b ob, h₀.get? b = some ob → b ≠ tab := fun b ob e q => by
    subst q
    have z := (N _ htab).2.2
    rw [e] at z; cases z
  have hLt : L ≠ tab := fun q => (N _ htab).2.1 q.symm
  have F3 : Fr h₀ L h₃ m := ⟨F.ns.at fun ob e => keep3 L ob hLt e, fun b ob e => keep3 b ob (hbase b ob e) (F.keep b ob e), F.above⟩
  have N3 : News h₀ L h₃ (g o') := by
    obtain ⟨pre, post, hn, hg, a, b⟩ := U.split
    rw [hg]
    intro q hq
    rcases List.mem_append.mp hq with hq | hq
    · have z := N q (hn ▸ List.mem_append_left _ hq)
      exact ⟨keep3 _ _ (a q hq) z.1, z.2⟩
    · rcases List.mem_cons.mp hq with rfl | hq
      · exact ⟨ho', (N _ htab).2⟩
      · have z := N q (hn ▸ List.mem_append_right _ (.tail _ hq))
        exact ⟨keep3 _ _ (b q hq) z.1, z.2⟩
  obtain ⟨bm, ob, hbm, hne0, hbo, hcls, hdict, hdata⟩ := (T.keeps F3.keep).bmain
  rw [hgl]
  refine wpAny_builtinsFor (T.keeps F3.keep).g hbm hne0 hbo hcls hdict hdata ?_
  have lim3 : h₃.NoLimit := T.nolimit.keeps F3.keep
  have hi3 : h₃.IsListIter s.heap.objs.size x 0 := ⟨_, hx3 _ _ (Nat.ne_of_gt (Heap.lt_size (N _ htab).1)) (Heap.get?_push_size _ rfl), rfl, rfl⟩
  have hsz3 : s.heap.objs.size < h₃.objs.size := Heap.lt_size hi3.choose_spec.1
  have mem' : ∀ {q : Addr × Obj}, q ∈ news → q.1 ≠ tab → h₃.get? q.1 = some q.2 := fun hq ne => keep3 _ _ ne (N _ hq).1
  obtain ⟨pst, rfl, _⟩ := ho
  have hxt : x ≠ tab := updF_ne U hx fun e => by cases congrArg Obj.cls e
  have hqt : ∀ q ∈ ps, q.1 ≠ tab := fun q hq => updF_ne U (hps q hq) fun e => by cases congrArg Obj.cls e
  let Ts : Nat → Addr := fun j => (ps[j]?.map fun t => t.1).getD 0
  let vals : Nat → Array Value := fun j => (ps[j]?.map fun t => (#[t.2.1, t.2.2] : Array Value)).getD #[.none, .none]
  let items : Array Value := (ps.map fun q => Value.ref q.1).toArray
  have hsz : items.size = ps.length := by simp [items]
  have at' : ∀ j, j < ps.length → ∃ t, ps[j]? = some t ∧ t ∈ ps := fun j hj => ⟨ps[j], by simp [hj], List.getElem_mem hj⟩
  have hTs : ∀ j, j < items.size → h₃.IsTuple (Ts j) (vals j) := fun j hj => by
    obtain ⟨t, e, hm⟩ := at' j (hsz ▸ hj)
    simp only [Ts, vals, e, Option.map_some, Option.getD_some]
    exact ⟨_, mem' (hps t hm) (hqt t hm), rfl, _, rfl⟩
  have hTlt : ∀ j, j < items.size → Ts j < s.heap.objs.size := fun j hj => by
    obtain ⟨t, e, hm⟩ := at' j (hsz ▸ hj)
    simp only [Ts, e, Option.map_some, Option.getD_some]
    exact Heap.lt_size (N _ (hps t hm)).1
  have hit : ∀ j, j < items.size → items[j]? = some (.ref (Ts j)) := fun j hj => by
    obtain ⟨t, e, _⟩ := at' j (hsz ▸ hj)
    simp [items, Ts, e]
  have W := fun (A' : Around) (hA : A'.handled = none) => walkPairs (prog := prog) (w := w) hA s.heap.objs.size x (Nat.ne_of_lt hxs) items Ts vals hit fun j hj => Nat.ne_of_lt (hTlt j hj)
  have hcst : cStatics < s.heap.objs.size := let ⟨_, hn, _⟩ := lim; hn.lt
  refine ⟨_, _, _, items.size, _, _, _, fun _ => true, Fy, rfl, W, ?_, ?_, ?_, lim3, ?_, ?_, ?_⟩
  · rintro i v ⟨hi, rfl⟩
    obtain ⟨t, e, _⟩ := at' i (hsz ▸ hi)
    exact ⟨t.2.1, t.2.2, by simp [vals, e]⟩
  · exact ⟨hi3, ⟨_, n, mem' hx hxt, rfl⟩, hTs⟩
  · intro b hb
    show b < h₃.objs.size
    rcases List.mem_cons.mp hb with rfl | hb
    · exact hsz3
    · rcases List.mem_cons.mp hb with rfl | hb
      · exact Nat.lt_trans hxs hsz3
      · obtain ⟨k, hk, rfl⟩ := List.mem_map.mp hb
        exact Nat.lt_trans (hTlt k (List.mem_range.mp hk)) hsz3
  · intro hb
    rw [List.mem_singleton] at hb
    exact absurd hcst (by rw [hb]; exact Nat.lt_irrefl _)
  · intro href hrk
    refine ⟨fun A' E' i va vb s₂ m₂ _ _ _ _ _ _ _ _ => ?_, fun A' E' i va vb s₂ m₂ hA hd hu hP _ hns hva hvb hk => ?_⟩
    · exact wpAny_pure ⟨rfl, s₂.heap, s₂.toks, rfl, fun _ _ e => e⟩
    · obtain ⟨hi, ev⟩ := hP
      obtain ⟨t, e, hm⟩ := at' i (hsz ▸ hi)
      simp only [vals, e, Option.map_some, Option.getD_some] at ev
      obtain ⟨e1, e2⟩ : va = t.2.1 ∧ vb = t.2.2 := by simpa using congrArg Array.toList ev
      subst e1 e2
      have kb : ∀ b ob, h₀.get? b = some ob → s₂.heap.get? b = some ob := fun b ob eb => by
        have e3 := F3.keep b ob eb
        refine hk b (List.mem_range.mpr (Heap.lt_size e3)) ?_ ob (hrk b ob e3)
        intro hb
        rw [List.mem_singleton] at hb
        have l1 := Nat.lt_of_lt_of_le (Heap.lt_size eb) F.above
        have l2 := Nat.lt_trans l1 F.ns.lt
        rw [hb] at l2
        exact Nat.lt_irrefl _ l2
      refine helt code h₃.objs.size A' E' i t s₂ m₂ hA hd hu e ⟨hns, kb, ?_⟩ hva hvb
      exact Nat.le_of_lt (Nat.lt_of_le_of_lt F.above (Nat.lt_trans F.ns.lt hsz3))
  · intro a h₅ tk' gs hb hlt h5s keep5 WS hG
    have F5 : Fr h₀ L h₅ m := F3.keeps keep5
    have N5 : News h₀ L h₅ (g o') := N3.grown fun b ob e => keep5 b ob e
    have hgsz : ∀ q ∈ g o', q.1 < s.heap.objs.size := fun q hq => by
      obtain ⟨own, h1, h2, h3, h4⟩ := updF_own U
      rcases h4 o' q hq with rfl | hq
      · exact Heap.lt_size (N _ htab).1
      · exact Heap.lt_size (N _ (h1 q hq)).1
    refine h a h₅ tk' _ o' F5 hto N5 (G.push hb) ?_
    have el : (passing (fun _ => true) items.size 0).length = ps.length := by rw [passing_all, List.length_range, hsz]
    rw [el] at WS
    refine ⟨_, _, _, _, WS.imp (P' := Fy) (fun j y hy => ?_), hG, ?_, List.mem_cons_self, ?_, ?_, ?_⟩
    · obtain ⟨i, hi, hF⟩ := hy
      rw [passing_all] at hi
      have : i = j := by
        have hj : j < items.size := by
          rcases Nat.lt_or_ge j items.size with q | q
          · exact q
          · rw [List.getElem?_eq_none (by simpa using q)] at hi; cases hi
        rw [List.getElem?_range hj] at hi
        exact (Option.some.inj hi).symm
      exact this ▸ hF
    · intro i s' st
      obtain ⟨⟨ob, nm, qn, hob, hc, r⟩, _⟩ := st
      exact ⟨ob, hob, hc⟩
    · intro b hb
      show b < h₅.objs.size
      rw [h5s]
      rcases List.mem_cons.mp hb with rfl | hb
      · exact Nat.lt_succ_self _
      · rcases List.mem_cons.mp hb with rfl | hb
        · exact Nat.lt_succ_of_lt hlt
        · exact Nat.lt_succ_of_lt (Nat.lt_trans (List.mem_range.mp hb) hlt)
    · intro b hb
      have lL := F.ns.lt
      rcases List.mem_cons.mp hb with rfl | hb
      · exact Nat.lt_trans lL hsz3
      · rw [List.mem_singleton] at hb; subst hb; exact lL
    · intro q hq hb
      have l := hgsz q hq
      rcases List.mem_cons.mp hb with e | hb
      · rw [e] at l; exact Nat.lt_irrefl _ (Nat.lt_trans l hsz3)
      · rw [List.mem_singleton] at hb; rw [hb] at l; exact Nat.lt_irrefl _ l
end
end
section
theorem off_RKq : True := by
  k_with_none
  trivial
open PySem PySem.W PyProof.Rows PySem.Calls
section
variable {prog : Program} {w : World} {A : Around} {E : Value → Shared → Prop} {s : Shared} {I : Addr} {fp wr : List Addr} {G : Array GenState → Array GenState → Prop} {n : Nat} {P : Nat → Value → Prop} {St : Nat → Shared → Prop}
theorem walkShift (W : WalksS prog w A I fp wr G n P St) : WalksS prog w A I fp wr G (n + 1) (fun i v => 0 < i ∧ P (i - 1) v) (fun i s => 0 < i ∧ St (i - 1) s) where
  sub := W.sub
  grefl := W.grefl
  gtrans := W.gtrans
  frame := fun i s h' tk st a b => ⟨st.1, W.frame (i - 1) s h' tk st.2 a b⟩
  item := fun i s Q E hi st hQ => by
    obtain ⟨hp, st⟩ := st
    refine W.item (i - 1) s Q E (Nat.sub_lt_left_of_lt_add hp (Nat.add_comm n 1 ▸ hi)) st fun v s' hP hst hm => hQ v s' ⟨hp, hP⟩ ⟨Nat.succ_pos i, ?_⟩ hm
    rw [show i + 1 - 1 = i - 1 + 1 from (Nat.sub_add_cancel hp).symm]; exact hst
  done := fun s Q E st hQ => W.done s Q E (by have := st.2; exact this) hQ
  self := fun i s Q E st hQ => W.self (i - 1) s Q E st.2 hQ
theorem preSum_shift (val : Nat → Int) (i : Int) : ∀ k, preSum (fun j => if j = 0 then i else val (j - 1)) (k + 1) = i + preSum val k
  | 0 => by simp [preSum]
  | k + 1 => by
    rw [show preSum (fun j => if j = 0 then i else val (j - 1)) (k + 1 + 1) = preSum (fun j => if j = 0 then i else val (j - 1)) (k + 1) + (if k + 1 = 0 then i else val (k + 1 - 1)) from rfl, preSum_shift val i k]
    simp [preSum, Int.add_assoc]
theorem args_sum2 (a b : Value) : argsOk "sum" ⟨[a, b], []⟩ := by unfold argsOk; kernel_rfl
theorem sum_start {i : Int} {t : Tok} {Q : Value → Shared → Prop} (W : WalksS prog w A.in1 I fp wr G n P St) (hst : St 0 s) (hfp : ∀ b ∈ fp, b < s.heap.objs.size) (val : Nat → Int) (hval : ∀ j v, P j v → ∃ t, v = .int (val j) t)
    (hQ : ∀ s' t', Moved wr G s s' → Q (.int (i + preSum val n) t') s') : wpAny (model prog w) A (call (.builtin "sum") [.ref I, .int i t]) Q E s := by
  refine call_function_tree PySem.F.kind_sum PySem.F.plain_sum PySem.F.entry_sum (args_sum2 _ _) ?_
  unfold Builtin.«sum»
  rw [if_neg (by simp only [List.length_cons, List.length_nil]; decide)]
  refine wpAny_bind (wpAny_of_eq (show Builtin.Builtins.bindParams "sum" ["start"] 0 ⟨[.int i t], []⟩ = pure [some (.int i t)] from rfl) ?_)
  refine wpAny_bind (W.self 0 s _ _ hst ?_)
  have hSf : s.heap.objs.size ∉ fp := fun hm => Nat.lt_irrefl _ (hfp _ hm)
  have e1 : preSum (fun j => if j = 0 then i else val (j - 1)) 1 = i := by simp [preSum]
  dsimp only
  split
  · refine wpAny_bind (wpAny_rule (wpAny_bind (wpAny_mkInt (wpAny_bind (wpAny_pure ?_)))))
    rw [List.forIn_cons]
    refine wpAny_bind (wpAny_bind (wpAny_bind (wpAny_isInstance (T := "int") (b := false) (typeIs_int _ _ _) PySem.sub_int_str ?_)))
    rw [if_neg Bool.false_ne_true]
    refine wpAny_pure ?_
    dsimp only
    rw [List.forIn_cons]
    refine (wpAny_bind (wpAny_bind (wpAny_isInstance (T := "int") (b := false) (typeIs_int _ _ _) sub_int_bytes ?_)))
    rw [if_neg Bool.false_ne_true]
    refine wpAny_pure ?_
    dsimp only
    rw [List.forIn_cons]
    refine (wpAny_bind (wpAny_bind (wpAny_isInstance (T := "int") (b := false) (typeIs_int _ _ _) sub_int_bytearray ?_)))
    rw [if_neg Bool.false_ne_true]
    refine wpAny_pure ?_
    dsimp only
    rw [List.forIn_nil]
    refine (wpAny_pure (wpAny_bind (wpAny_newObj_type ?_)))
    refine wpAny_pure ⟨plainId_quiet PySem.F.plain_sum_loop _, codeAny_sum_loopAnyS (walkShift W) (fun j => if j = 0 then i else val (j - 1)) ?_ s.heap.objs.size hSf n 1 _ _ 0 _ (.inl rfl) (by omega) (by omega)
      ⟨by omega, W.frame 0 s _ _ hst (by first | exact Nat.le_refl _ | exact Nat.le_succ _) fun b _ o e => Heap.get?_push_of_some _ e⟩ (by rw [e1]; exact Heap.get?_push_size _ rfl) fun s' t' hm => ?_⟩
    · rintro j v ⟨hj, hP⟩
      obtain ⟨t', rfl⟩ := hval _ _ hP
      exact ⟨t', by simp [Nat.ne_of_gt hj]⟩
    · rw [preSum_shift]
      exact hQ s' t' (hm.drop_new (by first | exact Nat.le_refl _ | exact Nat.le_succ _))
  · refine wpAny_bind (wpAny_pure ?_)
    rw [List.forIn_cons]
    refine wpAny_bind (wpAny_bind (wpAny_bind (wpAny_isInstance (T := "int") (b := false) (typeIs_int _ _ _) PySem.sub_int_str ?_)))
    rw [if_neg Bool.false_ne_true]
    refine wpAny_pure ?_
    dsimp only
    rw [List.forIn_cons]
    refine (wpAny_bind (wpAny_bind (wpAny_isInstance (T := "int") (b := false) (typeIs_int _ _ _) sub_int_bytes ?_)))
    rw [if_neg Bool.false_ne_true]
    refine wpAny_pure ?_
    dsimp only
    rw [List.forIn_cons]
    refine (wpAny_bind (wpAny_bind (wpAny_isInstance (T := "int") (b := false) (typeIs_int _ _ _) sub_int_bytearray ?_)))
    rw [if_neg Bool.false_ne_true]
    refine wpAny_pure ?_
    dsimp only
    rw [List.forIn_nil]
    refine (wpAny_pure (wpAny_bind (wpAny_newObj_type ?_)))
    refine wpAny_pure ⟨plainId_quiet PySem.F.plain_sum_loop _, codeAny_sum_loopAnyS (walkShift W) (fun j => if j = 0 then i else val (j - 1)) ?_ s.heap.objs.size hSf n 1 _ _ 0 _ (.inr rfl) (by omega) (by omega)
      ⟨by omega, W.frame 0 s _ _ hst (by first | exact Nat.le_refl _ | exact Nat.le_succ _) fun b _ o e => Heap.get?_push_of_some _ e⟩ (by rw [e1]; exact Heap.get?_push_size _ rfl) fun s' t' hm => ?_⟩
    · rintro j v ⟨hj, hP⟩
      obtain ⟨t', rfl⟩ := hval _ _ hP
      exact ⟨t', by simp [Nat.ne_of_gt hj]⟩
    · rw [preSum_shift]
      exact hQ s' t' (hm.drop_new (by first | exact Nat.le_refl _ | exact Nat.le_succ _))
end
section
variable {prog : Program} {w : World} {A : Around} {E : Value → Shared → Prop} {s : Shared} {h₀ : Heap} {L a : Addr} {m : Str → Option Value} {news : List (Addr × Obj)} {n : Nat} {Fy : Nat → Value → Prop} {Q : Value → Shared → Prop}
theorem moved_keep {s' : Shared} {fp wr : List Addr} {g : Nat} (F : Fr h₀ L s.heap m) (N : News h₀ L s.heap news) (G : AllBare s.gens) (hm : Moved wr (GenOnlyQ g) s s') (h1 : ∀ b ∈ wr, L < b) (h2 : ∀ p ∈ news, p.1 ∉ wr) :
    ∃ h' tk gs, s' = { s with heap := h', toks := tk, gens := gs } ∧ Fr h₀ L h' m ∧ News h₀ L h' news ∧ AllBare gs := by
  refine ⟨s'.heap, s'.toks, s'.gens, ?_, F.moved hm h1, fun p hp => ⟨hm.heap _ _ (h2 p hp) (N p hp).1, (N p hp).2⟩, G.movedS hm⟩
  have e1 := hm.drawn
  have e2 := hm.os
  cases s'; cases s; cases e1; cases e2; rfl
theorem gen_sum {val : Nat → Int} {i : Int} {t : Tok} (F : Fr h₀ L s.heap m) (N : News h₀ L s.heap news) (G : AllBare s.gens) (X : GenP prog w A L a n Fy news s) (hval : ∀ j v, Fy j v → ∃ t, v = .int (val j) t)
    (hQ : ∀ h' tk gs t', Fr h₀ L h' m → News h₀ L h' news → AllBare gs → Q (.int (i + preSum val n) t') { s with heap := h', toks := tk, gens := gs }) : wpAny (model prog w) A (call (.builtin "sum") [.ref a, .int i t]) Q E s := by
  obtain ⟨fp, wr, g, St, W, hst, _, _, hfp, h1, h2⟩ := X
  refine sum_start W.in4_1 hst hfp val hval fun s' t' hm => ?_
  obtain ⟨h', tk, gs, rfl, F', N', G'⟩ := moved_keep (fp := fp) F N G hm h1 h2
  exact hQ h' tk gs t' F' N' G'
theorem gen_join {f : Nat → Str} {sep : Str} {t : Tok} (F : Fr h₀ L s.heap m) (N : News h₀ L s.heap news) (G : AllBare s.gens) (X : GenP prog w A L a n Fy news s) (hval : ∀ j v, Fy j v → ∃ t, v = .str (f j) t)
    (hok : JoinOk sep ((List.range n).map f) = true) (hsz : n ≤ sizeLine)
    (hQ : ∀ h' tk gs t', Fr h₀ L h' m → News h₀ L h' news → AllBare gs → Q (.str (Txt.join sep ((List.range n).map f)) t') { s with heap := h', toks := tk, gens := gs }) : wpAny (model prog w) A (call (.builtin "str.join") [.str sep t, .ref a]) Q E s := by
  obtain ⟨fp, wr, g, St, W, hst, hT, hI, hfp, h1, h2⟩ := X
  refine SC.joinGen W.in4_2 hT hst hfp hI (fun j v hv => ⟨_, hval j v hv⟩) (fun s' l hm hi => ?_) hsz
  have e : l.map (·.1) = (List.range n).map f := by
    have hl : l.length = n := by have := hi.1; simpa [strValues] using this
    apply List.ext_getElem?
    intro j
    rcases Nat.lt_or_ge j n with hj | hj
    · have hj' : j < l.length := by omega
      obtain ⟨t', et⟩ := hval j _ (hi.2 j (.str l[j].1 l[j].2) (by simp [strValues, hj']))
      have : l[j].1 = f j := by injection et
      simp [hj', this, List.getElem?_range hj]
    · rw [List.getElem?_eq_none (by simp; omega), List.getElem?_eq_none (by simp; omega)]
  rw [e]
  refine ⟨hok, fun t' k => ?_⟩
  obtain ⟨h', tk, gs, rfl, F', N', G'⟩ := moved_keep (fp := fp) F N G hm h1 h2
  exact hQ h' k gs t' F' N' G'
end
end
section
theorem off_CAq : True := by
  k_with_none
  trivial
open PySem PySem.W PyProof.Rows PySem.Calls
theorem on_CAq0 : True := by
 k_with_none
 k_with "ax" => first | assumption | exact ja0 ‹_› | exact ja1 ‹_› | exact je1 ‹_› | exact ja2 ‹_› | exact ja3 ‹_› | exact ja4 ‹_› | exact ja5 ‹_› | exact je5 ‹_› | exact ja6 ‹_› | exact ja7 ‹_› | exact je7 ‹_› | exact ja8 ‹_› | exact ja9 ‹_› | exact je13 ‹_› | exact je14 ‹_›
 k_with "nx" => with_reducible (first | (refine Nat.ne_of_lt ?_; (repeat (first | exact js | refine jl ?_)); all_goals k_extra "ax") | (refine Nat.ne_of_gt ?_; (repeat (first | exact js | refine jl ?_)); all_goals k_extra "ax") | k_extra "ax" | (refine Ne.symm ?_; k_extra "ax"))
 k_with "rm" => ((with_reducible first | exact room0 ‹_› | refine room1 ‹_› ?_ | refine room2 ‹_› ?_ | refine room3 ‹_› ?_ | refine room4 ‹_› ?_); all_goals exact rfl)
 k_with "om" => first | (with_reducible first | k_extra "ax" | exact jn ‹_› | exact jn (ja0 ‹_›) | (refine Nat.lt_trans ?_ ‹_›; k_extra "ax")) | decide | omega
 k_with "hk" => (with_reducible first | (refine hKq _ _ ?_; clear hKq; (try clear Kq)))
 k_with "q:execs cons" => (k_here; (with_reducible refine execs_consK ?_); intro Kq tkq hKq)
 k_with "q:k_ne" => (refine neN ?_; (try dsimp only); first | k_extra "nx" | omega)
 k_with "q:sub9" => row_timed "f" (fail; (repeat' (first | (refine fm (by k_mem) ?_) | exact List.forall_mem_nil _ | (intro pZ hpZ; (repeat (first | with_reducible_and_instances exact hpZ | with_reducible_and_instances exact List.mem_append_right _ hpZ | refine List.Mem.tail _ ?_)); done) | exact fun _ hpZ => hpZ | (intro pZ hpZ; (repeat (first | exact hpZ | exact List.mem_append_right _ hpZ | refine List.Mem.tail _ ?_))))))
 k_with "q:k_room" => row_timed "f" (fail; ((try simp only [depth_under_make, depth_under_kw, depth_in1, depth_deeper]); (try dsimp only); first | k_extra "rm" | omega))
 k_with "q:k_units" => row_timed "f" (fail; ((try simp only [Around.deeper_units, Around.in1_units, Around.mark_units]); (try dsimp only); first | k_extra "rm" | omega))
 k_with "q:k_mem" => row_timed "f" (fail; (with_reducible_and_instances (repeat (first | exact List.Mem.head _ | refine List.Mem.tail _ ?_)); done))
 k_with "q:wpAt" => row_timed "f" (fail; (k_dflt (refine ks_wpAt_MethodCall ?_)))
 k_with "q:wpAt" => row_timed "f" (fail; (with_reducible refine ks_wpAt_execs_cons ?_))
 k_with "q:getMethod ref" => row_timed "f" (fail; (k_here; k_dflt (refine' methodL_fn ?k1Z ?k2Z ?k3Z (z227_get _) ?k5Z ?k6Z ?k7Z ?_; (case k1Z | k2Z => k_asm); (case k3Z => refine' instAcc_news ?NZ ?h1Z ?h2Z; (case NZ => k_asm); (case h1Z | h2Z => k_mem)); (case k5Z | k6Z => k_is); (case k7Z => k_get); k_whole)))
 k_with "q:getAttr ref" => row_timed "f" (fail; (k_here; k_dflt (refine' getL_own ?k1Z ?k2Z ?k3Z (z227 _) (z227_get _) ?k4Z ?k5Z ?k6Z ?k7Z ?k8Z ?_; (case k1Z | k2Z => k_asm); (case k3Z => refine' instAcc_news ?NZ ?h1Z ?h2Z; (case NZ => k_asm); (case h1Z | h2Z => k_mem)); (case k4Z | k5Z | k6Z => k_is); (case k7Z => k_get); (case k8Z => k_handed); k_whole)))
 k_with "q:k_inst" => row_timed "f" (fail; (refine' instAcc_news ?NZ ?h1Z ?h2Z; (case NZ => k_asm); (case h1Z | h2Z => k_mem)))
 k_with "q:getMethod ref" => row_timed "f" (fail; (k_here; (with_reducible show wpAny _ _ (getMethod (Value.ref _) (Str.ofString "append") _) _ _ _); k_dflt (refine' method_bi ?k1Z ?k2Z ?k3Z (z227_get _) ?k5Z ty_append (.inl rfl) ?k7Z ?_; (case k1Z | k2Z => k_asm); (case k3Z => k_inst); (case k5Z => k_is); (case k7Z => k_get); k_whole)))
 k_with "q:getMethod ref" => row_timed "f" (fail; (k_here; (with_reducible show wpAny _ _ (getMethod (Value.ref _) (Str.ofString "__len__") _) _ _ _); k_dflt (refine' super_len ?k1Z ?k2Z ?k3Z ?k4Z ?k5Z (z227 _) ?k6Z ?k7Z ?_; (case k1Z | k2Z | k3Z => k_asm); (case k4Z => k_mem); (case k5Z => k_inst); (case k6Z => k_is); (case k7Z => kernel_rfl); k_whole); intro q'Z h'Z F'Z N'Z l1Z; (try k_lt l1Z)))
 k_with "q:callWith ref" => row_timed "f" (fail; (k_here; k_dflt (first | (refine' callWith_B0 (.inr rfl) (BoundAt.of ?k1Z ?k2Z) ?_; (case k1Z => k_asm); (case k2Z => k_mem); k_whole) | (refine' callWith_B0 (.inl rfl) (BoundAt.of ?k1Z ?k2Z) ?_; (case k1Z => k_asm); (case k2Z => k_mem); k_whole)); (show wpAny _ _ (call (Value.ref _) []) _ _ _)))
 k_with "q:call builtin:list.append" => row_timed "f" (fail; (k_here; (with_reducible show wpAny _ _ (call (Value.builtin _) [Value.ref _, _]) _ _ _); k_dflt (refine' acc_append_K ?k1Z ?k2Z ?k3Z (z227 _) ?k4Z ?zZ ?_; (case k1Z | k2Z | k3Z => k_asm); (case k4Z => k_updF); (case zZ => (try simp only [List.size_toArray]); k_extra "om"); k_whole); intro h'Z F'Z N'Z; (try dsimp only at N'Z); (try k_sweep)))
 k_with "q:call ref" => row_timed "f" (fail; (k_here; (with_reducible show wpAny _ _ (call (Value.ref _) []) _ _ _); k_dflt (refine' acc_len_K ?k3Z ?k4Z ?k5Z ?_; (case k3Z => k_asm); (case k4Z | k5Z => k_mem); k_whole)))
 trivial
noncomputable def RetBack (Q : Value → Shared → Prop) (E : Value → Shared → Prop) (r : Result) (s' : Shared) : Prop := match r with
  | .ok (.ret v) => Q v s'
  | .ok _ => False
  | .error e => E e s'
theorem call_back {M : Model} {A : Around} {f : Value} {args : List Value} {Q : Value → Shared → Prop} {E : Value → Shared → Prop} {s : Shared} (h : codeAny M A (.call f ⟨args, []⟩) (RetBack Q E) s) : wpAny M A (call f args) Q E s :=
  wpAny_call (codeAny_mono h fun r s' hr => by rcases r with e | (v | _ | _ | _) <;> exact hr)
noncomputable abbrev accD (P : Params) (t : Tok) (i : Int) (u : Tok) : Obj := dictOf [⟨PyData.keyHash P "_initial_size", .str "_initial_size" t, .int i u⟩] 1
theorem accD_ne {P : Params} {t u : Tok} {i : Int} {C dx : Addr} {a : Array Value} {k : Nat} : accD P t i u ≠ accO C dx a k := fun e => by cases congrArg Obj.cls e
section
variable {w : World} {A₀ : Around} {base h₀ : Heap} {env : Env} {outer : List Env} {dd uu : Nat} {gs : Option (List Code)} {L : Addr} {m mg mb : Str → Option Value} {s : Shared} {own : List (Addr × Obj)} {p : Program} {loose : List Str} {mean : ExcName → Option Value} {Q : Value → Shared → Prop} {E : Value → Shared → Prop}
  (B : Below A₀ base outer h₀) (F : Fr h₀ L s.heap m) (KX : (Mine.hd.heap_1 w.params).In h₀) (T : Top p loose mean mg mb h₀) (hf : env.frame = some L) (hke : env.scope.kind = .function)
include B F KX T hf hke
variable {x dx : Addr} {xs : List Value} {n : Nat} {t u : Tok} {i : Int}
theorem part_count_in (N : News h₀ L s.heap ((x, accO 227 dx xs.toArray n) :: (dx, accD w.params t i u) :: own))
   (hd : dd + 20 < recursionLimit) (hu : uu + 200 < cLine)
   (h : ∀ h' tk tv, Fr h₀ L h' m → News h₀ L h' ((x, accO 227 dx xs.toArray n) :: (dx, accD w.params t i u) :: own) → Q (.int xs.length tv) { s with heap := h', toks := tk }) :
   wpAny (model rw_wn0107_02.row.toRowW.prog w) ⟨none, dd, some (env :: outer), gs, uu⟩ (call (.ref 224) [.ref x]) Q E s := by
  revert KX; k_fill; intro KX
  refine wpAny_call ?_
  refine' ks_code_super ?k1 ?k2 ?k3 ?k4 ?k5 ?kA ?kF ?kK ?k6 ?k7 ?k8 ?k9 ?kB ?_ ?c1 ?c2 ?c3 ?c4
  case kA => exact rfl
  case kF => exact hf
  case kK => exact hke
  case k1 => k_asm
  case k2 => k_asm
  case k3 => k_asm
  case k4 => k_asm
  case k5 => k_asm
  case k6 => k_is
  case k7 => k_is
  case k8 => show dd < recursionLimit; first | exact room0 (by assumption) | k_extra "om"
  case k9 => first | exact BindsTo.of_eq rfl | exact binds_K (by k_in) rfl (by k_is) rfl rfl rfl
  case kB => exact locs rfl
  case c1 => decide
  case c2 => exact rfl
  case c3 => exact rfl
  case c4 => exact rfl
  intro g' L' h' FG' F' N' B' X' T' l1; (try k_lt l1); (try dsimp only); (try k_lift B'); clear B F KX N T FG'
  k_steps
  refine leaveK_ (by k_asm) (by k_asm) fun kF kN => ?_
  simp only [List.size_toArray]
  exact h _ _ _ kF (subN kN (by walk_at "sub9"))
theorem push_code {f v : Value} (N : News h₀ L s.heap ((x, accO 227 dx xs.toArray n) :: (dx, accD w.params t i u) :: own)) (hne : @Ne Nat dx x) (ho : OwnOff own [x])
   (hd : dd + 20 < recursionLimit) (hu : uu + 200 < cLine) (hsz : xs.length ≤ 900)
   (h : ∀ h' tk n' tp, Fr h₀ L h' m → News h₀ L h' ((tp, tupL [f, v]) :: (x, accO 227 dx (xs ++ [Value.ref tp]).toArray n') :: (dx, accD w.params t i u) :: own) → x < tp → dx < tp → (∀ p ∈ own, p.1 < tp) → Q .none { s with heap := h', toks := tk }) :
   codeAny (model rw_wn0107_02.row.toRowW.prog w) ⟨none, dd, some (env :: outer), gs, uu⟩ (.call (.ref 171) ⟨[.ref x, f, v], []⟩) (RetBack Q E) s := by
  revert KX; k_fill; intro KX
  refine' code_def ?k1 ?k2 ?k3 ?k4 ?k5 ?kA ?kF ?kK ?k6 ?k7 ?k8 ?k9 ?kB ?_ ?c2 ?c3 ?c4 ?c5
  case kA => exact rfl
  case kF => exact hf
  case kK => exact hke
  case k1 => k_asm
  case k2 => k_asm
  case k3 => k_asm
  case k4 => k_asm
  case k5 => k_asm
  case k6 => k_is
  case k7 => k_is
  case k8 => show dd < recursionLimit; first | exact room0 (by assumption) | k_extra "om"
  case k9 => first | exact BindsTo.of_eq rfl | exact binds_K (by k_in) rfl (by k_is) rfl rfl rfl
  case c5 => decide
  case kB => exact locs rfl
  case c2 => exact rfl
  case c3 => exact rfl
  case c4 => exact rfl
  k_whole; intro g' L' h' FG' F' N' B' X' T'; (try dsimp only); (try k_lift B'); (try k_fold); clear B F KX N T FG'
  k_steps
  refine leaveK_ (by k_asm) (by k_asm) fun kF kN => ?_
  simp only [List.push_toArray] at kN
  rename _ ∧ _ ∧ AllLt _ _ => l1
  exact h _ _ _ _ kF (subN kN (by walk_at "sub9")) l1.1 l1.2.1 (allLt_all l1.2.2)
theorem part_count_K {news : List (Addr × Obj)} (N : News h₀ L s.heap news) (hx : (x, accO 227 dx xs.toArray n) ∈ news) (hdx : (dx, accD w.params t i u) ∈ news)
   (hd : dd + 20 < recursionLimit) (hu : uu + 200 < cLine)
   (h : ∀ h' tk tv, Fr h₀ L h' m → News h₀ L h' news → Q (.int xs.length tv) { s with heap := h', toks := tk }) :
   wpAny (model rw_wn0107_02.row.toRowW.prog w) ⟨none, dd, some (env :: outer), gs, uu⟩ (call (.ref 224) [.ref x]) Q E s :=
  part_count_in (own := news) B F KX T hf hke (subN N (by exact fm hx (fm hdx (fun _ hp => hp)))) hd hu fun h' tk tv F' N' => h h' tk tv F' (subN N' (by walk_at "sub9"))
theorem push_KC {news : List (Addr × Obj)} {g : Obj → List (Addr × Obj)} {f v : Value} (N : News h₀ L s.heap news) (hdx : (dx, accD w.params t i u) ∈ news) (U : UpdF x (accO 227 dx xs.toArray n) news g)
   (hd : dd + 20 < recursionLimit) (hu : uu + 200 < cLine) (hsz : xs.length ≤ 900)
   (h : ∀ h' tk n' tp, Fr h₀ L h' m → News h₀ L h' ((tp, tupL [f, v]) :: g (accO 227 dx (xs ++ [Value.ref tp]).toArray n')) → (∀ p ∈ news, p.1 < tp) → Q .none { s with heap := h', toks := tk }) :
   codeAny (model rw_wn0107_02.row.toRowW.prog w) ⟨none, dd, some (env :: outer), gs, uu⟩ (.call (.ref 171) ⟨[.ref x, f, v], []⟩) (RetBack Q E) s := by
  obtain ⟨own, h1, h2, h3, h4⟩ := updF_own U
  refine push_code (own := own) B F KX T hf hke (subN N (fm (updF_mem U) (fm hdx h1))) (updF_ne U hdx accD_ne) h2 hd hu hsz fun h' tk n' tp F' N' a b c => h h' tk n' tp F' (subN N' fun p hp => ?_) fun p hp => ?_
  · rcases List.mem_cons.mp hp with rfl | hp
    · exact .head _
    · rcases h4 _ p hp with rfl | hp
      · exact .tail _ (.head _)
      · exact .tail _ (.tail _ (.tail _ hp))
  · rcases h3 p hp with rfl | hp
    · exact a
    · exact c p hp
theorem push_K {news : List (Addr × Obj)} {g : Obj → List (Addr × Obj)} {f v : Value} (N : News h₀ L s.heap news) (hdx : (dx, accD w.params t i u) ∈ news) (U : UpdF x (accO 227 dx xs.toArray n) news g)
   (hd : dd + 20 < recursionLimit) (hu : uu + 200 < cLine) (hsz : xs.length ≤ 900)
   (h : ∀ h' tk n' tp, Fr h₀ L h' m → News h₀ L h' ((tp, tupL [f, v]) :: g (accO 227 dx (xs ++ [Value.ref tp]).toArray n')) → (∀ p ∈ news, p.1 < tp) → Q .none { s with heap := h', toks := tk }) :
   wpAny (model rw_wn0107_02.row.toRowW.prog w) ⟨none, dd, some (env :: outer), gs, uu⟩ (call (.ref 171) [.ref x, f, v]) Q E s :=
  call_back (push_KC B F KX T hf hke N hdx U hd hu hsz h)
end
end
section
theorem off_CBq : True := by
  k_with_none
  trivial
open PySem PySem.W PyProof.Rows PySem.Calls
theorem on_CBq0 : True := by
 k_with_none
 k_with "ax" => first | assumption | exact ja0 ‹_› | exact ja1 ‹_› | exact je1 ‹_› | exact ja2 ‹_› | exact ja3 ‹_› | exact ja4 ‹_› | exact ja5 ‹_› | exact je5 ‹_› | exact ja6 ‹_› | exact ja7 ‹_› | exact je7 ‹_› | exact ja8 ‹_› | exact ja9 ‹_› | exact je13 ‹_› | exact je14 ‹_›
 k_with "nx" => with_reducible (first | (refine Nat.ne_of_lt ?_; (repeat (first | exact js | refine jl ?_)); all_goals k_extra "ax") | (refine Nat.ne_of_gt ?_; (repeat (first | exact js | refine jl ?_)); all_goals k_extra "ax") | k_extra "ax" | (refine Ne.symm ?_; k_extra "ax"))
 k_with "rm" => ((with_reducible first | exact room0 ‹_› | refine room1 ‹_› ?_ | refine room2 ‹_› ?_ | refine room3 ‹_› ?_ | refine room4 ‹_› ?_); all_goals exact rfl)
 k_with "om" => first | (with_reducible first | k_extra "ax" | exact jn ‹_› | exact jn (ja0 ‹_›) | (refine Nat.lt_trans ?_ ‹_›; k_extra "ax")) | decide | omega
 k_with "q:k_ne" => (refine neN ?_; (try dsimp only); first | k_extra "nx" | omega)
 k_with "q:sub9" => row_timed "f" (fail; (repeat' (first | (refine fm (by k_mem) ?_) | exact List.forall_mem_nil _ | (intro pZ hpZ; (repeat (first | with_reducible_and_instances exact hpZ | with_reducible_and_instances exact List.mem_append_right _ hpZ | refine List.Mem.tail _ ?_)); done) | exact fun _ hpZ => hpZ | (intro pZ hpZ; (repeat (first | exact hpZ | exact List.mem_append_right _ hpZ | refine List.Mem.tail _ ?_))))))
 k_with "q:k_room" => row_timed "f" (fail; ((try simp only [depth_under_make, depth_under_kw, depth_in1, depth_deeper]); (try dsimp only); first | k_extra "rm" | omega))
 k_with "q:k_units" => row_timed "f" (fail; ((try simp only [Around.deeper_units, Around.in1_units, Around.mark_units]); (try dsimp only); first | k_extra "rm" | omega))
 k_with "q:k_mem" => row_timed "f" (fail; (with_reducible_and_instances (repeat (first | exact List.Mem.head _ | refine List.Mem.tail _ ?_)); done))
 k_with "q:wpAt" => row_timed "f" (fail; (k_dflt (refine ks_wpAt_MethodCall ?_)))
 k_with "q:subscriptTail" => row_timed "f" (fail; (k_here; (with_reducible show wpAny _ _ (subscriptTail _ _ (Value.ref _) (Value.ref _)) _ _ _); k_dflt (refine' acc_slice_K ?k1Z ?k2Z ?k3Z (z227 _) ?k4Z ?k5Z ?p1Z ?p2Z ?zZ ?_ ?slZ; (case k1Z | k2Z | k3Z => k_asm); (case k4Z | k5Z => k_mem); (case p1Z | p2Z => first | exact .none | exact .int _ _); (case zZ => (try simp only [List.size_toArray]); k_extra "om"); (case slZ => with_unfolding_all rfl); k_whole); intro D'Z h'Z F'Z N'Z l1Z; (try k_lt l1Z); (try k_sweep)))
 k_with "q:setItem ref" => row_timed "f" (fail; (k_here; k_dflt (refine' acc_setSlice_K ?k1Z ?k2Z ?k3Z (z227 _) ?k4Z ?k5Z ?k6Z ?k7Z ?p1Z ?p2Z ?zZ ?z2Z ?bdZ ?_; (case k1Z | k2Z | k3Z => k_asm); (case k5Z => k_updF); (case k4Z | k6Z => k_mem); (case k7Z => k_ne); (case p1Z | p2Z => first | exact .none | exact .int _ _); (case zZ => (try simp only [List.size_toArray]); k_extra "om"); (case z2Z => (try simp only [List.length_nil]); k_extra "om"); (case bdZ => first | exact bd_all _ | exact bd_from (by (try simp only [List.size_toArray]); k_extra "om")); k_whole); intro h'Z n'Z F'Z N'Z; (try dsimp only at N'Z); (try k_sweep)))
 k_with "q:wpAt" => row_timed "f" (fail; (with_reducible refine ks_wpAt_execs_cons ?_))
 k_with "q:getMethod ref" => row_timed "f" (fail; (k_here; k_dflt (refine' methodL_fn ?k1Z ?k2Z ?k3Z (z227_get _) ?k5Z ?k6Z ?k7Z ?_; (case k1Z | k2Z => k_asm); (case k3Z => refine' instAcc_news ?NZ ?h1Z ?h2Z; (case NZ => k_asm); (case h1Z | h2Z => k_mem)); (case k5Z | k6Z => k_is); (case k7Z => k_get); k_whole)))
 k_with "q:getAttr ref" => row_timed "f" (fail; (k_here; k_dflt (refine' getL_own ?k1Z ?k2Z ?k3Z (z227 _) (z227_get _) ?k4Z ?k5Z ?k6Z ?k7Z ?k8Z ?_; (case k1Z | k2Z => k_asm); (case k3Z => refine' instAcc_news ?NZ ?h1Z ?h2Z; (case NZ => k_asm); (case h1Z | h2Z => k_mem)); (case k4Z | k5Z | k6Z => k_is); (case k7Z => k_get); (case k8Z => k_handed); k_whole)))
 k_with "q:k_inst" => row_timed "f" (fail; (refine' instAcc_news ?NZ ?h1Z ?h2Z; (case NZ => k_asm); (case h1Z | h2Z => k_mem)))
 k_with "q:getMethod ref" => row_timed "f" (fail; (k_here; (with_reducible show wpAny _ _ (getMethod (Value.ref _) (Str.ofString "pop") _) _ _ _); k_dflt (refine' super_pop ?k1Z ?k2Z ?k3Z ?k4Z ?k5Z (z227 _) ?k6Z ?k7Z ?_; (case k1Z | k2Z | k3Z => k_asm); (case k4Z => k_mem); (case k5Z => k_inst); (case k6Z => k_is); (case k7Z => kernel_rfl); k_whole); intro q'Z h'Z F'Z N'Z l1Z; (try k_lt l1Z)))
 k_with "q:callWith ref" => row_timed "f" (fail; (k_here; k_dflt (first | (refine' callWith_B0 (.inr rfl) (BoundAt.of ?k1Z ?k2Z) ?_; (case k1Z => k_asm); (case k2Z => k_mem); k_whole) | (refine' callWith_B0 (.inl rfl) (BoundAt.of ?k1Z ?k2Z) ?_; (case k1Z => k_asm); (case k2Z => k_mem); k_whole)); (show wpAny _ _ (call (Value.ref _) []) _ _ _)))
 k_with "q:call ref" => row_timed "f" (fail; (k_here; (with_reducible show wpAny _ _ (call (Value.ref _) []) _ _ _); k_dflt (refine' acc_pop_K ?k1Z ?k2Z ?k3Z (z227 _) ?k4Z ?k5Z ?k6Z (fun _ => z227_pop _ _) ?zZ ?_; (case k1Z | k2Z | k3Z => k_asm); (case k4Z => k_mem); (case k6Z => k_updF); (case k5Z => k_mem); (case zZ => k_extra "om"); k_whole); intro h'Z n'Z F'Z N'Z; (try dsimp only at N'Z); (try k_sweep)))
 k_with "q:setAttr ref" => row_timed "f" (fail; (k_here; k_dflt (refine' set_dictL ?k1Z ?k2Z ?k3Z ?k4Z ?k5Z ?k6Z (z227_over _) ?k8Z ?k9Z ?k10Z ?k11Z ?k12Z ?k13Z ?_; (case k1Z | k2Z | k3Z => k_asm); (case k4Z => k_inst); (case k5Z => exact rfl); (case k6Z | k8Z | k9Z => k_is); (case k10Z => k_get); (case k11Z => k_put); (case k12Z => k_upd); (case k13Z => exact Nat.le_of_ble_eq_true rfl); k_whole; intro h'Z F'Z N'Z; (try k_sweep))))
 k_with "q:call ref" => row_timed "f" (fail; (k_here; (with_reducible show wpAny _ _ (call (Value.ref 224) _) _ _ _); k_dflt (refine' part_count_K ?BZ ?FZ ?KXZ ?TZ ?hfZ ?hkeZ ?NZ ?hxZ ?hdxZ ?hdZ ?huZ ?_; (case BZ | FZ => k_asm); (case KXZ | TZ => k_asm); (case hfZ | hkeZ => exact rfl); (case NZ => k_asm); (case hxZ | hdxZ => k_mem); (case hdZ => k_room); (case huZ => k_units); k_whole); intro h'Z tk'Z tv'Z F'Z N'Z; (try dsimp only at N'Z); (try dsimp only); (try k_sweep)))
 trivial
section
variable {w : World} {A₀ : Around} {base h₀ : Heap} {env : Env} {outer : List Env} {dd uu : Nat} {gs : Option (List Code)} {L : Addr} {m mg mb : Str → Option Value} {s : Shared} {own : List (Addr × Obj)} {p : Program} {loose : List Str} {mean : ExcName → Option Value} {Q : Value → Shared → Prop} {E : Value → Shared → Prop}
  (B : Below A₀ base outer h₀) (F : Fr h₀ L s.heap m) (KX : (Mine.hd.heap_1 w.params).In h₀) (T : Top p loose mean mg mb h₀) (hf : env.frame = some L) (hke : env.scope.kind = .function)
include B F KX T hf hke
variable {x dx : Addr} {xs : List Value} {n : Nat} {t u : Tok} {i : Int}
theorem pop0_in (N : News h₀ L s.heap ((x, accO 227 dx #[] n) :: (dx, accD w.params t i u) :: own))
   (hd : dd + 30 < recursionLimit) (hu : uu + 300 < cLine)
   (h : ∀ h' tk tp t1 t2, Fr h₀ L h' m → News h₀ L h' ((tp, tupL [.str "" t1, .str "" t2]) :: (x, accO 227 dx #[] n) :: (dx, accD w.params t i u) :: own) → x < tp → dx < tp → (∀ p ∈ own, p.1 < tp) → Q (.ref tp) { s with heap := h', toks := tk }) :
   wpAny (model rw_wn0107_02.row.toRowW.prog w) ⟨none, dd, some (env :: outer), gs, uu⟩ (call (.ref 187) [.ref x]) Q E s := by
  have N := (show News h₀ L s.heap ((x, accO 227 dx ([] : List Value).toArray n) :: (dx, accD w.params t i u) :: own) from N)
  revert KX; k_fill; intro KX
  refine wpAny_call ?_
  refine' ks_code_super ?k1 ?k2 ?k3 ?k4 ?k5 ?kA ?kF ?kK ?k6 ?k7 ?k8 ?k9 ?kB ?_ ?c1 ?c2 ?c3 ?c4
  case kA => exact rfl
  case kF => exact hf
  case kK => exact hke
  case k1 => k_asm
  case k2 => k_asm
  case k3 => k_asm
  case k4 => k_asm
  case k5 => k_asm
  case k6 => k_is
  case k7 => k_is
  case k8 => show dd < recursionLimit; first | exact room0 (by assumption) | k_extra "om"
  case k9 => first | exact BindsTo.of_eq rfl | exact binds_K (by k_in) rfl (by k_is) rfl rfl rfl
  case kB => exact locs rfl
  case c1 => decide
  case c2 => exact rfl
  case c3 => exact rfl
  case c4 => exact rfl
  intro g' L' h' FG' F' N' B' X' T' l1; (try k_lt l1); (try dsimp only); (try k_lift B'); clear B F KX N T FG'
  k_steps
  refine leaveK_ (by k_asm) (by k_asm) fun kF kN => ?_
  rename (_ < _ ∧ _ < _ ∧ AllLt _ own) => l1
  exact h _ _ _ _ _ kF (subN kN (by walk_at "sub9")) l1.1 l1.2.1 (allLt_all l1.2.2)
theorem pop_in {ys : List Value} {v : Value} (N : News h₀ L s.heap ((x, accO 227 dx (ys ++ [v]).toArray n) :: (dx, accD w.params t i u) :: own)) (hne : @Ne Nat dx x) (ho : OwnOff own [x])
   (hd : dd + 30 < recursionLimit) (hu : uu + 300 < cLine) (hsz : ys.length ≤ 900)
   (h : ∀ h' tk n', Fr h₀ L h' m → News h₀ L h' ((x, accO 227 dx ys.toArray n') :: (dx, accD w.params t i u) :: own) → Q v { s with heap := h', toks := tk }) :
   wpAny (model rw_wn0107_02.row.toRowW.prog w) ⟨none, dd, some (env :: outer), gs, uu⟩ (call (.ref 187) [.ref x]) Q E s := by
  revert KX; k_fill; intro KX
  refine wpAny_call ?_
  refine' ks_code_super ?k1 ?k2 ?k3 ?k4 ?k5 ?kA ?kF ?kK ?k6 ?k7 ?k8 ?k9 ?kB ?_ ?c1 ?c2 ?c3 ?c4
  case kA => exact rfl
  case kF => exact hf
  case kK => exact hke
  case k1 => k_asm
  case k2 => k_asm
  case k3 => k_asm
  case k4 => k_asm
  case k5 => k_asm
  case k6 => k_is
  case k7 => k_is
  case k8 => show dd < recursionLimit; first | exact room0 (by assumption) | k_extra "om"
  case k9 => first | exact BindsTo.of_eq rfl | exact binds_K (by k_in) rfl (by k_is) rfl rfl rfl
  case kB => exact locs rfl
  case c1 => decide
  case c2 => exact rfl
  case c3 => exact rfl
  case c4 => exact rfl
  intro g' L' h' FG' F' N' B' X' T' l1; (try k_lt l1); (try dsimp only); (try k_lift B'); clear B F KX N T FG'
  k_steps
  · rename (_ = (0 : Int)) => a
    simp only [List.length_append, List.length_cons, List.length_nil] at a
    k_extra "om"
  · (try dsimp only)
    refine leaveK_ (by k_asm) (by k_asm) fun kF kN => ?_
    exact h _ _ _ kF (subN kN (by walk_at "sub9"))
theorem pop_from_in {k : Nat} {tk : Tok} (N : News h₀ L s.heap ((x, accO 227 dx xs.toArray n) :: (dx, accD w.params t i u) :: own)) (hne : @Ne Nat dx x) (ho : OwnOff own [x])
   (hd : dd + 30 < recursionLimit) (hu : uu + 300 < cLine) (hsz : xs.length ≤ 900) (hk : k ≤ xs.length)
   (h : ∀ h' tk n' D n2, Fr h₀ L h' m → News h₀ L h' ((D, lsO (xs.drop k) n2) :: (x, accO 227 dx (xs.take k).toArray n') :: (dx, accD w.params t i u) :: own) → x < D → dx < D → (∀ p ∈ own, p.1 < D) → Q (.ref D) { s with heap := h', toks := tk }) :
   wpAny (model rw_wn0107_02.row.toRowW.prog w) ⟨none, dd, some (env :: outer), gs, uu⟩ (call (.ref 179) [.ref x, .int k tk]) Q E s := by
  revert KX; k_fill; intro KX
  refine wpAny_call ?_
  refine' code_def ?k1 ?k2 ?k3 ?k4 ?k5 ?kA ?kF ?kK ?k6 ?k7 ?k8 ?k9 ?kB ?_ ?c2 ?c3 ?c4 ?c5
  case kA => exact rfl
  case kF => exact hf
  case kK => exact hke
  case k1 => k_asm
  case k2 => k_asm
  case k3 => k_asm
  case k4 => k_asm
  case k5 => k_asm
  case k6 => k_is
  case k7 => k_is
  case k8 => show dd < recursionLimit; first | exact room0 (by assumption) | k_extra "om"
  case k9 => first | exact BindsTo.of_eq rfl | exact binds_K (by k_in) rfl (by k_is) rfl rfl rfl
  case c5 => decide
  case kB => exact locs rfl
  case c2 => exact rfl
  case c3 => exact rfl
  case c4 => exact rfl
  k_whole; intro g' L' h' FG' F' N' B' X' T'; (try dsimp only); (try k_lift B'); (try k_fold); clear B F KX N T FG'
  k_steps
  (try dsimp only)
  k_steps
  refine leaveK_ (by k_asm) (by k_asm) fun kF kN => ?_
  simp only [ex_from xs hk, slicePick_from xs.toArray k (by simpa using hk)] at kN
  rename (_ < _ ∧ _ < _ ∧ AllLt _ own) => l1
  exact h _ _ _ _ _ kF (subN kN (by walk_at "sub9")) l1.1 l1.2.1 (allLt_all l1.2.2)
theorem reset0_in (N : News h₀ L s.heap ((x, accO 227 dx xs.toArray n) :: (dx, accD w.params t i u) :: own)) (hne : @Ne Nat dx x) (ho : OwnOff own [x, dx])
   (hd : dd + 30 < recursionLimit) (hu : uu + 300 < cLine) (hsz : xs.length ≤ 900)
   (h : ∀ h' tk n' u', Fr h₀ L h' m → News h₀ L h' ((x, accO 227 dx #[] n') :: (dx, accD w.params t 0 u') :: own) → Q .none { s with heap := h', toks := tk }) :
   wpAny (model rw_wn0107_02.row.toRowW.prog w) ⟨none, dd, some (env :: outer), gs, uu⟩ (call (.ref 209) [.ref x]) Q E s := by
  revert KX; k_fill; intro KX
  refine wpAny_call ?_
  refine' code_def ?k1 ?k2 ?k3 ?k4 ?k5 ?kA ?kF ?kK ?k6 ?k7 ?k8 ?k9 ?kB ?_ ?c2 ?c3 ?c4 ?c5
  case kA => exact rfl
  case kF => exact hf
  case kK => exact hke
  case k1 => k_asm
  case k2 => k_asm
  case k3 => k_asm
  case k4 => k_asm
  case k5 => k_asm
  case k6 => k_is
  case k7 => k_is
  case k8 => show dd < recursionLimit; first | exact room0 (by assumption) | k_extra "om"
  case k9 => first | exact BindsTo.of_eq rfl | exact binds_K (by k_in) rfl (by k_is) rfl rfl rfl
  case c5 => decide
  case kB => exact locs rfl
  case c2 => exact rfl
  case c3 => exact rfl
  case c4 => exact rfl
  k_whole; intro g' L' h' FG' F' N' B' X' T'; (try dsimp only); (try k_lift B'); (try k_fold); clear B F KX N T FG'
  k_steps
  refine leaveK_ (by k_asm) (by k_asm) fun kF kN => ?_
  simp only [ex_all0] at kN
  exact h _ _ _ _ kF (subN kN (by walk_at "sub9"))
theorem reset_in {l : Addr} {ys : List Value} {nl : Nat} (N : News h₀ L s.heap ((x, accO 227 dx xs.toArray n) :: (dx, accD w.params t i u) :: (l, lsO ys nl) :: own)) (hne : @Ne Nat dx x) (hl : @Ne Nat l x) (hl2 : @Ne Nat l dx) (ho : OwnOff own [x, dx])
   (hd : dd + 30 < recursionLimit) (hu : uu + 300 < cLine) (hsz : xs.length ≤ 900) (hsy : ys.length ≤ 900)
   (h : ∀ h' tk n' u', Fr h₀ L h' m → News h₀ L h' ((x, accO 227 dx ys.toArray n') :: (dx, accD w.params t 0 u') :: (l, lsO ys nl) :: own) → Q .none { s with heap := h', toks := tk }) :
   wpAny (model rw_wn0107_02.row.toRowW.prog w) ⟨none, dd, some (env :: outer), gs, uu⟩ (call (.ref 209) [.ref x, .ref l]) Q E s := by
  revert KX; k_fill; intro KX
  refine wpAny_call ?_
  refine' code_def ?k1 ?k2 ?k3 ?k4 ?k5 ?kA ?kF ?kK ?k6 ?k7 ?k8 ?k9 ?kB ?_ ?c2 ?c3 ?c4 ?c5
  case kA => exact rfl
  case kF => exact hf
  case kK => exact hke
  case k1 => k_asm
  case k2 => k_asm
  case k3 => k_asm
  case k4 => k_asm
  case k5 => k_asm
  case k6 => k_is
  case k7 => k_is
  case k8 => show dd < recursionLimit; first | exact room0 (by assumption) | k_extra "om"
  case k9 => first | exact BindsTo.of_eq rfl | exact binds_K (by k_in) rfl (by k_is) rfl rfl rfl
  case c5 => decide
  case kB => exact locs rfl
  case c2 => exact rfl
  case c3 => exact rfl
  case c4 => exact rfl
  k_whole; intro g' L' h' FG' F' N' B' X' T'; (try dsimp only); (try k_lift B'); (try k_fold); clear B F KX N T FG'
  k_steps
  refine leaveK_ (by k_asm) (by k_asm) fun kF kN => ?_
  simp only [ex_all] at kN
  exact h _ _ _ _ kF (subN kN (by walk_at "sub9"))
end
end
section
theorem off_RLq : True := by
  k_with_none
  trivial
open PySem PySem.W PyProof.Rows PySem.Calls
section
variable {M : Model} {A : Around} {E : Value → Shared → Prop} {s : Shared} {K : Frag} {h₀ : Heap} {L C : Addr} {m mg mb : Str → Option Value} {p : Program} {loose : List Str} {mean : ExcName → Option Value} {scope : Scope} {cl : List (Str × Addr)} {code : Value} {env : Env} {x : Str} {pos : Pos} {v : Value} {Q : Value → Shared → Prop}
theorem gname_local (F : Fr h₀ C s.heap m) (hv : m x = some v) (h : Q v s) (hk : scope.kind = .function := by rfl) (hl : (genEnv scope cl C code builtinsNs env).kindOf x = some .local := by rfl) (hd : (x == ("__debug__" : Str)) = false := by decide) :
    wpAny M A (eval (.Name x pos) (genEnv scope cl C code builtinsNs env)) Q E s := wpAny_Name (wpAny_loadName_local hk hl F.ns hv h) hd
theorem gname_builtin (F : Fr h₀ C s.heap m) (X : K.In h₀) (T : Top p loose mean mg mb h₀) (hge : env.globals = mainGlobals) (e : nsIn K mainGlobals x = some none) (hv : bootBuiltins x = some v) (hn : x ≠ "__name__") (h : Q v s)
    (hk : scope.kind = .function := by rfl) (hx : (genEnv scope cl C code builtinsNs env).kindOf x = some .globalImplicit := by rfl) (hd : (x == ("__debug__" : Str)) = false := by decide) :
    wpAny M A (eval (.Name x pos) (genEnv scope cl C code builtinsNs env)) Q E s :=
  Calls.Name_function_global hk hx (Calls.loadGlobal_builtin (env := genEnv scope cl C code builtinsNs env) (hge ▸ T.g.keeps F.keep) (mg_none_of X T.g e) (T.b.keeps F.keep) ((T.builtins x hn).trans hv) h) hd
theorem gname_global (F : Fr h₀ C s.heap m) (X : K.In h₀) (T : Top p loose mean mg mb h₀) (hge : env.globals = mainGlobals) (e : nsIn K mainGlobals x = some (some v)) (h : Q v s)
    (hk : scope.kind = .function := by rfl) (hx : (genEnv scope cl C code builtinsNs env).kindOf x = some .globalImplicit := by rfl) (hd : (x == ("__debug__" : Str)) = false := by decide) :
    wpAny M A (eval (.Name x pos) (genEnv scope cl C code builtinsNs env)) Q E s :=
  Calls.Name_function_global hk hx (Calls.loadGlobal_global (env := genEnv scope cl C code builtinsNs env) (hge ▸ T.g.keeps F.keep) (mg_of X T.g e) h) hd
end
structure Pt where
  a : Addr
  f : Str
  tf : Tok
  w : Str
  tw : Tok
noncomputable abbrev Pt.q (t : Pt) : Addr × Value × Value := (t.a, .str t.f t.tf, .str t.w t.tw)
noncomputable abbrev ptV (ps : List Pt) : List Value := ps.map fun t => Value.ref t.a
noncomputable abbrev ptN (ps : List Pt) : List (Addr × Obj) := ps.map fun t => (t.a, tupL [.str t.f t.tf, .str t.w t.tw])
noncomputable def ptLen (ps : List Pt) : Nat := (ps.map fun t => t.f.length + t.w.length).sum
noncomputable def ptStr (ps : List Pt) : Str := Txt.join "" (ps.map fun t => Txt.join "" [t.f, t.w])
theorem preSum_snoc (f : Nat → Int) (n : Nat) : preSum f (n + 1) = preSum f n + f n := rfl
theorem preSum_pt : ∀ ps : List Pt, preSum (fun j => (ps[j]?.map fun q => ((q.f.length + q.w.length : Nat) : Int)).getD 0) ps.length = (ptLen ps : Int) := by
  intro ps
  have key : ∀ n, n ≤ ps.length → preSum (fun j => (ps[j]?.map fun q => ((q.f.length + q.w.length : Nat) : Int)).getD 0) n = (ptLen (ps.take n) : Int) := by
    intro n
    induction n with
    | zero => intro _; simp [preSum, ptLen]
    | succ n ih =>
      intro hn
      have hn' : n < ps.length := by omega
      have e : ptLen (ps.take n ++ [ps[n]]) = ptLen (ps.take n) + (ps[n].f.length + ps[n].w.length) := by
        unfold ptLen
        rw [List.map_append, List.sum_append]
        simp
      have e2 : ps.take (n + 1) = ps.take n ++ [ps[n]] := by rw [List.take_add_one, List.getElem?_eq_getElem hn']; rfl
      rw [preSum_snoc, ih (by omega), e2, e, List.getElem?_eq_getElem hn']
      simp only [Option.map_some, Option.getD_some]
      omega
  rw [key _ (Nat.le_refl _), List.take_length]
section
variable {prog : Program} {w : World} {A : Around} {E : Value → Shared → Prop} {s : Shared} {x : Str} {t : Tok} {Q : Value → Shared → Prop}
theorem join_tup {D : Addr} {l : List (Str × Tok)} (hl : s.heap.IsTuple D (strValues l).toArray) (hok : JoinOk x (l.map (·.1)) = true)
    (hq : ∀ t' k, Q (.str (Txt.join x (l.map (·.1))) t') { s with toks := k }) : wpAny (model prog w) A (call (.builtin "str.join") [.str x t, .ref D]) Q E s := by
  have hok' := hok
  unfold JoinOk at hok'
  rw [Bool.not_eq_true'] at hok'
  exact call_meets PySem.F.slot_str_join (typeIs_str _ _ _) PySem.F.entry_str_join (PySem.F.args_str_join_2 _ _) (meets_str_join_tuple x t D l hok') ⟨(let ⟨o, a, b, n, c⟩ := hl; ⟨o, n, a, b, c⟩), post_join l ⟨joinFit_length hok', hq⟩⟩
end
section
variable {prog : Program} {w : World} {A : Around} {s : Shared} {L a : Addr} {n : Nat} {F : Nat → Value → Prop} {news : List (Addr × Obj)} {tk : Nat}
theorem genP_later (X : GenP prog w A L a n F news s) (ht : s.toks ≤ tk) : GenP prog w A L a n F news { s with toks := tk } := by
  obtain ⟨fp, wr, g, St, W, hst, hT, hI, hfp, h1, h2⟩ := X
  exact ⟨fp, wr, g, St, W, W.frame 0 s s.heap tk hst ht fun _ _ _ e => e, hT, hI, hfp, h1, h2⟩
end
theorem sum_len_le {a : Nat} : ∀ ts : List Str, (∀ t ∈ ts, t.length ≤ a) → (ts.map (·.length)).sum ≤ ts.length * a
  | [], _ => Nat.zero_le _
  | t :: r, h => by
    have := sum_len_le r fun t ht => h t (.tail _ ht)
    have := h t (.head _)
    rw [List.map_cons, List.sum_cons, List.length_cons, Nat.succ_mul]
    omega
theorem pairJoin_len {f w : Str} (hf : f.length ≤ 1000) (hw : w.length ≤ 1000) : (Txt.join "" [f, w]).length ≤ 2000 := by
  show (Builtin.Str.glued _ _).length ≤ _
  rw [StrLaws.glued_eq_join]
  have h1 := StrLaws.join_length_le "" [f, w]
  have h2 : (("" : Str)).length = 0 := by decide
  simp only [List.map_cons, List.map_nil, List.sum_cons, List.sum_nil, List.length_cons, List.length_nil, h2] at h1
  omega
theorem joinOk_of {sep : Str} {ts : List Str} (a : Nat) (ha : sep.length + a ≤ 5000) (hn : ts.length ≤ 1000) (hl : ∀ t ∈ ts, t.length ≤ a) : JoinOk sep ts = true := by
  unfold JoinOk Builtin.Str.tooLong
  rw [Bool.not_eq_true', decide_eq_false_iff_not, StrLaws.joinTotal, sizeLine_eq]
  have h1 := sum_len_le ts hl
  have h2 : ts.length * a ≤ 1000 * 5000 := Nat.mul_le_mul hn (by omega)
  have h3 : ts.length * sep.length ≤ 1000 * 5000 := Nat.mul_le_mul hn (by omega)
  omega
end
section
theorem off_CCq : True := by
  k_with_none
  trivial
open PySem PySem.W PyProof.Rows PySem.Calls
theorem on_CCq0 : True := by
 k_with_none
 k_with "ax" => first | assumption | exact ja0 ‹_› | exact ja1 ‹_› | exact je1 ‹_› | exact ja2 ‹_› | exact ja3 ‹_› | exact ja4 ‹_› | exact ja5 ‹_› | exact je5 ‹_› | exact ja6 ‹_› | exact ja7 ‹_› | exact je7 ‹_› | exact ja8 ‹_› | exact ja9 ‹_› | exact je13 ‹_› | exact je14 ‹_›
 k_with "nx" => with_reducible (first | (refine Nat.ne_of_lt ?_; (repeat (first | exact js | refine jl ?_)); all_goals k_extra "ax") | (refine Nat.ne_of_gt ?_; (repeat (first | exact js | refine jl ?_)); all_goals k_extra "ax") | k_extra "ax" | (refine Ne.symm ?_; k_extra "ax"))
 k_with "rm" => ((with_reducible first | exact room0 ‹_› | refine room1 ‹_› ?_ | refine room2 ‹_› ?_ | refine room3 ‹_› ?_ | refine room4 ‹_› ?_); all_goals exact rfl)
 k_with "om" => first | (with_reducible first | k_extra "ax" | exact jn ‹_› | exact jn (ja0 ‹_›) | (refine Nat.lt_trans ?_ ‹_›; k_extra "ax")) | decide | omega
 k_with "hk" => (with_reducible first | (refine hKq _ _ ?_; clear hKq; (try clear Kq)))
 k_with "q:execs cons" => (k_here; (with_reducible refine execs_consK ?_); intro Kq tkq hKq)
 k_with "q:k_ne" => (refine neN ?_; (try dsimp only); first | k_extra "nx" | omega)
 k_with "q:sub9" => row_timed "f" (fail; (repeat' (first | (refine fm (by k_mem) ?_) | exact List.forall_mem_nil _ | (intro pZ hpZ; (repeat (first | with_reducible_and_instances exact hpZ | with_reducible_and_instances exact List.mem_append_right _ hpZ | refine List.Mem.tail _ ?_)); done) | exact fun _ hpZ => hpZ | (intro pZ hpZ; (repeat (first | exact hpZ | exact List.mem_append_right _ hpZ | refine List.Mem.tail _ ?_))))))
 k_with "q:k_room" => row_timed "f" (fail; ((try simp only [depth_under_make, depth_under_kw, depth_in1, depth_deeper]); (try dsimp only); first | k_extra "rm" | omega))
 k_with "q:k_units" => row_timed "f" (fail; ((try simp only [Around.deeper_units, Around.in1_units, Around.mark_units]); (try dsimp only); first | k_extra "rm" | omega))
 k_with "q:k_mem" => row_timed "f" (fail; (with_reducible_and_instances (repeat (first | exact List.Mem.head _ | refine List.Mem.tail _ ?_)); done))
 k_with "q:getMethod ref" => row_timed "f" (fail; (k_here; k_dflt (refine' methodL_fn ?k1Z ?k2Z ?k3Z (z227_get _) ?k5Z ?k6Z ?k7Z ?_; (case k1Z | k2Z => k_asm); (case k3Z => refine' instAcc_news ?NZ ?h1Z ?h2Z; (case NZ => k_asm); (case h1Z | h2Z => k_mem)); (case k5Z | k6Z => k_is); (case k7Z => k_get); k_whole)))
 k_with "q:getAttr ref" => row_timed "f" (fail; (k_here; k_dflt (refine' getL_own ?k1Z ?k2Z ?k3Z (z227 _) (z227_get _) ?k4Z ?k5Z ?k6Z ?k7Z ?k8Z ?_; (case k1Z | k2Z => k_asm); (case k3Z => refine' instAcc_news ?NZ ?h1Z ?h2Z; (case NZ => k_asm); (case h1Z | h2Z => k_mem)); (case k4Z | k5Z | k6Z => k_is); (case k7Z => k_get); (case k8Z => k_handed); k_whole)))
 k_with "q:k_inst" => row_timed "f" (fail; (refine' instAcc_news ?NZ ?h1Z ?h2Z; (case NZ => k_asm); (case h1Z | h2Z => k_mem)))
 k_with "q:eval Name" => row_timed "f" (fail; (k_here; k_dflt (refine' gname_local ?k1Z ?k2Z ?_; (case k1Z | k2Z => k_asm); k_whole)))
 k_with "q:eval Name" => row_timed "f" (fail; (k_here; k_dflt (refine' gname_builtin ?k1Z ?k2Z ?k3Z rfl ?k4Z ?k5Z ?k6Z ?_; (case k1Z | k2Z | k3Z => k_asm); (case k4Z => k_is); (case k5Z => boot_by_name); (case k6Z => decide); k_whole)))
 trivial
section
variable {w : World} {A₀ : Around} {base h₀ : Heap} {env : Env} {outer : List Env} {dd uu : Nat} {gs : Option (List Code)} {L : Addr} {m mg mb : Str → Option Value} {s : Shared} {own : List (Addr × Obj)} {p : Program} {loose : List Str} {mean : ExcName → Option Value} {Q : Value → Shared → Prop} {E : Value → Shared → Prop}
  (B : Below A₀ base outer h₀) (F : Fr h₀ L s.heap m) (KX : (Mine.hd.heap_1 w.params).In h₀) (T : Top p loose mean mg mb h₀) (hf : env.frame = some L) (hke : env.scope.kind = .function)
include B F KX T hf hke
variable {x dx : Addr} {ps : List Pt} {n : Nat} {t u : Tok} {i : Int} {o1 : Obj}
theorem len_in (N : News h₀ L s.heap ((x, accO 227 dx (ptV ps).toArray n) :: (dx, accD w.params t i u) :: (189, o1) :: (ptN ps ++ own)))
   (hT : TabOk o1) (G : AllBare s.gens) (hne : @Ne Nat x 189) (hne2 : @Ne Nat dx 189) (ho : OwnOff (ptN ps ++ own) [189])
   (hd : dd + 40 < recursionLimit) (hu : uu + 300 < cLine) (hsz : ps.length ≤ 900) (hlen : ∀ q ∈ ps, q.f.length ≤ 1000 ∧ q.w.length ≤ 1000)
   (h : ∀ h' tk gs tv o2, Fr h₀ L h' m → AllBare gs → TabOk o2 → News h₀ L h' ((x, accO 227 dx (ptV ps).toArray n) :: (dx, accD w.params t i u) :: (189, o2) :: (ptN ps ++ own)) → Q (.int (i + ptLen ps) tv) { s with heap := h', toks := tk, gens := gs }) :
   wpAny (model rw_wn0107_02.row.toRowW.prog w) ⟨none, dd, some (env :: outer), gs, uu⟩ (call (.ref 194) [.ref x]) Q E s := by
  revert KX; k_fill; intro KX
  refine wpAny_call ?_
  refine' code_def ?k1 ?k2 ?k3 ?k4 ?k5 ?kA ?kF ?kK ?k6 ?k7 ?k8 ?k9 ?kB ?_ ?c2 ?c3 ?c4 ?c5
  case kA => exact rfl
  case kF => exact hf
  case kK => exact hke
  case k1 => k_asm
  case k2 => k_asm
  case k3 => k_asm
  case k4 => k_asm
  case k5 => k_asm
  case k6 => k_is
  case k7 => k_is
  case k8 => show dd < recursionLimit; first | exact room0 (by assumption) | k_extra "om"
  case k9 => first | exact BindsTo.of_eq rfl | exact binds_K (by k_in) rfl (by k_is) rfl rfl rfl
  case c5 => decide
  case kB => exact locs rfl
  case c2 => exact rfl
  case c3 => exact rfl
  case c4 => exact rfl
  k_whole; intro g' L' h' FG' F' N' B' X' T'; (try dsimp only); (try k_lift B'); (try k_fold); clear B F KX N T FG'
  have hC : CodeHd g' 193 189 := codeHd_of_K X' (by kernel_rfl)
  k_steps
  have e0 : (ps.map Pt.q).map (fun q => Value.ref q.1) = ptV ps := by simp [ptV]
  refine' genPairs (ps := ps.map Pt.q) (Fy := fun j v => ∃ q t, ps[j]? = some q ∧ v = .int (q.f.length + q.w.length) t) ?F ?X ?N ?T G ?hx ?hdx (z227 _) ?hps hC ?U hT ?h1 ?h2 ?h3 ?h4 ?h5 ?h6 ?h7 ?h8 ?h9 ?h10 ?h11 ?h12 ?h13 ?h14 ?helt ?_
  case F => k_asm
  case X => k_asm
  case N => k_asm
  case T => k_asm
  case hx => rw [e0]; k_mem
  case hdx => k_mem
  case hps => intro q hq; obtain ⟨t, ht, rfl⟩ := List.mem_map.mp hq; exact .tail _ (.tail _ (.tail _ (List.mem_append_left _ (List.mem_map.mpr ⟨t, ht, rfl⟩))))
  case U => k_updF
  case h1 => with_unfolding_all rfl
  case h2 => with_unfolding_all rfl
  case h3 => with_unfolding_all rfl
  case h4 => with_unfolding_all rfl
  case h5 => with_unfolding_all rfl
  case h6 => decide
  case h7 => with_unfolding_all rfl
  case h8 => with_unfolding_all rfl
  case h9 => with_unfolding_all rfl
  case h10 => decide
  case h11 => with_unfolding_all rfl
  case h12 => k_room
  case h13 => intro Q hq; k_steps; exact hq
  case h14 => intro _; with_unfolding_all rfl
  case helt =>
    intro code Cf A' E' i q s₂ m₂ hA hd2 hu2 hi F2 ha hb
    obtain ⟨pt, hpt, rfl⟩ : ∃ pt, ps[i]? = some pt ∧ q = pt.q := by
      rw [List.getElem?_map] at hi
      obtain ⟨pt, e1, e2⟩ := Option.map_eq_some_iff.mp hi
      exact ⟨pt, e1, e2.symm⟩
    dsimp only at ha hb
    obtain ⟨hl1, hl2⟩ := hlen pt (List.mem_of_getElem? hpt)
    k_steps
    exact ⟨_, _, rfl, fun _ _ e => e⟩
  intro a h' tk gs' o' F' hto N' G' X
  k_steps
  rw [List.length_map] at X
  refine gen_sum (val := fun j => (ps[j]?.map fun q => ((q.f.length + q.w.length : Nat) : Int)).getD 0) F' N' G' (genP_later X (by dsimp only; k_extra "om")) ?_ ?_
  · rintro j v ⟨q, t, e, rfl⟩
    exact ⟨t, by rw [e]; simp⟩
  intro h' tk gs' tv F' N' G'
  rw [preSum_pt]
  k_steps
  refine leaveK_ (by k_asm) (by k_asm) fun kF kN => ?_
  exact h _ _ _ _ _ kF G' hto (subN kN (by walk_at "sub9"))
end
end
section
theorem off_CDq : True := by
  k_with_none
  trivial
open PySem PySem.W PyProof.Rows PySem.Calls
theorem on_CDq0 : True := by
 k_with_none
 k_with "ax" => first | assumption | exact ja0 ‹_› | exact ja1 ‹_› | exact je1 ‹_› | exact ja2 ‹_› | exact ja3 ‹_› | exact ja4 ‹_› | exact ja5 ‹_› | exact je5 ‹_› | exact ja6 ‹_› | exact ja7 ‹_› | exact je7 ‹_› | exact ja8 ‹_› | exact ja9 ‹_› | exact je13 ‹_› | exact je14 ‹_›
 k_with "nx" => with_reducible (first | (refine Nat.ne_of_lt ?_; (repeat (first | exact js | refine jl ?_)); all_goals k_extra "ax") | (refine Nat.ne_of_gt ?_; (repeat (first | exact js | refine jl ?_)); all_goals k_extra "ax") | k_extra "ax" | (refine Ne.symm ?_; k_extra "ax"))
 k_with "rm" => ((with_reducible first | exact room0 ‹_› | refine room1 ‹_› ?_ | refine room2 ‹_› ?_ | refine room3 ‹_› ?_ | refine room4 ‹_› ?_); all_goals exact rfl)
 k_with "om" => first | (with_reducible first | k_extra "ax" | exact jn ‹_› | exact jn (ja0 ‹_›) | (refine Nat.lt_trans ?_ ‹_›; k_extra "ax")) | decide | omega
 k_with "hk" => (with_reducible first | (refine hKq _ _ ?_; clear hKq; (try clear Kq)))
 k_with "q:execs cons" => (k_here; (with_reducible refine execs_consK ?_); intro Kq tkq hKq)
 k_with "q:k_ne" => (refine neN ?_; (try dsimp only); first | k_extra "nx" | omega)
 k_with "q:sub9" => row_timed "f" (fail; (repeat' (first | (refine fm (by k_mem) ?_) | exact List.forall_mem_nil _ | (intro pZ hpZ; (repeat (first | with_reducible_and_instances exact hpZ | with_reducible_and_instances exact List.mem_append_right _ hpZ | refine List.Mem.tail _ ?_)); done) | exact fun _ hpZ => hpZ | (intro pZ hpZ; (repeat (first | exact hpZ | exact List.mem_append_right _ hpZ | refine List.Mem.tail _ ?_))))))
 k_with "q:k_room" => row_timed "f" (fail; ((try simp only [depth_under_make, depth_under_kw, depth_in1, depth_deeper]); (try dsimp only); first | k_extra "rm" | omega))
 k_with "q:k_units" => row_timed "f" (fail; ((try simp only [Around.deeper_units, Around.in1_units, Around.mark_units]); (try dsimp only); first | k_extra "rm" | omega))
 k_with "q:k_mem" => row_timed "f" (fail; (with_reducible_and_instances (repeat (first | exact List.Mem.head _ | refine List.Mem.tail _ ?_)); done))
 k_with "q:k_inst" => row_timed "f" (fail; (refine' instAcc_news ?NZ ?h1Z ?h2Z; (case NZ => k_asm); (case h1Z | h2Z => k_mem)))
 k_with "q:eval Name" => row_timed "f" (fail; (k_here; k_dflt (refine' gname_local ?k1Z ?k2Z ?_; (case k1Z | k2Z => k_asm); k_whole)))
 k_with "q:eval Name" => row_timed "f" (fail; (k_here; k_dflt (refine' gname_global ?k1Z ?k2Z ?k3Z rfl ?k4Z ?_; (case k1Z | k2Z | k3Z => k_asm); (case k4Z => k_is); k_whole)))
 trivial
section
variable {w : World} {A₀ : Around} {base h₀ : Heap} {env : Env} {outer : List Env} {dd uu : Nat} {gs : Option (List Code)} {L : Addr} {m mg mb : Str → Option Value} {s : Shared} {own : List (Addr × Obj)} {p : Program} {loose : List Str} {mean : ExcName → Option Value} {Q : Value → Shared → Prop} {E : Value → Shared → Prop}
  (B : Below A₀ base outer h₀) (F : Fr h₀ L s.heap m) (KX : (Mine.hd.heap_1 w.params).In h₀) (T : Top p loose mean mg mb h₀) (hf : env.frame = some L) (hke : env.scope.kind = .function)
include B F KX T hf hke
variable {x dx : Addr} {ps : List Pt} {n : Nat} {t u : Tok} {i : Int} {o1 : Obj}
theorem str_in (N : News h₀ L s.heap ((x, accO 227 dx (ptV ps).toArray n) :: (dx, accD w.params t i u) :: (196, o1) :: (ptN ps ++ own)))
   (hT : TabOk o1) (G : AllBare s.gens) (hne : @Ne Nat x 196) (hne2 : @Ne Nat dx 196) (ho : OwnOff (ptN ps ++ own) [196])
   (hd : dd + 40 < recursionLimit) (hu : uu + 300 < cLine) (hsz : ps.length ≤ 900) (hlen : ∀ q ∈ ps, q.f.length ≤ 1000 ∧ q.w.length ≤ 1000)
   (h : ∀ h' tk gs tv o2, Fr h₀ L h' m → AllBare gs → TabOk o2 → News h₀ L h' ((x, accO 227 dx (ptV ps).toArray n) :: (dx, accD w.params t i u) :: (196, o2) :: (ptN ps ++ own)) → Q (.str (ptStr ps) tv) { s with heap := h', toks := tk, gens := gs }) :
   wpAny (model rw_wn0107_02.row.toRowW.prog w) ⟨none, dd, some (env :: outer), gs, uu⟩ (call (.ref 201) [.ref x]) Q E s := by
  revert KX; k_fill; intro KX
  refine wpAny_call ?_
  refine' code_def ?k1 ?k2 ?k3 ?k4 ?k5 ?kA ?kF ?kK ?k6 ?k7 ?k8 ?k9 ?kB ?_ ?c2 ?c3 ?c4 ?c5
  case kA => exact rfl
  case kF => exact hf
  case kK => exact hke
  case k1 => k_asm
  case k2 => k_asm
  case k3 => k_asm
  case k4 => k_asm
  case k5 => k_asm
  case k6 => k_is
  case k7 => k_is
  case k8 => show dd < recursionLimit; first | exact room0 (by assumption) | k_extra "om"
  case k9 => first | exact BindsTo.of_eq rfl | exact binds_K (by k_in) rfl (by k_is) rfl rfl rfl
  case c5 => decide
  case kB => exact locs rfl
  case c2 => exact rfl
  case c3 => exact rfl
  case c4 => exact rfl
  k_whole; intro g' L' h' FG' F' N' B' X' T'; (try dsimp only); (try k_lift B'); (try k_fold); clear B F KX N T FG'
  have hC : CodeHd g' 200 196 := codeHd_of_K X' (by kernel_rfl)
  k_steps
  have e0 : (ps.map Pt.q).map (fun q => Value.ref q.1) = ptV ps := by simp [ptV]
  refine' genPairs (ps := ps.map Pt.q) (Fy := fun j v => ∃ q t, ps[j]? = some q ∧ v = .str (Txt.join "" [q.f, q.w]) t) ?F ?X ?N ?T G ?hx ?hdx (z227 _) ?hps hC ?U hT ?h1 ?h2 ?h3 ?h4 ?h5 ?h6 ?h7 ?h8 ?h9 ?h10 ?h11 ?h12 ?h13 ?h14 ?helt ?_
  case F => k_asm
  case X => k_asm
  case N => k_asm
  case T => k_asm
  case hx => rw [e0]; k_mem
  case hdx => k_mem
  case hps => intro q hq; obtain ⟨t, ht, rfl⟩ := List.mem_map.mp hq; exact .tail _ (.tail _ (.tail _ (List.mem_append_left _ (List.mem_map.mpr ⟨t, ht, rfl⟩))))
  case U => k_updF
  case h1 => with_unfolding_all rfl
  case h2 => with_unfolding_all rfl
  case h3 => with_unfolding_all rfl
  case h4 => with_unfolding_all rfl
  case h5 => with_unfolding_all rfl
  case h6 => decide
  case h7 => with_unfolding_all rfl
  case h8 => with_unfolding_all rfl
  case h9 => with_unfolding_all rfl
  case h10 => decide
  case h11 => with_unfolding_all rfl
  case h12 => k_room
  case h13 => intro Q hq; k_steps; exact hq
  case h14 => intro _; with_unfolding_all rfl
  case helt =>
    intro code Cf A' E' i q s₂ m₂ hA hd2 hu2 hi F2 ha hb
    obtain ⟨pt, hpt, rfl⟩ : ∃ pt, ps[i]? = some pt ∧ q = pt.q := by
      rw [List.getElem?_map] at hi
      obtain ⟨pt, e1, e2⟩ := Option.map_eq_some_iff.mp hi
      exact ⟨pt, e1, e2.symm⟩
    dsimp only at ha hb
    obtain ⟨hl1, hl2⟩ := hlen pt (List.mem_of_getElem? hpt)
    k_steps
    refine wpAny_newTuple ?_ (by rw [sizeLine_eq]; simp)
    refine Calls.spliced_nil ?_
    refine join_tup (l := [(pt.f, pt.tf), (pt.w, pt.tw)]) ⟨_, Heap.get?_push_size _ rfl, rfl, _, rfl⟩ (joinOk_of 1000 (by decide) (by simp) ?_) fun t' k => ⟨⟨pt, t', hpt, rfl⟩, _, _, rfl, fun b o e => Heap.get?_push_of_some _ e⟩
    intro y hy
    simp only [List.map_cons, List.map_nil, List.mem_cons, List.not_mem_nil, or_false] at hy
    rcases hy with rfl | rfl
    · exact hl1
    · exact hl2
  intro a h' tk gs' o' F' hto N' G' X
  k_steps
  rw [List.length_map] at X
  have eL : (List.range ps.length).map (fun j => (ps[j]?.map fun q => Txt.join "" [q.f, q.w]).getD "") = ps.map fun q => Txt.join "" [q.f, q.w] := by
    apply List.ext_getElem?
    intro j
    rcases Nat.lt_or_ge j ps.length with hj | hj
    · simp [hj]
    · simp [hj]
  refine gen_join (f := fun j => (ps[j]?.map fun q => Txt.join "" [q.f, q.w]).getD "") F' N' G' (genP_later X (by dsimp only; k_extra "om")) ?_ ?_ ?_ ?_
  · rintro j v ⟨q, t, e, rfl⟩
    exact ⟨t, by rw [e]; simp⟩
  · rw [eL]
    refine joinOk_of 2000 (by decide) (by rw [List.length_map]; k_extra "om") fun y hy => ?_
    obtain ⟨q, hq, rfl⟩ := List.mem_map.mp hy
    obtain ⟨a1, a2⟩ := hlen q hq
    exact pairJoin_len a1 a2
  · rw [sizeLine_eq]; k_extra "om"
  intro h' tk gs' tv F' N' G'
  rw [eL]
  k_steps
  refine leaveK_ (by k_asm) (by k_asm) fun kF kN => ?_
  exact h _ _ _ _ _ kF G' hto (subN kN (by walk_at "sub9"))
end
end
section
theorem off_RMq : True := by
  k_with_none
  trivial
open PySem PySem.W PyProof.Rows PySem.Calls
section
variable {prog : Program} {w : World} {A : Around} {E : Value → Shared → Prop} {s : Shared} {K : Frag} {x C L f : Addr} {h₀ : Heap} {m : Str → Option Value} {ox : Obj} {od : Option Obj}
theorem ne_tt {n : Int} (h : n ≠ 0) : (n != 0) = true := bne_iff_ne.mpr h
noncomputable def NeBack (Q : Bool → Shared → Prop) (v : Value) (s' : Shared) : Prop := match v with
  | .int n _ => Q (n != 0) s'
  | _ => False
theorem truthy_len {Q : Bool → Shared → Prop} (F : Fr h₀ L s.heap m) (X₀ : K.In h₀) (I : InstAt s.heap x ox C od) (hs : findIn K (.ref C) "__bool__" = some none) (hl : findIn K (.ref C) "__len__" = some (some (.ref f))) (hf : isFn K (.ref f) = true)
    (h : wpAny (model prog w) A.in1 (call (.ref f) [.ref x]) (W.LenBack fun v s' => NeBack Q v s') E s) : wpAny (model prog w) A (truthy (.ref x)) Q E s := by
  have X := X₀.keeps F.keep
  have key : wpAny (model prog w) A (runValue (.builtin "len" ⟨[.ref x], []⟩)) (fun v s' => NeBack Q v s') E s := by
    refine wpAny_runValue (codeAny_builtin entry_len ?_)
    rw [Around.under_plainId plain_len _]
    unfold Builtin.«len»
    refine wpAny_bind (m := PySem.oneArg "len" _) (wpAny_pure ?_)
    refine wpAny_bind (m := callSpecial? (.ref x) (Str.ofString "__len__")) (special_fn (X₀.keeps F.keep) I hl (beq_iff_eq.mp hf) (wpAny_mono h (fun r s' hr => ?_) fun _ _ y => y))
    cases r <;> first | exact hr.elim | skip
    rename_i n u
    obtain ⟨⟨h0, h1⟩, hq⟩ := hr
    refine wpAny_bind (wpAny_holding (wpAny_pure ?_))
    refine wpAny_bind (wpAny_letGo ?_)
    show wpAny _ _ (if n < 0 then _ else _) _ _ _
    rw [if_neg (by omega)]
    show wpAny _ _ (if n ≥ 2 ^ 63 then _ else _) _ _ _
    rw [if_neg (by omega)]
    exact wpAny_bind (wpAny_mkInt (wpAny_pure hq))
  unfold truthy
  refine wpAny_bind (m := callSpecial? (.ref x) (Str.ofString "__bool__")) (wpAny_bind (wpAny_bind (I.type.here ((looks_findIn X hs).here (wpAny_pure ?_)))))
  refine wpAny_bind (wpAny_bind (I.type.here ((looks_findIn X hl).here ?_)))
  refine wpAny_bind (wpAny_mono key (fun v s' hv => ?_) fun _ _ z => z)
  cases v <;> first | exact hv.elim | exact wpAny_pure hv
end
theorem tab_ne {y P : Addr} {o oy : Obj} {news : List (Addr × Obj)} {g : Obj → List (Addr × Obj)} (U : UpdF P o news g) (hT : TabOk o) (hm : (y, oy) ∈ news) (hc : oy.cls ≠ .none) : y ≠ P :=
  updF_ne U hm fun e => by obtain ⟨ps, rfl, _⟩ := hT; exact hc (congrArg Obj.cls e)
theorem ptN_off {ps : List Pt} {P : Addr} {o : Obj} {news : List (Addr × Obj)} {g : Obj → List (Addr × Obj)} (U : UpdF P o news g) (hT : TabOk o) (hps : ∀ q ∈ ptN ps, q ∈ news) {own : List (Addr × Obj)} (h : OwnOff own [P]) : OwnOff (ptN ps ++ own) [P] := fun p hp => by
  rcases List.mem_append.mp hp with hp | hp
  · refine fun b hb => ?_
    rw [List.mem_singleton] at hb
    subst hb
    refine tab_ne U hT (hps p hp) ?_
    obtain ⟨q, _, rfl⟩ := List.mem_map.mp hp
    intro e; cases e
  · exact h p hp
theorem ptV_length (ps : List Pt) : (ptV ps).length = ps.length := List.length_map ..
noncomputable abbrev Pt.fw (q : Pt) : Str × Str := (q.f, q.w)
noncomputable def fwLen (fs : List (Str × Str)) : Nat := (fs.map fun q => q.1.length + q.2.length).sum
noncomputable def fwStr (fs : List (Str × Str)) : Str := Txt.join "" (fs.map fun q => Txt.join "" [q.1, q.2])
theorem ptLen_fw (ps : List Pt) : ptLen ps = fwLen (ps.map Pt.fw) := by unfold ptLen fwLen; rw [List.map_map]; rfl
theorem ptStr_fw (ps : List Pt) : ptStr ps = fwStr (ps.map Pt.fw) := by unfold ptStr fwStr; rw [List.map_map]; rfl
noncomputable def PtsIn (news : List (Addr × Obj)) (vs : List Value) (fs : List (Str × Str)) : Prop := ∃ ps : List Pt, vs = ptV ps ∧ ps.map Pt.fw = fs ∧ ∀ q ∈ ptN ps, q ∈ news
theorem PtsIn.nil {news : List (Addr × Obj)} : PtsIn news [] [] := ⟨[], rfl, rfl, fun _ h => nomatch h⟩
theorem PtsIn.mono {a b : List (Addr × Obj)} {vs : List Value} {fs : List (Str × Str)} (h : PtsIn a vs fs) (hs : ∀ q ∈ a, q ∈ b) : PtsIn b vs fs := let ⟨ps, h1, h2, h3⟩ := h; ⟨ps, h1, h2, fun q hq => hs q (h3 q hq)⟩
theorem PtsIn.length {a : List (Addr × Obj)} {vs : List Value} {fs : List (Str × Str)} (h : PtsIn a vs fs) : vs.length = fs.length := by obtain ⟨ps, rfl, rfl, _⟩ := h; simp [ptV]
theorem PtsIn.snoc {news : List (Addr × Obj)} {vs : List Value} {fs : List (Str × Str)} {a : Addr} {f w : Str} {tf tw : Tok} (h : PtsIn news vs fs) (ha : (a, tupL [.str f tf, .str w tw]) ∈ news) : PtsIn news (vs ++ [.ref a]) (fs ++ [(f, w)]) := by
  obtain ⟨ps, rfl, rfl, h3⟩ := h
  refine ⟨ps ++ [⟨a, f, tf, w, tw⟩], by simp [ptV], by simp, fun q hq => ?_⟩
  unfold ptN at hq
  rw [List.map_append] at hq
  rcases List.mem_append.mp hq with hq | hq
  · exact h3 q hq
  · rw [List.map_cons, List.map_nil, List.mem_singleton] at hq
    subst hq; exact ha
theorem PtsIn.one {news : List (Addr × Obj)} {a : Addr} {f w : Str} {tf tw : Tok} (ha : (a, tupL [.str f tf, .str w tw]) ∈ news) : PtsIn news [.ref a] [(f, w)] := PtsIn.snoc PtsIn.nil ha
structure PtOk (fs : List (Str × Str)) : Prop where
  sz : fs.length ≤ 900
  len : ∀ q ∈ fs, q.1.length ≤ 1000 ∧ q.2.length ≤ 1000
theorem PtOk.nil : PtOk [] := ⟨by decide, fun _ h => nomatch h⟩
theorem PtOk.snoc {fs : List (Str × Str)} {f w : Str} (h : PtOk fs) (hs : fs.length < 900) (h1 : f.length ≤ 1000) (h2 : w.length ≤ 1000) : PtOk (fs ++ [(f, w)]) := by
  refine ⟨by simp; omega, fun p hp => ?_⟩
  rcases List.mem_append.mp hp with hp | hp
  · exact h.len p hp
  · rw [List.mem_singleton] at hp; subst hp; exact ⟨h1, h2⟩
theorem PtOk.one {f w : Str} (h1 : f.length ≤ 1000) (h2 : w.length ≤ 1000) : PtOk [(f, w)] := PtOk.snoc PtOk.nil (by decide) h1 h2
theorem PtOk.pts {ps : List Pt} (h : PtOk (ps.map Pt.fw)) : ps.length ≤ 900 ∧ ∀ q ∈ ps, q.f.length ≤ 1000 ∧ q.w.length ≤ 1000 :=
  ⟨by have := h.sz; rwa [List.length_map] at this, fun q hq => h.len (q.f, q.w) (List.mem_map.mpr ⟨q, hq, rfl⟩)⟩
theorem fwLen_snoc (fs : List (Str × Str)) (f w : Str) : fwLen (fs ++ [(f, w)]) = fwLen fs + (f.length + w.length) := by unfold fwLen; simp
theorem fwLen_pos (fs : List (Str × Str)) (w : Str) : 0 < fwLen (fs ++ [(Str.ofString " ", w)]) := by
  rw [fwLen_snoc, show (Str.ofString " ").length = 1 from by decide]; omega
theorem fwStr_empty : fwStr [(Str.ofString "", Str.ofString "")] = Str.ofString "" := by kernel_rfl
structure Ap (a b : Nat) : Prop where
  ne : @Ne Nat a b
noncomputable def NeAll (a : Nat) : List Nat → Prop
  | [] => True
  | b :: r => Ap a b ∧ NeAll a r
noncomputable def DisL : List Nat → Prop
  | [] => True
  | a :: r => NeAll a r ∧ DisL r
structure Dis (l : List Nat) : Prop where
  get : DisL l
theorem Dis.e3 {a b c : Nat} {C : Prop} (h : Dis [a, b, c]) (k : Ap a b → Ap a c → Ap b c → C) : C :=
  have H := h.get
  k H.1.1 H.1.2.1 H.2.1.1
theorem Dis.e4 {a b c d : Nat} {C : Prop} (h : Dis [a, b, c, d]) (k : Ap a b → Ap a c → Ap a d → Ap b c → Ap b d → Ap c d → C) : C :=
  have H := h.get
  k H.1.1 H.1.2.1 H.1.2.2.1 H.2.1.1 H.2.1.2.1 H.2.2.1.1
theorem Dis.e5 {a b c d e : Nat} {C : Prop} (h : Dis [a, b, c, d, e]) (k : Ap a b → Ap a c → Ap a d → Ap a e → Ap b c → Ap b d → Ap b e → Ap c d → Ap c e → Ap d e → C) : C :=
  have H := h.get
  k H.1.1 H.1.2.1 H.1.2.2.1 H.1.2.2.2.1 H.2.1.1 H.2.1.2.1 H.2.1.2.2.1 H.2.2.1.1 H.2.2.1.2.1 H.2.2.2.1.1
theorem Dis.e7 {a b c d e f g : Nat} {C : Prop} (h : Dis [a, b, c, d, e, f, g]) (k : Ap a b → Ap a c → Ap a d → Ap a e → Ap a f → Ap a g → Ap b c → Ap b d → Ap b e → Ap b f → Ap b g → Ap c d → Ap c e → Ap c f → Ap c g → Ap d e → Ap d f → Ap d g → Ap e f → Ap e g → Ap f g → C) : C :=
  have H := h.get
  k H.1.1 H.1.2.1 H.1.2.2.1 H.1.2.2.2.1 H.1.2.2.2.2.1 H.1.2.2.2.2.2.1 H.2.1.1 H.2.1.2.1 H.2.1.2.2.1 H.2.1.2.2.2.1 H.2.1.2.2.2.2.1 H.2.2.1.1 H.2.2.1.2.1 H.2.2.1.2.2.1 H.2.2.1.2.2.2.1 H.2.2.2.1.1 H.2.2.2.1.2.1 H.2.2.2.1.2.2.1 H.2.2.2.2.1.1 H.2.2.2.2.1.2.1 H.2.2.2.2.2.1.1
theorem ptLen_le {ps : List Pt} (hsz : ps.length ≤ 900) (hlen : ∀ q ∈ ps, q.f.length ≤ 1000 ∧ q.w.length ≤ 1000) : ptLen ps ≤ 1800000 := by
  have key : ∀ ps : List Pt, (∀ q ∈ ps, q.f.length ≤ 1000 ∧ q.w.length ≤ 1000) → ptLen ps ≤ ps.length * 2000 := by
    intro ps
    induction ps with
    | nil => intro _; exact Nat.le_refl _
    | cons q r ih =>
      intro h
      have h1 := ih fun t ht => h t (.tail _ ht)
      have h2 := h q (.head _)
      unfold ptLen at *
      rw [List.map_cons, List.sum_cons, List.length_cons, Nat.succ_mul]
      omega
  have := key ps hlen
  have : ps.length * 2000 ≤ 900 * 2000 := Nat.mul_le_mul_right _ hsz
  omega
section
variable {prog : Program} {w : World} {A : Around} {E : Value → Shared → Prop} {s : Shared} {h₀ : Heap} {L a b : Addr} {news : List (Addr × Obj)}
theorem shaped_pair {p q : Str} (hp : PyData.strOk p = true) (hq : PyData.strOk q = true) : SeqAt.shaped (.tuple [.str p, .str q]) = true := by
  simp [SeqAt.shaped, PyData.canLay0, PyData.canLayAll0, PyData.depth, PyData.depthAll, hp, hq]
theorem ne_pairs {p q r u : Str} {t1 t2 t3 t4 : Tok} {Q : Value → Shared → Prop} (N : News h₀ L s.heap news) (ha : (a, tupL [.str p t1, .str q t2]) ∈ news) (hb : (b, tupL [.str r t3, .str u t4]) ∈ news)
    (hp : PyData.strOk p = true) (hq : PyData.strOk q = true) (hr : PyData.strOk r = true) (hu : PyData.strOk u = true) (hun : A.units + 64 < cLine) (h : Q (.bool (!(p == r && q == u))) s) :
    wpAny (model prog w) A (compareOp .NotEq (.ref a) (.ref b)) Q E s := by
  refine PyProof.Rows.ne_dataH (reads_tuple_at (N.get ha) rfl rfl (.cons (.str _ _) (.cons (.str _ _) .nil))) (reads_tuple_at (N.get hb) rfl rfl (.cons (.str _ _) (.cons (.str _ _) .nil))) (shaped_pair hp hq) (shaped_pair hr hu) hun ?_
  simp only [PyData.eqv, PyData.eqvAll, Bool.and_true]
  exact h
theorem ne_pairs2 {p q r u : Str} {t1 t2 t3 t4 : Tok} {Q : Value → Shared → Prop} (N : News h₀ L s.heap news) (ha : (a, tupL [.str p t1, .str q t2]) ∈ news) (hb : (b, tupL [.str r t3, .str u t4]) ∈ news)
    (hp : PyData.strOk p = true) (hq : PyData.strOk q = true) (hr : PyData.strOk r = true) (hu : PyData.strOk u = true) (hun : A.units + 64 < cLine) (hne : q ≠ u) (h : Q (.bool true) s) :
    wpAny (model prog w) A (compareOp .NotEq (.ref a) (.ref b)) Q E s := by
  refine ne_pairs N ha hb hp hq hr hu hun ?_
  rw [show (q == u) = false from beq_eq_false_iff_ne.mpr hne, Bool.and_false]
  exact h
end
end
section
theorem off_CEq : True := by
  k_with_none
  trivial
open PySem PySem.W PyProof.Rows PySem.Calls
theorem on_CEq0 : True := by
 k_with_none
 k_with "ax" => first | assumption | exact ja0 ‹_› | exact ja1 ‹_› | exact je1 ‹_› | exact ja2 ‹_› | exact ja3 ‹_› | exact ja4 ‹_› | exact ja5 ‹_› | exact je5 ‹_› | exact ja6 ‹_› | exact ja7 ‹_› | exact je7 ‹_› | exact ja8 ‹_› | exact ja9 ‹_› | exact je13 ‹_› | exact je14 ‹_›
 k_with "nx" => with_reducible (first | (refine Nat.ne_of_lt ?_; (repeat (first | exact js | refine jl ?_)); all_goals k_extra "ax") | (refine Nat.ne_of_gt ?_; (repeat (first | exact js | refine jl ?_)); all_goals k_extra "ax") | k_extra "ax" | (refine Ne.symm ?_; k_extra "ax"))
 k_with "rm" => ((with_reducible first | exact room0 ‹_› | refine room1 ‹_› ?_ | refine room2 ‹_› ?_ | refine room3 ‹_› ?_ | refine room4 ‹_› ?_); all_goals exact rfl)
 k_with "om" => first | (with_reducible first | k_extra "ax" | exact jn ‹_› | exact jn (ja0 ‹_›) | (refine Nat.lt_trans ?_ ‹_›; k_extra "ax")) | decide | omega
 k_with "hk" => (with_reducible first | (refine hKq _ _ ?_; clear hKq; (try clear Kq)))
 k_with "q:k_ne" => (refine neN ?_; (try dsimp only); first | k_extra "nx" | omega)
 k_with "q:k_room" => row_timed "f" (fail; ((try simp only [depth_under_make, depth_under_kw, depth_in1, depth_deeper]); (try dsimp only); first | k_extra "rm" | omega))
 k_with "q:k_units" => row_timed "f" (fail; ((try simp only [Around.deeper_units, Around.in1_units, Around.mark_units]); (try dsimp only); first | k_extra "rm" | omega))
 k_with "q:k_mem" => row_timed "f" (fail; (with_reducible_and_instances (repeat (first | exact List.Mem.head _ | refine List.Mem.tail _ ?_)); done))
 k_with "q:k_inst" => row_timed "f" (fail; (refine' instAcc_news ?NZ ?h1Z ?h2Z; (case NZ => k_asm); (case h1Z | h2Z => k_mem)))
 trivial
section
variable {w : World} {A₀ : Around} {base h₀ : Heap} {env : Env} {outer : List Env} {dd uu : Nat} {gs : Option (List Code)} {L : Addr} {m mg mb : Str → Option Value} {s : Shared} {own : List (Addr × Obj)} {p : Program} {loose : List Str} {mean : ExcName → Option Value} {Q : Value → Shared → Prop} {E : Value → Shared → Prop}
  (B : Below A₀ base outer h₀) (F : Fr h₀ L s.heap m) (KX : (Mine.hd.heap_1 w.params).In h₀) (T : Top p loose mean mg mb h₀) (hf : env.frame = some L) (hke : env.scope.kind = .function)
include B F KX T hf hke
variable {vs : List Value} {fs : List (Str × Str)} {x dx : Addr} {n : Nat} {t u : Tok} {i : Int} {o1 : Obj} {news : List (Addr × Obj)} {g : Obj → List (Addr × Obj)}
theorem len_K (N : News h₀ L s.heap news) (G : AllBare s.gens) (hx : (x, accO 227 dx vs.toArray n) ∈ news) (hdx : (dx, accD w.params t i u) ∈ news) (hv : PtsIn news vs fs) (U : UpdF 189 o1 news g)
   (hT : TabOk o1) (hd : dd + 40 < recursionLimit) (hu : uu + 300 < cLine) (hok : PtOk fs)
   (h : ∀ h' tk gs tv o2, Fr h₀ L h' m → AllBare gs → TabOk o2 → News h₀ L h' (g o2) → fwLen fs ≤ 1800000 → Q (.int (i + fwLen fs) tv) { s with heap := h', toks := tk, gens := gs }) :
   wpAny (model rw_wn0107_02.row.toRowW.prog w) ⟨none, dd, some (env :: outer), gs, uu⟩ (call (.ref 194) [.ref x]) Q E s := by
  obtain ⟨ps, rfl, rfl, hps⟩ := hv
  obtain ⟨hsz, hlen⟩ := hok.pts
  simp only [← ptLen_fw, ← ptStr_fw] at h
  obtain ⟨own, h1, h2, h3, h4⟩ := updF_own U
  refine len_in (own := own) B F KX T hf hke (subN N (fm hx (fm hdx (fm (updF_mem U) (fun q hq => (List.mem_append.mp hq).elim (hps q) (h1 q)))))) hT G (tab_ne U hT hx (fun e => by cases e)) (tab_ne U hT hdx (fun e => by cases e)) (ptN_off U hT hps h2) hd hu hsz hlen
    fun h' tk gs tv o2 F' G' hT' N' => h h' tk gs tv o2 F' G' hT' (subN N' fun p hp => ?_) (ptLen_le hsz hlen)
  rcases h4 _ p hp with rfl | hp
  · exact .tail _ (.tail _ (.head _))
  · exact .tail _ (.tail _ (.tail _ (List.mem_append_right _ hp)))
theorem str_K (N : News h₀ L s.heap news) (G : AllBare s.gens) (hx : (x, accO 227 dx vs.toArray n) ∈ news) (hdx : (dx, accD w.params t i u) ∈ news) (hv : PtsIn news vs fs) (U : UpdF 196 o1 news g)
   (hT : TabOk o1) (hd : dd + 40 < recursionLimit) (hu : uu + 300 < cLine) (hok : PtOk fs)
   (h : ∀ h' tk gs tv o2, Fr h₀ L h' m → AllBare gs → TabOk o2 → News h₀ L h' (g o2) → Q (.str (fwStr fs) tv) { s with heap := h', toks := tk, gens := gs }) :
   wpAny (model rw_wn0107_02.row.toRowW.prog w) ⟨none, dd, some (env :: outer), gs, uu⟩ (call (.ref 201) [.ref x]) Q E s := by
  obtain ⟨ps, rfl, rfl, hps⟩ := hv
  obtain ⟨hsz, hlen⟩ := hok.pts
  simp only [← ptLen_fw, ← ptStr_fw] at h
  obtain ⟨own, h1, h2, h3, h4⟩ := updF_own U
  refine str_in (own := own) B F KX T hf hke (subN N (fm hx (fm hdx (fm (updF_mem U) (fun q hq => (List.mem_append.mp hq).elim (hps q) (h1 q)))))) hT G (tab_ne U hT hx (fun e => by cases e)) (tab_ne U hT hdx (fun e => by cases e)) (ptN_off U hT hps h2) hd hu hsz hlen
    fun h' tk gs tv o2 F' G' hT' N' => h h' tk gs tv o2 F' G' hT' (subN N' fun p hp => ?_)
  rcases h4 _ p hp with rfl | hp
  · exact .tail _ (.tail _ (.head _))
  · exact .tail _ (.tail _ (.tail _ (List.mem_append_right _ hp)))
end
end
section
theorem off_CFq : True := by
  k_with_none
  trivial
open PySem PySem.W PyProof.Rows PySem.Calls
theorem on_CFq0 : True := by
 k_with_none
 k_with "pt" => (first | exact PtsIn.nil | exact PtsIn.one (by k_mem) | exact PtsIn.mono (by assumption) (by (intro q hq; (repeat (first | exact hq | exact List.mem_append_left _ hq | refine List.Mem.tail _ ?_ | refine List.mem_append_right _ ?_)))) | exact PtsIn.snoc (PtsIn.mono (by assumption) (by (intro q hq; (repeat (first | exact hq | exact List.mem_append_left _ hq | refine List.Mem.tail _ ?_ | refine List.mem_append_right _ ?_))))) (by k_mem))
 k_with "ps" => (first | assumption | decide | ((try dsimp only); first | assumption | decide | k_extra "om" | (simp only [List.length_nil, List.length_append, List.length_cons]; k_extra "om")))
 k_with "ax" => first | assumption | exact ja0 ‹_› | exact ja1 ‹_› | exact je1 ‹_› | exact ja2 ‹_› | exact ja3 ‹_› | exact ja4 ‹_› | exact ja5 ‹_› | exact je5 ‹_› | exact ja6 ‹_› | exact ja7 ‹_› | exact je7 ‹_› | exact ja8 ‹_› | exact ja9 ‹_› | exact je13 ‹_› | exact je14 ‹_›
 k_with "nx" => with_reducible (first | (refine Nat.ne_of_lt ?_; (repeat (first | exact js | refine jl ?_)); all_goals k_extra "ax") | (refine Nat.ne_of_gt ?_; (repeat (first | exact js | refine jl ?_)); all_goals k_extra "ax") | k_extra "ax" | (refine Ne.symm ?_; k_extra "ax"))
 k_with "rm" => ((with_reducible first | exact room0 ‹_› | refine room1 ‹_› ?_ | refine room2 ‹_› ?_ | refine room3 ‹_› ?_ | refine room4 ‹_› ?_); all_goals exact rfl)
 k_with "om" => first | (with_reducible first | k_extra "ax" | exact jn ‹_› | exact jn (ja0 ‹_›) | (refine Nat.lt_trans ?_ ‹_›; k_extra "ax")) | decide | omega
 k_with "hk" => (with_reducible first | (refine hKq _ _ ?_; clear hKq; (try clear Kq)))
 k_with "q:execs cons" => (k_here; (with_reducible refine execs_consK ?_); intro Kq tkq hKq)
 k_with "q:k_ne" => (refine neN ?_; (try dsimp only); first | k_extra "nx" | omega)
 k_with "q:sub9" => row_timed "f" (fail; (repeat' (first | (refine fm (by k_mem) ?_) | exact List.forall_mem_nil _ | (intro pZ hpZ; (repeat (first | with_reducible_and_instances exact hpZ | with_reducible_and_instances exact List.mem_append_right _ hpZ | refine List.Mem.tail _ ?_)); done) | exact fun _ hpZ => hpZ | (intro pZ hpZ; (repeat (first | exact hpZ | exact List.mem_append_right _ hpZ | refine List.Mem.tail _ ?_))))))
 k_with "q:k_room" => row_timed "f" (fail; ((try simp only [depth_under_make, depth_under_kw, depth_in1, depth_deeper]); (try dsimp only); first | k_extra "rm" | omega))
 k_with "q:k_units" => row_timed "f" (fail; ((try simp only [Around.deeper_units, Around.in1_units, Around.mark_units]); (try dsimp only); first | k_extra "rm" | omega))
 k_with "q:k_mem" => row_timed "f" (fail; (with_reducible_and_instances (repeat (first | exact List.Mem.head _ | refine List.Mem.tail _ ?_)); done))
 k_with "q:getMethod ref" => row_timed "f" (fail; (k_here; k_dflt (refine' methodL_fn ?k1Z ?k2Z ?k3Z (z227_get _) ?k5Z ?k6Z ?k7Z ?_; (case k1Z | k2Z => k_asm); (case k3Z => refine' instAcc_news ?NZ ?h1Z ?h2Z; (case NZ => k_asm); (case h1Z | h2Z => k_mem)); (case k5Z | k6Z => k_is); (case k7Z => k_get); k_whole)))
 k_with "q:getAttr ref" => row_timed "f" (fail; (k_here; k_dflt (refine' getL_own ?k1Z ?k2Z ?k3Z (z227 _) (z227_get _) ?k4Z ?k5Z ?k6Z ?k7Z ?k8Z ?_; (case k1Z | k2Z => k_asm); (case k3Z => refine' instAcc_news ?NZ ?h1Z ?h2Z; (case NZ => k_asm); (case h1Z | h2Z => k_mem)); (case k4Z | k5Z | k6Z => k_is); (case k7Z => k_get); (case k8Z => k_handed); k_whole)))
 k_with "q:k_inst" => row_timed "f" (fail; (refine' instAcc_news ?NZ ?h1Z ?h2Z; (case NZ => k_asm); (case h1Z | h2Z => k_mem)))
 k_with "q:k_ne" => (refine neN ?_; (try dsimp only); first | exact Ap.ne (by assumption) | exact Ne.symm (Ap.ne (by assumption)) | k_extra "nx" | omega)
 k_with "q:LenBack" => row_timed "f" (fail; ((dsimp only [W.LenBack]); refine ⟨⟨by k_extra "om", by k_extra "om"⟩, ?_⟩))
 k_with "q:NeBack" => row_timed "f" (fail; ((dsimp only [NeBack]); rw [ne_tt (by k_extra "om")]))
 k_with "q:StrBack" => row_timed "f" (fail; (dsimp only [W.StrBack]))
 k_with "q:truthy ref" => row_timed "f" (fail; (k_here; k_dflt (refine' truthy_len ?k1Z ?k2Z ?k3Z ?k4Z ?k5Z ?k6Z ?_; (case k1Z | k2Z => k_asm); (case k3Z => k_inst); (case k4Z | k5Z | k6Z => k_is); k_whole)))
 k_with "q:call ref" => row_timed "f" (fail; (k_here; (with_reducible show wpAny _ _ (call (Value.ref 194) _) _ _ _); k_dflt (refine' len_K ?BZ ?FZ ?KXZ ?TZ ?hfZ ?hkeZ ?NZ ?GZ ?hxZ ?hdxZ ?hvZ ?UZ ?hTZ ?hdZ ?huZ ?hokZ ?_; (case BZ | FZ => k_asm); (case KXZ | TZ => k_asm); (case hfZ | hkeZ => exact rfl); (case NZ | GZ => k_asm); (case hxZ | hdxZ => k_mem); (case hvZ => (k_extra "pt")); (case UZ => k_updF); (case hTZ => k_asm); (case hdZ => k_room); (case huZ => k_units); (case hokZ => (first | assumption | exact PtOk.nil | exact PtOk.one (by (k_extra "ps")) (by (k_extra "ps")) | (refine PtOk.snoc (by first | assumption | exact PtOk.nil | (refine PtOk.snoc (by first | assumption | exact PtOk.nil) (by (k_extra "ps")) (by (k_extra "ps")) (by (k_extra "ps")))) (by (k_extra "ps")) (by (k_extra "ps")) (by (k_extra "ps"))))); k_whole); intro h'Z tk'Z gs'Z tv'Z o2Z F'Z G'Z hT'Z N'Z hPl'Z; (try dsimp only at N'Z); (try dsimp only); (try k_sweep)))
 k_with "q:call ref" => row_timed "f" (fail; (k_here; (with_reducible show wpAny _ _ (call (Value.ref 201) _) _ _ _); k_dflt (refine' str_K ?BZ ?FZ ?KXZ ?TZ ?hfZ ?hkeZ ?NZ ?GZ ?hxZ ?hdxZ ?hvZ ?UZ ?hTZ ?hdZ ?huZ ?hokZ ?_; (case BZ | FZ => k_asm); (case KXZ | TZ => k_asm); (case hfZ | hkeZ => exact rfl); (case NZ | GZ => k_asm); (case hxZ | hdxZ => k_mem); (case hvZ => (k_extra "pt")); (case UZ => k_updF); (case hTZ => k_asm); (case hdZ => k_room); (case huZ => k_units); (case hokZ => (first | assumption | exact PtOk.nil | exact PtOk.one (by (k_extra "ps")) (by (k_extra "ps")) | (refine PtOk.snoc (by first | assumption | exact PtOk.nil | (refine PtOk.snoc (by first | assumption | exact PtOk.nil) (by (k_extra "ps")) (by (k_extra "ps")) (by (k_extra "ps")))) (by (k_extra "ps")) (by (k_extra "ps")) (by (k_extra "ps"))))); k_whole); intro h'Z tk'Z gs'Z tv'Z o2Z F'Z G'Z hT'Z N'Z; (try dsimp only at N'Z); (try dsimp only); (try k_sweep)))
 trivial
section
variable {w : World} {A₀ : Around} {base h₀ : Heap} {env : Env} {outer : List Env} {dd uu : Nat} {gs : Option (List Code)} {L : Addr} {m mg mb : Str → Option Value} {s : Shared} {own : List (Addr × Obj)} {p : Program} {loose : List Str} {mean : ExcName → Option Value} {Q : Value → Shared → Prop} {E : Value → Shared → Prop}
  (B : Below A₀ base outer h₀) (F : Fr h₀ L s.heap m) (KX : (Mine.hd.heap_1 w.params).In h₀) (T : Top p loose mean mg mb h₀) (hf : env.frame = some L) (hke : env.scope.kind = .function)
include B F KX T hf hke
variable {x dx : Addr} {ps : List Pt} {n : Nat} {t u : Tok} {i : Int} {o1 o2 : Obj}
theorem onlyws0_in (N : News h₀ L s.heap ((x, accO 227 dx (ptV ps).toArray n) :: (dx, accD w.params t i u) :: own)) (hi : 0 < i)
   (hd : dd + 50 < recursionLimit) (hu : uu + 400 < cLine)
   (h : ∀ h' tk, Fr h₀ L h' m → News h₀ L h' ((x, accO 227 dx (ptV ps).toArray n) :: (dx, accD w.params t i u) :: own) → Q (.bool false) { s with heap := h', toks := tk }) :
   wpAny (model rw_wn0107_02.row.toRowW.prog w) ⟨none, dd, some (env :: outer), gs, uu⟩ (call (.ref 216) [.ref x]) Q E s := by
  revert KX; k_fill; intro KX
  refine wpAny_call ?_
  refine' code_def ?k1 ?k2 ?k3 ?k4 ?k5 ?kA ?kF ?kK ?k6 ?k7 ?k8 ?k9 ?kB ?_ ?c2 ?c3 ?c4 ?c5
  case kA => exact rfl
  case kF => exact hf
  case kK => exact hke
  case k1 => k_asm
  case k2 => k_asm
  case k3 => k_asm
  case k4 => k_asm
  case k5 => k_asm
  case k6 => k_is
  case k7 => k_is
  case k8 => show dd < recursionLimit; first | exact room0 (by assumption) | k_extra "om"
  case k9 => first | exact BindsTo.of_eq rfl | exact binds_K (by k_in) rfl (by k_is) rfl rfl rfl
  case c5 => decide
  case kB => exact locs rfl
  case c2 => exact rfl
  case c3 => exact rfl
  case c4 => exact rfl
  k_whole; intro g' L' h' FG' F' N' B' X' T'; (try dsimp only); (try k_lift B'); (try k_fold); clear B F KX N T FG'
  k_steps
  · exfalso; k_extra "om"
  refine leaveK_ (by k_asm) (by k_asm) fun kF kN => ?_
  have e : (i == 0) = false := by simp; k_extra "om"
  have e2 : decide (i = 0) = false := by simp; k_extra "om"
  simp only [e, e2]
  exact h _ _ kF (subN kN (by walk_at "sub9"))
theorem onlyws_in (N : News h₀ L s.heap ((x, accO 227 dx (ptV ps).toArray n) :: (dx, accD w.params t 0 u) :: (189, o1) :: (196, o2) :: (ptN ps ++ own)))
   (hT : TabOk o1) (hT2 : TabOk o2) (G : AllBare s.gens) (hne : @Ne Nat x 189) (hne2 : @Ne Nat dx 189) (hne3 : @Ne Nat x 196) (hne4 : @Ne Nat dx 196) (ho : OwnOff (ptN ps ++ own) [189, 196])
   (hd : dd + 50 < recursionLimit) (hu : uu + 400 < cLine) (hok : PtOk (ps.map Pt.fw)) (hpos : 0 < fwLen (ps.map Pt.fw))
   (h : ∀ h' tk gs o1 o2, Fr h₀ L h' m → AllBare gs → TabOk o1 → TabOk o2 → News h₀ L h' ((x, accO 227 dx (ptV ps).toArray n) :: (dx, accD w.params t 0 u) :: (189, o1) :: (196, o2) :: (ptN ps ++ own)) → Q (.bool (Txt.isspace (fwStr (ps.map Pt.fw)))) { s with heap := h', toks := tk, gens := gs }) :
   wpAny (model rw_wn0107_02.row.toRowW.prog w) ⟨none, dd, some (env :: outer), gs, uu⟩ (call (.ref 216) [.ref x]) Q E s := by
  revert KX; k_fill; intro KX
  refine wpAny_call ?_
  refine' code_def ?k1 ?k2 ?k3 ?k4 ?k5 ?kA ?kF ?kK ?k6 ?k7 ?k8 ?k9 ?kB ?_ ?c2 ?c3 ?c4 ?c5
  case kA => exact rfl
  case kF => exact hf
  case kK => exact hke
  case k1 => k_asm
  case k2 => k_asm
  case k3 => k_asm
  case k4 => k_asm
  case k5 => k_asm
  case k6 => k_is
  case k7 => k_is
  case k8 => show dd < recursionLimit; first | exact room0 (by assumption) | k_extra "om"
  case k9 => first | exact BindsTo.of_eq rfl | exact binds_K (by k_in) rfl (by k_is) rfl rfl rfl
  case c5 => decide
  case kB => exact locs rfl
  case c2 => exact rfl
  case c3 => exact rfl
  case c4 => exact rfl
  k_whole; intro g' L' h' FG' F' N' B' X' T'; (try dsimp only); (try k_lift B'); (try k_fold); clear B F KX N T FG'
  have hv : PtsIn (ptN ps) (ptV ps) (ps.map Pt.fw) := ⟨ps, rfl, rfl, fun _ h => h⟩
  k_steps
  refine leaveK_ (by k_asm) (by k_asm) fun kF kN => ?_
  refine' h _ _ _ _ _ kF ?g ?t1 ?t2 (subN kN ?sub)
  case sub => walk_at "sub9"
  all_goals assumption
end
end
section
theorem off_CGq : True := by
  k_with_none
  trivial
open PySem PySem.W PyProof.Rows PySem.Calls
theorem on_CGq0 : True := by
 k_with_none
 k_with "ax" => first | assumption | exact ja0 ‹_› | exact ja1 ‹_› | exact je1 ‹_› | exact ja2 ‹_› | exact ja3 ‹_› | exact ja4 ‹_› | exact ja5 ‹_› | exact je5 ‹_› | exact ja6 ‹_› | exact ja7 ‹_› | exact je7 ‹_› | exact ja8 ‹_› | exact ja9 ‹_› | exact je13 ‹_› | exact je14 ‹_›
 k_with "nx" => with_reducible (first | (refine Nat.ne_of_lt ?_; (repeat (first | exact js | refine jl ?_)); all_goals k_extra "ax") | (refine Nat.ne_of_gt ?_; (repeat (first | exact js | refine jl ?_)); all_goals k_extra "ax") | k_extra "ax" | (refine Ne.symm ?_; k_extra "ax"))
 k_with "rm" => ((with_reducible first | exact room0 ‹_› | refine room1 ‹_› ?_ | refine room2 ‹_› ?_ | refine room3 ‹_› ?_ | refine room4 ‹_› ?_); all_goals exact rfl)
 k_with "om" => first | (with_reducible first | k_extra "ax" | exact jn ‹_› | exact jn (ja0 ‹_›) | (refine Nat.lt_trans ?_ ‹_›; k_extra "ax")) | decide | omega
 k_with "hk" => (with_reducible first | (refine hKq _ _ ?_; clear hKq; (try clear Kq)))
 k_with "q:k_ne" => (refine neN ?_; (try dsimp only); first | k_extra "nx" | omega)
 k_with "q:sub9" => row_timed "f" (fail; (repeat' (first | (refine fm (by k_mem) ?_) | exact List.forall_mem_nil _ | (intro pZ hpZ; (repeat (first | with_reducible_and_instances exact hpZ | with_reducible_and_instances exact List.mem_append_right _ hpZ | refine List.Mem.tail _ ?_)); done) | exact fun _ hpZ => hpZ | (intro pZ hpZ; (repeat (first | exact hpZ | exact List.mem_append_right _ hpZ | refine List.Mem.tail _ ?_))))))
 trivial
section
variable {w : World} {A₀ : Around} {base h₀ : Heap} {env : Env} {outer : List Env} {dd uu : Nat} {gs : Option (List Code)} {L : Addr} {m mg mb : Str → Option Value} {s : Shared} {own : List (Addr × Obj)} {p : Program} {loose : List Str} {mean : ExcName → Option Value} {Q : Value → Shared → Prop} {E : Value → Shared → Prop}
  (B : Below A₀ base outer h₀) (F : Fr h₀ L s.heap m) (KX : (Mine.hd.heap_1 w.params).In h₀) (T : Top p loose mean mg mb h₀) (hf : env.frame = some L) (hke : env.scope.kind = .function)
include B F KX T hf hke
variable {vs : List Value} {fs : List (Str × Str)} {x dx : Addr} {ps : List Pt} {xs : List Value} {n : Nat} {t u : Tok} {i : Int} {o1 o2 : Obj} {news : List (Addr × Obj)} {g : Obj → List (Addr × Obj)} {g2 : Obj → Obj → List (Addr × Obj)}
theorem pop0_K (N : News h₀ L s.heap news) (hx : (x, accO 227 dx #[] n) ∈ news) (hdx : (dx, accD w.params t i u) ∈ news)
   (hd : dd + 30 < recursionLimit) (hu : uu + 300 < cLine)
   (h : ∀ h' tk tp t1 t2, Fr h₀ L h' m → News h₀ L h' ((tp, tupL [.str "" t1, .str "" t2]) :: news) → (∀ p ∈ news, p.1 < tp) → Q (.ref tp) { s with heap := h', toks := tk }) :
   wpAny (model rw_wn0107_02.row.toRowW.prog w) ⟨none, dd, some (env :: outer), gs, uu⟩ (call (.ref 187) [.ref x]) Q E s :=
  pop0_in (own := news) B F KX T hf hke (subN N (by exact fm hx (fm hdx (fun _ hp => hp)))) hd hu fun h' tk tp t1 t2 F' N' _ _ c => h h' tk tp t1 t2 F' (subN N' (by walk_at "sub9")) c
theorem pop_K {ys : List Value} {v : Value} (N : News h₀ L s.heap news) (hdx : (dx, accD w.params t i u) ∈ news) (U : UpdF x (accO 227 dx (ys ++ [v]).toArray n) news g)
   (hd : dd + 30 < recursionLimit) (hu : uu + 300 < cLine) (hsz : ys.length ≤ 900)
   (h : ∀ h' tk n', Fr h₀ L h' m → News h₀ L h' (g (accO 227 dx ys.toArray n')) → Q v { s with heap := h', toks := tk }) :
   wpAny (model rw_wn0107_02.row.toRowW.prog w) ⟨none, dd, some (env :: outer), gs, uu⟩ (call (.ref 187) [.ref x]) Q E s := by
  obtain ⟨own, h1, h2, h3, h4⟩ := updF_own U
  refine pop_in (own := own) B F KX T hf hke (subN N (fm (updF_mem U) (fm hdx h1))) (updF_ne U hdx accD_ne) h2 hd hu hsz fun h' tk n' F' N' => h h' tk n' F' (subN N' fun p hp => ?_)
  rcases h4 _ p hp with rfl | hp
  · exact .head _
  · exact .tail _ (.tail _ hp)
theorem pop_from_K {k : Nat} {tk : Tok} (N : News h₀ L s.heap news) (hdx : (dx, accD w.params t i u) ∈ news) (U : UpdF x (accO 227 dx xs.toArray n) news g)
   (hd : dd + 30 < recursionLimit) (hu : uu + 300 < cLine) (hsz : xs.length ≤ 900) (hk : k ≤ xs.length)
   (h : ∀ h' tk n' D n2, Fr h₀ L h' m → News h₀ L h' ((D, lsO (xs.drop k) n2) :: g (accO 227 dx (xs.take k).toArray n')) → (∀ p ∈ news, p.1 < D) → Q (.ref D) { s with heap := h', toks := tk }) :
   wpAny (model rw_wn0107_02.row.toRowW.prog w) ⟨none, dd, some (env :: outer), gs, uu⟩ (call (.ref 179) [.ref x, .int k tk]) Q E s := by
  obtain ⟨own, h1, h2, h3, h4⟩ := updF_own U
  refine pop_from_in (own := own) B F KX T hf hke (subN N (fm (updF_mem U) (fm hdx h1))) (updF_ne U hdx accD_ne) h2 hd hu hsz hk fun h' tk n' D n2 F' N' a b c => h h' tk n' D n2 F' (subN N' fun p hp => ?_) fun p hp => ?_
  · rcases List.mem_cons.mp hp with rfl | hp
    · exact .head _
    · rcases h4 _ p hp with rfl | hp
      · exact .tail _ (.head _)
      · exact .tail _ (.tail _ (.tail _ hp))
  · rcases h3 p hp with rfl | hp
    · exact a
    · exact c p hp
theorem reset0_K (N : News h₀ L s.heap news) (U : UpdF x (accO 227 dx xs.toArray n) news g) (V : ∀ o', UpdF dx (accD w.params t i u) (g o') (g2 o'))
   (hd : dd + 30 < recursionLimit) (hu : uu + 300 < cLine) (hsz : xs.length ≤ 900)
   (h : ∀ h' tk n' u', Fr h₀ L h' m → News h₀ L h' (g2 (accO 227 dx #[] n') (accD w.params t 0 u')) → Q .none { s with heap := h', toks := tk }) :
   wpAny (model rw_wn0107_02.row.toRowW.prog w) ⟨none, dd, some (env :: outer), gs, uu⟩ (call (.ref 209) [.ref x]) Q E s := by
  obtain ⟨own, h1, h2, h3, h4⟩ := updF_own2 U V
  have hdx : (dx, accD w.params t i u) ∈ news := by
    rcases h3 _ (updF_mem U) with _ | _
    · obtain ⟨_, _, hn, hg, _, _⟩ := U.split
      have e : g (accO 227 dx xs.toArray n) = news := by rw [hg, hn]
      exact e ▸ updF_mem (V _)
    · obtain ⟨_, _, hn, hg, _, _⟩ := U.split
      have e : g (accO 227 dx xs.toArray n) = news := by rw [hg, hn]
      exact e ▸ updF_mem (V _)
  refine reset0_in (own := own) B F KX T hf hke (subN N (fm (updF_mem U) (fm hdx h1))) (updF_ne U hdx accD_ne) h2 hd hu hsz fun h' tk n' u' F' N' => h h' tk n' u' F' (subN N' fun p hp => ?_)
  rcases h4 _ _ p hp with rfl | rfl | hp
  · exact .head _
  · exact .tail _ (.head _)
  · exact .tail _ (.tail _ hp)
theorem pop_last_K {vs : List Value} {v : Value} {z : Int} {tk : Tok} (N : News h₀ L s.heap news) (hdx : (dx, accD w.params t i u) ∈ news) (U : UpdF x (accO 227 dx (vs ++ [v]).toArray n) news g) (hz : z = ((vs.length : Nat) : Int))
   (hd : dd + 30 < recursionLimit) (hu : uu + 300 < cLine) (hsz : (vs ++ [v]).length ≤ 900)
   (h : ∀ h' tk n' D n2, Fr h₀ L h' m → News h₀ L h' ((D, lsO [v] n2) :: g (accO 227 dx vs.toArray n')) → (∀ p ∈ news, p.1 < D) → Q (.ref D) { s with heap := h', toks := tk }) :
   wpAny (model rw_wn0107_02.row.toRowW.prog w) ⟨none, dd, some (env :: outer), gs, uu⟩ (call (.ref 179) [.ref x, .int z tk]) Q E s := by
  subst hz
  refine pop_from_K (k := vs.length) B F KX T hf hke N hdx U hd hu hsz (by simp) fun h' tk n' D n2 F' N' l => ?_
  rw [List.drop_left, List.take_left] at N'
  exact h h' tk n' D n2 F' N' l
theorem reset_K {l : Addr} {ys : List Value} {nl : Nat} (N : News h₀ L s.heap news) (U : UpdF x (accO 227 dx xs.toArray n) news g) (V : ∀ o', UpdF dx (accD w.params t i u) (g o') (g2 o')) (hl : (l, lsO ys nl) ∈ news)
   (hd : dd + 30 < recursionLimit) (hu : uu + 300 < cLine) (hsz : xs.length ≤ 900) (hsy : ys.length ≤ 900)
   (h : ∀ h' tk n' u', Fr h₀ L h' m → News h₀ L h' (g2 (accO 227 dx ys.toArray n') (accD w.params t 0 u')) → Q .none { s with heap := h', toks := tk }) :
   wpAny (model rw_wn0107_02.row.toRowW.prog w) ⟨none, dd, some (env :: outer), gs, uu⟩ (call (.ref 209) [.ref x, .ref l]) Q E s := by
  obtain ⟨own, h1, h2, h3, h4⟩ := updF_own2 U V
  have e : g (accO 227 dx xs.toArray n) = news := by obtain ⟨_, _, hn, hg, _, _⟩ := U.split; rw [hg, hn]
  have V' := V (accO 227 dx xs.toArray n)
  rw [e] at V'
  have hdx := updF_mem V'
  refine reset_in (own := own) B F KX T hf hke (subN N (fm (updF_mem U) (fm hdx (fm hl h1)))) (updF_ne U hdx accD_ne) (updF_ne U hl fun e => by cases congrArg Obj.cls e) (updF_ne V' hl fun e => by injection (congrArg Obj.cls e) with e; exact absurd e (by decide)) h2 hd hu hsz hsy fun h' tk n' u' F' N' => h h' tk n' u' F' (subN N' fun p hp => ?_)
  rcases h4 _ _ p hp with rfl | rfl | hp
  · exact .head _
  · exact .tail _ (.head _)
  · exact .tail _ (.tail _ (.tail _ hp))
theorem pop1_K {v : Value} (N : News h₀ L s.heap news) (hdx : (dx, accD w.params t i u) ∈ news) (U : UpdF x (accO 227 dx [v].toArray n) news g)
   (hd : dd + 30 < recursionLimit) (hu : uu + 300 < cLine)
   (h : ∀ h' tk n', Fr h₀ L h' m → News h₀ L h' (g (accO 227 dx #[] n')) → Q v { s with heap := h', toks := tk }) :
   wpAny (model rw_wn0107_02.row.toRowW.prog w) ⟨none, dd, some (env :: outer), gs, uu⟩ (call (.ref 187) [.ref x]) Q E s :=
  pop_K (ys := []) B F KX T hf hke N hdx U hd hu (by decide) h
theorem onlyws0_K (N : News h₀ L s.heap news) (hx : (x, accO 227 dx vs.toArray n) ∈ news) (hdx : (dx, accD w.params t i u) ∈ news) (hv : PtsIn news vs fs) (hi : 0 < i)
   (hd : dd + 50 < recursionLimit) (hu : uu + 400 < cLine)
   (h : ∀ h' tk, Fr h₀ L h' m → News h₀ L h' news → Q (.bool false) { s with heap := h', toks := tk }) :
   wpAny (model rw_wn0107_02.row.toRowW.prog w) ⟨none, dd, some (env :: outer), gs, uu⟩ (call (.ref 216) [.ref x]) Q E s := by
  obtain ⟨ps, rfl, rfl, hps⟩ := hv
  exact onlyws0_in (own := news) B F KX T hf hke (subN N (by exact fm hx (fm hdx (fun _ hp => hp)))) hi hd hu fun h' tk F' N' => h h' tk F' (subN N' (by walk_at "sub9"))
theorem onlyws_K (N : News h₀ L s.heap news) (G : AllBare s.gens) (hx : (x, accO 227 dx vs.toArray n) ∈ news) (hdx : (dx, accD w.params t 0 u) ∈ news) (hv : PtsIn news vs fs) (U : UpdF 189 o1 news g) (V : ∀ o', UpdF 196 o2 (g o') (g2 o'))
   (hT : TabOk o1) (hT2 : TabOk o2) (hd : dd + 50 < recursionLimit) (hu : uu + 400 < cLine) (hok : PtOk fs) (hpos : 0 < fwLen fs)
   (h : ∀ h' tk gs o1 o2, Fr h₀ L h' m → AllBare gs → TabOk o1 → TabOk o2 → News h₀ L h' (g2 o1 o2) → Q (.bool (Txt.isspace (fwStr fs))) { s with heap := h', toks := tk, gens := gs }) :
   wpAny (model rw_wn0107_02.row.toRowW.prog w) ⟨none, dd, some (env :: outer), gs, uu⟩ (call (.ref 216) [.ref x]) Q E s := by
  obtain ⟨ps, rfl, rfl, hps⟩ := hv
  obtain ⟨own, h1, h2, h3, h4⟩ := updF_own2 U V
  have e : g o1 = news := by obtain ⟨_, _, hn, hg, _, _⟩ := U.split; rw [hg, hn]
  have V' := V o1
  rw [e] at V'
  have ho : OwnOff (ptN ps ++ own) [189, 196] := fun p hp b hb => by
    rcases List.mem_cons.mp hb with rfl | hb
    · rcases List.mem_append.mp hp with hp | hp
      · exact ptN_off (own := []) U hT hps (fun _ h => nomatch h) p (List.mem_append_left _ hp) _ (.head _)
      · exact h2 p hp _ (.head _)
    · rw [List.mem_singleton] at hb; subst hb
      rcases List.mem_append.mp hp with hp | hp
      · exact ptN_off (own := []) V' hT2 hps (fun _ h => nomatch h) p (List.mem_append_left _ hp) _ (.head _)
      · exact h2 p hp _ (.tail _ (.head _))
  refine onlyws_in (own := own) B F KX T hf hke (subN N (fm hx (fm hdx (fm (updF_mem U) (fm (updF_mem V') (fun q hq => (List.mem_append.mp hq).elim (hps q) (h1 q))))))) hT hT2 G
    (tab_ne U hT hx (fun e => by cases e)) (tab_ne U hT hdx (fun e => by cases e)) (tab_ne V' hT2 hx (fun e => by cases e)) (tab_ne V' hT2 hdx (fun e => by cases e)) ho hd hu hok hpos
    fun h' tk gs o1 o2 F' G' hT1' hT2' N' => h h' tk gs o1 o2 F' G' hT1' hT2' (subN N' fun p hp => ?_)
  rcases h4 _ _ p hp with rfl | rfl | hp
  · exact .tail _ (.tail _ (.head _))
  · exact .tail _ (.tail _ (.tail _ (.head _)))
  · exact .tail _ (.tail _ (.tail _ (.tail _ (List.mem_append_right _ hp))))
theorem onlywsF_K (N : News h₀ L s.heap news) (G : AllBare s.gens) (hx : (x, accO 227 dx vs.toArray n) ∈ news) (hdx : (dx, accD w.params t i u) ∈ news) (hv : PtsIn news vs fs) (U : UpdF 189 o1 news g) (V : ∀ o', UpdF 196 o2 (g o') (g2 o'))
   (hT : TabOk o1) (hT2 : TabOk o2) (hd : dd + 50 < recursionLimit) (hu : uu + 400 < cLine) (hok : PtOk fs) (hpos : 0 < fwLen fs) (hi : 0 ≤ i) (hns : 0 < i ∨ Txt.isspace (fwStr fs) = false)
   (h : ∀ h' tk gs o1 o2, Fr h₀ L h' m → AllBare gs → TabOk o1 → TabOk o2 → News h₀ L h' (g2 o1 o2) → Q (.bool false) { s with heap := h', toks := tk, gens := gs }) :
   wpAny (model rw_wn0107_02.row.toRowW.prog w) ⟨none, dd, some (env :: outer), gs, uu⟩ (call (.ref 216) [.ref x]) Q E s := by
  by_cases hi' : 0 < i
  · have e1 : g o1 = news := by obtain ⟨_, _, hn, hg, _, _⟩ := U.split; rw [hg, hn]
    have e2 : g2 o1 o2 = news := by obtain ⟨_, _, hn, hg, _, _⟩ := (V o1).split; rw [hg, ← e1, hn]
    exact onlyws0_K B F KX T hf hke N hx hdx hv hi' hd hu fun h' tk F' N' => h h' tk _ o1 o2 F' G hT hT2 (e2 ▸ N')
  · obtain rfl : i = 0 := by k_extra "om"
    have hns' := hns.resolve_left (by decide)
    exact onlyws_K B F KX T hf hke N G hx hdx hv U V hT hT2 hd hu hok hpos fun h' tk gs o1 o2 F' G' a b N' => hns' ▸ h h' tk gs o1 o2 F' G' a b N'
end
end
section
theorem off_RNq : True := by
  k_with_none
  trivial
open PySem PySem.W PyProof.Rows PySem.Calls
section
variable {M : Model} {A : Around} {E : Value → Shared → Prop} {s : Shared}
theorem methodCall_star {o e : Expr} {name : Str} {apos pos p : Pos} {env : Env} {Q : Value → Shared → Prop}
    (h : wpAny M A (eval o env) (fun ov s₁ => wpAny M A (getAttr ov name true) (fun f s₂ => wpAny M A (callWith pos f [] (backTo pos (starEach [.Starred e p] env)) []) Q E s₂) E s₁) E s)
    (he : eval (.Call (.Attribute o name apos) [.Starred e p] [] pos) env = (do
      let ov ← eval o env
      standAt apos.atName
      let (f, first) ← holding [ov] (do pure (← getAttr ov name true, []))
      callWith pos f first (backTo pos (starEach [.Starred e p] env)) []) := by rfl) :
    wpAny M A (eval (.Call (.Attribute o name apos) [.Starred e p] [] pos) env) Q E s := by
  rw [he]
  refine wpAny_bind (wpAny_mono h (fun ov s₁ h₁ => wpAny_bind (wpAny_standAt (wpAny_bind (wpAny_holding (wpAny_bind (wpAny_mono h₁ (fun fx s₂ h₂ => wpAny_pure ?_) fun _ _ x => x)))))) fun _ _ x => x)
  exact h₂
end
section
variable {prog : Program} {w : World} {A : Around} {E : Value → Shared → Prop} {s : Shared} {K : Frag} {x C dx L f q : Addr} {h₀ : Heap} {m : Str → Option Value} {news : List (Addr × Obj)} {ox od : Obj} {name : Str}
theorem getL_meth {expr : Bool} {Q : Value → Shared → Prop} (F : Fr h₀ L s.heap m) (X₀ : K.In h₀) (N : News h₀ L s.heap news) (I : InstAt s.heap x ox C (some od)) (Z : LCls K C) (hg : listGet K C = true)
    (hf : findObj K C (some od) name = some (.bind (.builtin "function.__get__") (.ref f))) (ht : typeIn K (.ref f) = some (.type "function"))
    (h : ∀ q h', Fr h₀ L h' m → News h₀ L h' ((q, methodObj (.ref f) (.ref x)) :: news) → (∀ p ∈ news, p.1 < q) → Q (.ref q) { s with heap := h', toks := s.toks + 1 }) :
    wpAny (model prog w) A (getAttr (.ref x) name expr) Q E s := by
  have X := X₀.keeps F.keep
  obtain ⟨hh', g, d, t, os⟩ := s
  have L0 := I.type (M := model prog w)
  have Lg := looks_findIn (M := model prog w) X (listGet_of hg).1
  have Lk := looks_findIn (M := model prog w) X (listGet_of hg).2
  have L1 := looks_find (M := model prog w) X I hf
  have Ls : Looks (model prog w) hh' (isInstance (.ref x) (.type "list")) true := L0.andThen (looks_subIn X Z.sub)
  unfold getAttr getAttrBy
  refine wpAny_bind (wpAny_mkText (wpAny_holding (wpAny_bind (L0.at (wpAny_bind (Lg.at ?_))))))
  show wpAny _ _ (getAttrByItsOwn (.ref x) (.str name t) (.ref C) (.builtin "list.__getattribute__") true expr) _ _ _
  unfold getAttrByItsOwn hookBefore
  refine wpAny_bind ?_
  show wpAny _ _ (typeLookup (.ref C) "__getattr__") _ _ _
  refine Lk.at ?_
  refine wpAny_bind (wpAny_attempt (wpAny_holding ?_))
  show wpAny _ _ (callGetattribute _ _ _ _) _ _ _
  unfold callGetattribute
  have e : (expr && onTheHeap (.builtin "list.__getattribute__")) = false := by rw [show onTheHeap (.builtin "list.__getattribute__") = false from rfl, Bool.and_false]
  rw [e, if_neg (by decide)]
  unfold boundAndCalled
  refine wpAny_bind (wpAny_of_eq (PySem.F.slot_list_getattribute.bind (.ref x)) ?_)
  refine call_on (by decide +kernel) PySem.F.entry_list_ga (owner := "list") (nm := "__getattribute__") (by decide +kernel) (.inl (by decide +kernel)) Ls (PySem.F.args_list_getattribute_2 _ _) ?_
  show wpAny _ _ (Builtin.«object.__getattribute__» _) _ _ _
  unfold Builtin.«object.__getattribute__»
  refine wpAny_bind (wpAny_pure (wpAny_bind (wpAny_pure (wpAny_bind (L0.at (wpAny_bind (L1.at ?_)))))))
  show wpAny _ _ (Builtin.ObjectAttr.bindTo (.builtin "function.__get__") (.ref f) (.ref x) (.ref C)) _ _ _
  unfold Builtin.ObjectAttr.bindTo
  refine wpAny_bind (wpAny_holding (wpAny_call (fn_get (x := x) (p := f) X ht ?_)))
  refine wpAny_pure ⟨_, rfl, ?_⟩
  show wpAny _ _ (handedOut (.ref _)) _ _ _
  refine wpAny_pure ?_
  exact h _ _ (F.push _) (N.push F _) fun p hp => Heap.lt_size (N p hp).1
theorem callWith_SM {env : Env} {pos p : Pos} {first : List Value} {Q : Value → Shared → Prop} {e : Expr} {self : Value} (_X : K.In h₀) (_N : News h₀ L s.heap news) (_q : (q, methodObj (.ref f) self) ∈ news) (hk : fnIn K f = true)
    (h : wpAny (model prog w) A (eval e env) (fun v s₁ => StarOf (model prog w) A E v (fun vs s₂ => MethP K q f self s₂.heap ∧ wpAny (model prog w) A (call (.ref q) (first ++ vs)) Q E s₂) s₁) E s)
    (he : starEach [.Starred e p] env = [(true, eval e env)] := by rfl) :
    wpAny (model prog w) A (callWith pos (.ref q) first (backTo pos (starEach [.Starred e p] env)) []) Q E s := by
  rw [he]
  exact ks_call rfl (keeps_M hk) (ks_lone h)
theorem call_M {self : Value} {vs : List Value} {Q : Value → Shared → Prop} (N : News h₀ L s.heap news) (hq : (q, methodObj (.ref f) self) ∈ news)
    (h : codeAny (model prog w) A (.call (.ref f) ⟨self :: vs, []⟩) (RetBack Q E) s) : wpAny (model prog w) A (call (.ref q) vs) Q E s :=
  call_back (method_call (N _ hq).1 h)
theorem star_call {env : Env} {pos p : Pos} {Q : Value → Shared → Prop} {e : Expr} {self : Value} {a : Addr} {vs : List Value} (F : Fr h₀ L s.heap m) (X₀ : K.In h₀) (N : News h₀ L s.heap news) (hq : (q, methodObj (.ref f) self) ∈ news) (hk : fnIn K f = true)
    (ha : (a, tupL vs) ∈ news) (hz : vs.length ≤ 900) (hev : ∀ {Q' : Value → Shared → Prop}, Q' (.ref a) s → wpAny (model prog w) A (eval e env) Q' E s)
    (h : ∀ h', Fr h₀ L h' m → News h₀ L h' news → codeAny (model prog w) A (.call (.ref f) ⟨self :: vs, []⟩) (RetBack Q E) { s with heap := h' })
    (he : starEach [.Starred e p] env = [(true, eval e env)] := by rfl) :
    wpAny (model prog w) A (callWith pos (.ref q) [] (backTo pos (starEach [.Starred e p] env)) []) Q E s := by
  refine callWith_SM X₀ N hq hk (hev (star_seq F N ha rfl rfl (.inr rfl) rfl (by rw [sizeLine_eq, List.size_toArray]; omega) fun h' F' N' => ⟨methP N' hq (X₀.keeps F'.keep), ?_⟩)) he
  exact call_M N' hq (h h' F' N')
end
theorem find_push (P : Params) (t u : Tok) (i : Int) : findObj (Mine.hd.heap_1 P) 227 (some (accD P t i u)) "push" = some (.bind (.builtin "function.__get__") (.ref 171)) := by kernel_rfl
theorem fnIn_push (P : Params) : fnIn (Mine.hd.heap_1 P) 171 = true := by kernel_rfl
theorem typeIn_push (P : Params) : typeIn (Mine.hd.heap_1 P) (.ref 171) = some (.type "function") := by kernel_rfl
end
section
theorem off_CHq : True := by
  k_with_none
  trivial
open PySem PySem.W PyProof.Rows PySem.Calls
theorem on_CHq0 : True := by
 k_with_none
 k_with "li" => ((try simp only [List.length_nil, List.length_append, List.length_cons, ptV_length]); k_extra "om")
 k_with "pt" => (first | exact PtsIn.nil | exact PtsIn.one (by k_mem) | exact PtsIn.mono (by assumption) (by (intro q hq; (repeat (first | exact hq | exact List.mem_append_left _ hq | refine List.Mem.tail _ ?_ | refine List.mem_append_right _ ?_)))) | exact PtsIn.snoc (PtsIn.mono (by assumption) (by (intro q hq; (repeat (first | exact hq | exact List.mem_append_left _ hq | refine List.Mem.tail _ ?_ | refine List.mem_append_right _ ?_))))) (by k_mem))
 k_with "ps" => (first | assumption | decide | ((try dsimp only); first | assumption | decide | k_extra "om" | (simp only [List.length_nil, List.length_append, List.length_cons]; k_extra "om")))
 k_with "ax" => first | assumption | exact ja0 ‹_› | exact ja1 ‹_› | exact je1 ‹_› | exact ja2 ‹_› | exact ja3 ‹_› | exact ja4 ‹_› | exact ja5 ‹_› | exact je5 ‹_› | exact ja6 ‹_› | exact ja7 ‹_› | exact je7 ‹_› | exact ja8 ‹_› | exact ja9 ‹_› | exact je13 ‹_› | exact je14 ‹_›
 k_with "nx" => with_reducible (first | (refine Nat.ne_of_lt ?_; (repeat (first | exact js | refine jl ?_)); all_goals k_extra "ax") | (refine Nat.ne_of_gt ?_; (repeat (first | exact js | refine jl ?_)); all_goals k_extra "ax") | k_extra "ax" | (refine Ne.symm ?_; k_extra "ax"))
 k_with "rm" => ((with_reducible first | exact room0 ‹_› | refine room1 ‹_› ?_ | refine room2 ‹_› ?_ | refine room3 ‹_› ?_ | refine room4 ‹_› ?_); all_goals exact rfl)
 k_with "om" => first | (with_reducible first | k_extra "ax" | exact jn ‹_› | exact jn (ja0 ‹_›) | (refine Nat.lt_trans ?_ ‹_›; k_extra "ax")) | decide | omega
 k_with "hk" => (with_reducible first | (refine hKq _ _ ?_; clear hKq; (try clear Kq)))
 k_with "q:execs cons" => (k_here; (with_reducible refine execs_consK ?_); intro Kq tkq hKq)
 k_with "q:k_ne" => (refine neN ?_; (try dsimp only); first | k_extra "nx" | omega)
 k_with "q:sub9" => row_timed "f" (fail; (repeat' (first | (refine fm (by k_mem) ?_) | exact List.forall_mem_nil _ | (intro pZ hpZ; (repeat (first | with_reducible_and_instances exact hpZ | with_reducible_and_instances exact List.mem_append_right _ hpZ | refine List.Mem.tail _ ?_)); done) | exact fun _ hpZ => hpZ | (intro pZ hpZ; (repeat (first | exact hpZ | exact List.mem_append_right _ hpZ | refine List.Mem.tail _ ?_))))))
 k_with "q:k_room" => row_timed "f" (fail; ((try simp only [depth_under_make, depth_under_kw, depth_in1, depth_deeper]); (try dsimp only); first | k_extra "rm" | omega))
 k_with "q:k_units" => row_timed "f" (fail; ((try simp only [Around.deeper_units, Around.in1_units, Around.mark_units]); (try dsimp only); first | k_extra "rm" | omega))
 k_with "q:k_mem" => row_timed "f" (fail; (with_reducible_and_instances (repeat (first | exact List.Mem.head _ | refine List.Mem.tail _ ?_)); done))
 k_with "q:getMethod ref" => row_timed "f" (fail; (k_here; k_dflt (refine' methodL_fn ?k1Z ?k2Z ?k3Z (z227_get _) ?k5Z ?k6Z ?k7Z ?_; (case k1Z | k2Z => k_asm); (case k3Z => refine' instAcc_news ?NZ ?h1Z ?h2Z; (case NZ => k_asm); (case h1Z | h2Z => k_mem)); (case k5Z | k6Z => k_is); (case k7Z => k_get); k_whole)))
 k_with "q:getAttr ref" => row_timed "f" (fail; (k_here; k_dflt (refine' getL_own ?k1Z ?k2Z ?k3Z (z227 _) (z227_get _) ?k4Z ?k5Z ?k6Z ?k7Z ?k8Z ?_; (case k1Z | k2Z => k_asm); (case k3Z => refine' instAcc_news ?NZ ?h1Z ?h2Z; (case NZ => k_asm); (case h1Z | h2Z => k_mem)); (case k4Z | k5Z | k6Z => k_is); (case k7Z => k_get); (case k8Z => k_handed); k_whole)))
 k_with "q:k_inst" => row_timed "f" (fail; (refine' instAcc_news ?NZ ?h1Z ?h2Z; (case NZ => k_asm); (case h1Z | h2Z => k_mem)))
 k_with "q:k_ne" => (refine neN ?_; (try dsimp only); first | exact Ap.ne (by assumption) | exact Ne.symm (Ap.ne (by assumption)) | k_extra "nx" | omega)
 k_with "q:LenBack" => row_timed "f" (fail; ((dsimp only [W.LenBack]); refine ⟨⟨by k_extra "om", by k_extra "om"⟩, ?_⟩))
 k_with "q:NeBack" => row_timed "f" (fail; ((dsimp only [NeBack]); rw [ne_tt (by k_extra "om")]))
 k_with "q:StrBack" => row_timed "f" (fail; (dsimp only [W.StrBack]))
 k_with "q:eval Call Attribute" => row_timed "f" (fail; (k_here; (with_reducible show wpAny _ _ (eval (Expr.Call (Expr.Attribute _ _ _) [Expr.Starred _ _] [] _) _) _ _ _); (refine methodCall_star ?_)))
 k_with "q:getAttr ref" => row_timed "f" (fail; (k_here; (with_reducible show wpAny _ _ (getAttr (Value.ref _) (Str.ofString "push") _) _ _ _); k_dflt (refine' getL_meth ?k1Z ?k2Z ?k3Z ?k4Z (z227 _) (z227_get _) (find_push _ _ _ _) (typeIn_push _) ?_; (case k1Z | k2Z | k3Z => k_asm); (case k4Z => k_inst); k_whole); intro q'Z h'Z F'Z N'Z l1Z; (try k_lt l1Z)))
 k_with "q:callWith ref" => row_timed "f" (fail; (k_here; (with_reducible show wpAny _ _ (callWith _ (Value.ref _) _ (backTo _ (starEach [Expr.Starred _ _] _)) []) _ _ _); (refine' star_call ?FZ ?XZ ?NZ ?qZ (fnIn_push _) ?aZ ?zZ ?evZ ?_ (by rfl)); (case evZ => intro Q'Z hqZ; k_steps; exact hqZ); (case FZ | XZ | NZ => k_asm); (case qZ | aZ => k_mem); (case zZ => (simp only [List.length_cons, List.length_nil]; k_extra "om")); (intro h'Z F'Z N'Z); (refine' push_KC ?BZ ?FZ ?KXZ ?TZ ?hfZ ?hkeZ ?NZ ?hdxZ ?UZ ?hdZ ?huZ ?hszZ ?_); (case BZ | FZ => k_asm); (case KXZ | TZ => k_asm); (case hfZ | hkeZ => exact rfl); (case NZ => k_asm); (case hdxZ => k_mem); (case UZ => k_updF); (case hdZ => k_room); (case huZ => k_units); (case hszZ => (k_extra "li")); (intro h'Z tk'Z n'Z tp'Z F'Z N'Z l1Z); (try dsimp only at N'Z); (try dsimp only [RetBack]); (try k_lt l1Z); (try k_sweep)))
 k_with "q:call ref" => row_timed "f" (fail; (k_here; (with_reducible show wpAny _ _ (call (Value.ref 194) _) _ _ _); k_dflt (refine' len_K ?BZ ?FZ ?KXZ ?TZ ?hfZ ?hkeZ ?NZ ?GZ ?hxZ ?hdxZ ?hvZ ?UZ ?hTZ ?hdZ ?huZ ?hokZ ?_; (case BZ | FZ => k_asm); (case KXZ | TZ => k_asm); (case hfZ | hkeZ => exact rfl); (case NZ | GZ => k_asm); (case hxZ | hdxZ => k_mem); (case hvZ => (k_extra "pt")); (case UZ => k_updF); (case hTZ => k_asm); (case hdZ => k_room); (case huZ => k_units); (case hokZ => (first | assumption | exact PtOk.nil | exact PtOk.one (by (k_extra "ps")) (by (k_extra "ps")) | (refine PtOk.snoc (by first | assumption | exact PtOk.nil | (refine PtOk.snoc (by first | assumption | exact PtOk.nil) (by (k_extra "ps")) (by (k_extra "ps")) (by (k_extra "ps")))) (by (k_extra "ps")) (by (k_extra "ps")) (by (k_extra "ps"))))); k_whole); intro h'Z tk'Z gs'Z tv'Z o2Z F'Z G'Z hT'Z N'Z hPl'Z; (try dsimp only at N'Z); (try dsimp only); (try k_sweep)))
 k_with "q:call ref" => row_timed "f" (fail; (k_here; (with_reducible show wpAny _ _ (call (Value.ref 201) _) _ _ _); k_dflt (refine' str_K ?BZ ?FZ ?KXZ ?TZ ?hfZ ?hkeZ ?NZ ?GZ ?hxZ ?hdxZ ?hvZ ?UZ ?hTZ ?hdZ ?huZ ?hokZ ?_; (case BZ | FZ => k_asm); (case KXZ | TZ => k_asm); (case hfZ | hkeZ => exact rfl); (case NZ | GZ => k_asm); (case hxZ | hdxZ => k_mem); (case hvZ => (k_extra "pt")); (case UZ => k_updF); (case hTZ => k_asm); (case hdZ => k_room); (case huZ => k_units); (case hokZ => (first | assumption | exact PtOk.nil | exact PtOk.one (by (k_extra "ps")) (by (k_extra "ps")) | (refine PtOk.snoc (by first | assumption | exact PtOk.nil | (refine PtOk.snoc (by first | assumption | exact PtOk.nil) (by (k_extra "ps")) (by (k_extra "ps")) (by (k_extra "ps")))) (by (k_extra "ps")) (by (k_extra "ps")) (by (k_extra "ps"))))); k_whole); intro h'Z tk'Z gs'Z tv'Z o2Z F'Z G'Z hT'Z N'Z; (try dsimp only at N'Z); (try dsimp only); (try k_sweep)))
 k_with "q:call ref" => row_timed "f" (fail; (k_here; (with_reducible show wpAny _ _ (call (Value.ref 187) _) _ _ _); k_dflt (refine' pop0_K ?BZ ?FZ ?KXZ ?TZ ?hfZ ?hkeZ ?NZ ?hxZ ?hdxZ ?hdZ ?huZ ?_; (case BZ | FZ => k_asm); (case KXZ | TZ => k_asm); (case hfZ | hkeZ => exact rfl); (case NZ => k_asm); (case hxZ | hdxZ => k_mem); (case hdZ => k_room); (case huZ => k_units); k_whole); intro h'Z tk'Z tp'Z t1'Z t2'Z F'Z N'Z l1Z; (try k_lt l1Z); (try dsimp only at N'Z); (try dsimp only); (try k_sweep)))
 k_with "q:call ref" => row_timed "f" (fail; (k_here; (with_reducible show wpAny _ _ (call (Value.ref 209) _) _ _ _); k_dflt (refine' reset0_K ?BZ ?FZ ?KXZ ?TZ ?hfZ ?hkeZ ?NZ ?UZ ?VZ ?hdZ ?huZ ?hszZ ?_; (case BZ | FZ => k_asm); (case KXZ | TZ => k_asm); (case hfZ | hkeZ => exact rfl); (case NZ => k_asm); (case UZ => k_updF); (case VZ => intro o'Z; k_updF); (case hdZ => k_room); (case huZ => k_units); (case hszZ => (k_extra "li")); k_whole); intro h'Z tk'Z n'Z u'Z F'Z N'Z; (try dsimp only at N'Z); (try dsimp only); (try k_sweep)))
 k_with "q:call ref" => row_timed "f" (fail; (k_here; (with_reducible show wpAny _ _ (call (Value.ref 216) _) _ _ _); k_dflt (refine' onlyws0_K ?BZ ?FZ ?KXZ ?TZ ?hfZ ?hkeZ ?NZ ?hxZ ?hdxZ ?hvZ ?hiZ ?hdZ ?huZ ?_; (case BZ | FZ => k_asm); (case KXZ | TZ => k_asm); (case hfZ | hkeZ => exact rfl); (case NZ => k_asm); (case hxZ | hdxZ => k_mem); (case hvZ => (k_extra "pt")); (case hiZ => k_extra "om"); (case hdZ => k_room); (case huZ => k_units); k_whole); intro h'Z tk'Z F'Z N'Z; (try dsimp only at N'Z); (try dsimp only); (try k_sweep)))
 trivial
noncomputable abbrev fmtD (P : Params) (t1 t2 t3 t4 t5 t6 u1 u2 u3 u4 : Tok) (M : Int) (ll x : Addr) : Obj :=
  dictOf [⟨PyData.keyHash P "_maxlen", .str "_maxlen" t1, .int M u1⟩, ⟨PyData.keyHash P "_continuation_ws", .str "_continuation_ws" t2, .str " " u2⟩, ⟨PyData.keyHash P "_continuation_ws_len", .str "_continuation_ws_len" t3, .int 1 u3⟩,
    ⟨PyData.keyHash P "_splitchars", .str "_splitchars" t4, .str " " u4⟩, ⟨PyData.keyHash P "_lines", .str "_lines" t5, .ref ll⟩, ⟨PyData.keyHash P "_current_line", .str "_current_line" t6, .ref x⟩] 6
section
variable {w : World} {A₀ : Around} {base h₀ : Heap} {env : Env} {outer : List Env} {dd uu : Nat} {gs : Option (List Code)} {L : Addr} {m mg mb : Str → Option Value} {s : Shared} {own : List (Addr × Obj)} {p : Program} {loose : List Str} {mean : ExcName → Option Value} {Q : Value → Shared → Prop} {E : Value → Shared → Prop}
  (B : Below A₀ base outer h₀) (F : Fr h₀ L s.heap m) (KX : (Mine.hd.heap_1 w.params).In h₀) (T : Top p loose mean mg mb h₀) (hf : env.frame = some L) (hke : env.scope.kind = .function)
include B F KX T hf hke
variable {fv fd ll x dx : Addr} {qs : List Pt} {n nl : Nat} {t u t1 t2 t3 t4 t5 t6 u1 u2 u3 u4 : Tok} {i M : Int} {o1 o2 : Obj} {ls : List Value}
theorem newline0_in (N : News h₀ L s.heap ((fv, instObj 143 fd) :: (fd, fmtD w.params t1 t2 t3 t4 t5 t6 u1 u2 u3 u4 M ll x) :: (ll, lsO ls nl) :: (x, accO 227 dx #[] n) :: (dx, accD w.params t i u) :: (189, o1) :: (196, o2) :: own))
   (hi : 0 < i) (hi2 : i ≤ 1000) (hT : TabOk o1) (hT2 : TabOk o2) (G : AllBare s.gens) (hne : Dis [fv, fd, ll, x, dx, 189, 196]) (ho : OwnOff own [ll, x, dx, 189, 196])
   (hd : dd + 70 < recursionLimit) (hu : uu + 500 < cLine) (hll : ls.length ≤ 900)
   (h : ∀ h' tk gs o1 o2 n' nl' u' tv, Fr h₀ L h' m → AllBare gs → TabOk o1 → TabOk o2 → News h₀ L h' ((fv, instObj 143 fd) :: (fd, fmtD w.params t1 t2 t3 t4 t5 t6 u1 u2 u3 u4 M ll x) :: (ll, lsO (ls ++ [.str "" tv]) nl') :: (x, accO 227 dx #[] n') :: (dx, accD w.params t 0 u') :: (189, o1) :: (196, o2) :: own) → Q .none { s with heap := h', toks := tk, gens := gs }) :
   wpAny (model rw_wn0107_02.row.toRowW.prog w) ⟨none, dd, some (env :: outer), gs, uu⟩ (call (.ref 105) [.ref fv]) Q E s := by
  first | refine Dis.e7 hne ?_ | refine Dis.e3 hne ?_ | refine Dis.e5 hne ?_ | refine Dis.e4 hne ?_
  intros
  revert KX; k_fill; intro KX
  refine wpAny_call ?_
  refine' code_def ?k1 ?k2 ?k3 ?k4 ?k5 ?kA ?kF ?kK ?k6 ?k7 ?k8 ?k9 ?kB ?_ ?c2 ?c3 ?c4 ?c5
  case kA => exact rfl
  case kF => exact hf
  case kK => exact hke
  case k1 => k_asm
  case k2 => k_asm
  case k3 => k_asm
  case k4 => k_asm
  case k5 => k_asm
  case k6 => k_is
  case k7 => k_is
  case k8 => show dd < recursionLimit; first | exact room0 (by assumption) | k_extra "om"
  case k9 => first | exact BindsTo.of_eq rfl | exact binds_K (by k_in) rfl (by k_is) rfl rfl rfl
  case c5 => decide
  case kB => exact locs rfl
  case c2 => exact rfl
  case c3 => exact rfl
  case c4 => exact rfl
  k_whole; intro g' L' h' FG' F' N' B' X' T'; (try dsimp only); (try k_lift B'); (try k_fold); clear B F KX N T FG'
  k_steps
  refine leaveK_ (by k_asm) (by k_asm) fun kF kN => ?_
  simp only [List.push_toArray, fwStr_empty] at kN
  refine' h _ _ _ ?o1 ?o2 _ _ _ _ kF ?g ?t1 ?t2 (subN kN ?sub)
  case sub => walk_at "sub9"
  all_goals assumption
end
end
section
theorem off_CIq : True := by
  k_with_none
  trivial
open PySem PySem.W PyProof.Rows PySem.Calls
theorem on_CIq0 : True := by
 k_with_none
 k_with "li" => ((try simp only [List.length_nil, List.length_append, List.length_cons, ptV_length]); k_extra "om")
 k_with "pt" => (first | exact PtsIn.nil | exact PtsIn.one (by k_mem) | exact PtsIn.mono (by assumption) (by (intro q hq; (repeat (first | exact hq | exact List.mem_append_left _ hq | refine List.Mem.tail _ ?_ | refine List.mem_append_right _ ?_)))) | exact PtsIn.snoc (PtsIn.mono (by assumption) (by (intro q hq; (repeat (first | exact hq | exact List.mem_append_left _ hq | refine List.Mem.tail _ ?_ | refine List.mem_append_right _ ?_))))) (by k_mem))
 k_with "ps" => (first | assumption | decide | ((try dsimp only); first | assumption | decide | k_extra "om" | (simp only [List.length_nil, List.length_append, List.length_cons]; k_extra "om")))
 k_with "ax" => first | assumption | exact ja0 ‹_› | exact ja1 ‹_› | exact je1 ‹_› | exact ja2 ‹_› | exact ja3 ‹_› | exact ja4 ‹_› | exact ja5 ‹_› | exact je5 ‹_› | exact ja6 ‹_› | exact ja7 ‹_› | exact je7 ‹_› | exact ja8 ‹_› | exact ja9 ‹_› | exact je13 ‹_› | exact je14 ‹_›
 k_with "nx" => with_reducible (first | (refine Nat.ne_of_lt ?_; (repeat (first | exact js | refine jl ?_)); all_goals k_extra "ax") | (refine Nat.ne_of_gt ?_; (repeat (first | exact js | refine jl ?_)); all_goals k_extra "ax") | k_extra "ax" | (refine Ne.symm ?_; k_extra "ax"))
 k_with "rm" => ((with_reducible first | exact room0 ‹_› | refine room1 ‹_› ?_ | refine room2 ‹_› ?_ | refine room3 ‹_› ?_ | refine room4 ‹_› ?_); all_goals exact rfl)
 k_with "om" => first | (with_reducible first | k_extra "ax" | exact jn ‹_› | exact jn (ja0 ‹_›) | (refine Nat.lt_trans ?_ ‹_›; k_extra "ax")) | decide | omega
 k_with "hk" => (with_reducible first | (refine hKq _ _ ?_; clear hKq; (try clear Kq)))
 k_with "q:execs cons" => (k_here; (with_reducible refine execs_consK ?_); intro Kq tkq hKq)
 k_with "q:k_ne" => (refine neN ?_; (try dsimp only); first | k_extra "nx" | omega)
 k_with "q:sub9" => row_timed "f" (fail; (repeat' (first | (refine fm (by k_mem) ?_) | exact List.forall_mem_nil _ | (intro pZ hpZ; (repeat (first | with_reducible_and_instances exact hpZ | with_reducible_and_instances exact List.mem_append_right _ hpZ | refine List.Mem.tail _ ?_)); done) | exact fun _ hpZ => hpZ | (intro pZ hpZ; (repeat (first | exact hpZ | exact List.mem_append_right _ hpZ | refine List.Mem.tail _ ?_))))))
 k_with "q:k_room" => row_timed "f" (fail; ((try simp only [depth_under_make, depth_under_kw, depth_in1, depth_deeper]); (try dsimp only); first | k_extra "rm" | omega))
 k_with "q:k_units" => row_timed "f" (fail; ((try simp only [Around.deeper_units, Around.in1_units, Around.mark_units]); (try dsimp only); first | k_extra "rm" | omega))
 k_with "q:k_mem" => row_timed "f" (fail; (with_reducible_and_instances (repeat (first | exact List.Mem.head _ | refine List.Mem.tail _ ?_)); done))
 k_with "q:getMethod ref" => row_timed "f" (fail; (k_here; k_dflt (refine' methodL_fn ?k1Z ?k2Z ?k3Z (z227_get _) ?k5Z ?k6Z ?k7Z ?_; (case k1Z | k2Z => k_asm); (case k3Z => refine' instAcc_news ?NZ ?h1Z ?h2Z; (case NZ => k_asm); (case h1Z | h2Z => k_mem)); (case k5Z | k6Z => k_is); (case k7Z => k_get); k_whole)))
 k_with "q:getAttr ref" => row_timed "f" (fail; (k_here; k_dflt (refine' getL_own ?k1Z ?k2Z ?k3Z (z227 _) (z227_get _) ?k4Z ?k5Z ?k6Z ?k7Z ?k8Z ?_; (case k1Z | k2Z => k_asm); (case k3Z => refine' instAcc_news ?NZ ?h1Z ?h2Z; (case NZ => k_asm); (case h1Z | h2Z => k_mem)); (case k4Z | k5Z | k6Z => k_is); (case k7Z => k_get); (case k8Z => k_handed); k_whole)))
 k_with "q:k_inst" => row_timed "f" (fail; (refine' instAcc_news ?NZ ?h1Z ?h2Z; (case NZ => k_asm); (case h1Z | h2Z => k_mem)))
 k_with "q:k_ne" => (refine neN ?_; (try dsimp only); first | exact Ap.ne (by assumption) | exact Ne.symm (Ap.ne (by assumption)) | k_extra "nx" | omega)
 k_with "q:LenBack" => row_timed "f" (fail; ((dsimp only [W.LenBack]); refine ⟨⟨by k_extra "om", by k_extra "om"⟩, ?_⟩))
 k_with "q:NeBack" => row_timed "f" (fail; ((dsimp only [NeBack]); rw [ne_tt (by k_extra "om")]))
 k_with "q:StrBack" => row_timed "f" (fail; (dsimp only [W.StrBack]))
 k_with "q:compareOp NotEq ref ref" => row_timed "f" (fail; (k_here; (refine' ne_pairs2 ?NZ ?haZ ?hbZ ?hpZ ?hqZ ?hrZ ?huZ ?hunZ ?hneZ ?_); (case NZ => k_asm); (case haZ | hbZ => k_mem); (case hpZ | hqZ => first | assumption | kernel_rfl); (case hrZ | huZ => first | assumption | kernel_rfl); (case hunZ => k_units); (case hneZ => first | assumption | decide); k_whole))
 k_with "q:eval Call Attribute" => row_timed "f" (fail; (k_here; (with_reducible show wpAny _ _ (eval (Expr.Call (Expr.Attribute _ _ _) [Expr.Starred _ _] [] _) _) _ _ _); (refine methodCall_star ?_)))
 k_with "q:getAttr ref" => row_timed "f" (fail; (k_here; (with_reducible show wpAny _ _ (getAttr (Value.ref _) (Str.ofString "push") _) _ _ _); k_dflt (refine' getL_meth ?k1Z ?k2Z ?k3Z ?k4Z (z227 _) (z227_get _) (find_push _ _ _ _) (typeIn_push _) ?_; (case k1Z | k2Z | k3Z => k_asm); (case k4Z => k_inst); k_whole); intro q'Z h'Z F'Z N'Z l1Z; (try k_lt l1Z)))
 k_with "q:callWith ref" => row_timed "f" (fail; (k_here; (with_reducible show wpAny _ _ (callWith _ (Value.ref _) _ (backTo _ (starEach [Expr.Starred _ _] _)) []) _ _ _); (refine' star_call ?FZ ?XZ ?NZ ?qZ (fnIn_push _) ?aZ ?zZ ?evZ ?_ (by rfl)); (case evZ => intro Q'Z hqZ; k_steps; exact hqZ); (case FZ | XZ | NZ => k_asm); (case qZ | aZ => k_mem); (case zZ => (simp only [List.length_cons, List.length_nil]; k_extra "om")); (intro h'Z F'Z N'Z); (refine' push_KC ?BZ ?FZ ?KXZ ?TZ ?hfZ ?hkeZ ?NZ ?hdxZ ?UZ ?hdZ ?huZ ?hszZ ?_); (case BZ | FZ => k_asm); (case KXZ | TZ => k_asm); (case hfZ | hkeZ => exact rfl); (case NZ => k_asm); (case hdxZ => k_mem); (case UZ => k_updF); (case hdZ => k_room); (case huZ => k_units); (case hszZ => (k_extra "li")); (intro h'Z tk'Z n'Z tp'Z F'Z N'Z l1Z); (try dsimp only at N'Z); (try dsimp only [RetBack]); (try k_lt l1Z); (try k_sweep)))
 k_with "q:call ref" => row_timed "f" (fail; (k_here; (with_reducible show wpAny _ _ (call (Value.ref 194) _) _ _ _); k_dflt (refine' len_K ?BZ ?FZ ?KXZ ?TZ ?hfZ ?hkeZ ?NZ ?GZ ?hxZ ?hdxZ ?hvZ ?UZ ?hTZ ?hdZ ?huZ ?hokZ ?_; (case BZ | FZ => k_asm); (case KXZ | TZ => k_asm); (case hfZ | hkeZ => exact rfl); (case NZ | GZ => k_asm); (case hxZ | hdxZ => k_mem); (case hvZ => (k_extra "pt")); (case UZ => k_updF); (case hTZ => k_asm); (case hdZ => k_room); (case huZ => k_units); (case hokZ => (first | assumption | exact PtOk.nil | exact PtOk.one (by (k_extra "ps")) (by (k_extra "ps")) | (refine PtOk.snoc (by first | assumption | exact PtOk.nil | (refine PtOk.snoc (by first | assumption | exact PtOk.nil) (by (k_extra "ps")) (by (k_extra "ps")) (by (k_extra "ps")))) (by (k_extra "ps")) (by (k_extra "ps")) (by (k_extra "ps"))))); k_whole); intro h'Z tk'Z gs'Z tv'Z o2Z F'Z G'Z hT'Z N'Z hPl'Z; (try dsimp only at N'Z); (try dsimp only); (try k_sweep)))
 k_with "q:call ref" => row_timed "f" (fail; (k_here; (with_reducible show wpAny _ _ (call (Value.ref 201) _) _ _ _); k_dflt (refine' str_K ?BZ ?FZ ?KXZ ?TZ ?hfZ ?hkeZ ?NZ ?GZ ?hxZ ?hdxZ ?hvZ ?UZ ?hTZ ?hdZ ?huZ ?hokZ ?_; (case BZ | FZ => k_asm); (case KXZ | TZ => k_asm); (case hfZ | hkeZ => exact rfl); (case NZ | GZ => k_asm); (case hxZ | hdxZ => k_mem); (case hvZ => (k_extra "pt")); (case UZ => k_updF); (case hTZ => k_asm); (case hdZ => k_room); (case huZ => k_units); (case hokZ => (first | assumption | exact PtOk.nil | exact PtOk.one (by (k_extra "ps")) (by (k_extra "ps")) | (refine PtOk.snoc (by first | assumption | exact PtOk.nil | (refine PtOk.snoc (by first | assumption | exact PtOk.nil) (by (k_extra "ps")) (by (k_extra "ps")) (by (k_extra "ps")))) (by (k_extra "ps")) (by (k_extra "ps")) (by (k_extra "ps"))))); k_whole); intro h'Z tk'Z gs'Z tv'Z o2Z F'Z G'Z hT'Z N'Z; (try dsimp only at N'Z); (try dsimp only); (try k_sweep)))
 k_with "q:call ref" => row_timed "f" (fail; (k_here; (with_reducible show wpAny _ _ (call (Value.ref 187) _) _ _ _); k_dflt (refine' pop_K ?BZ ?FZ ?KXZ ?TZ ?hfZ ?hkeZ ?NZ ?hdxZ ?UZ ?hdZ ?huZ ?hszZ ?_; (case BZ | FZ => k_asm); (case KXZ | TZ => k_asm); (case hfZ | hkeZ => exact rfl); (case NZ => k_asm); (case hdxZ => k_mem); (case UZ => k_updF); (case hdZ => k_room); (case huZ => k_units); (case hszZ => (k_extra "li")); k_whole); intro h'Z tk'Z n'Z F'Z N'Z; (try dsimp only at N'Z); (try dsimp only); (try k_sweep)))
 k_with "q:call ref" => row_timed "f" (fail; (k_here; (with_reducible show wpAny _ _ (call (Value.ref 209) _) _ _ _); k_dflt (refine' reset0_K ?BZ ?FZ ?KXZ ?TZ ?hfZ ?hkeZ ?NZ ?UZ ?VZ ?hdZ ?huZ ?hszZ ?_; (case BZ | FZ => k_asm); (case KXZ | TZ => k_asm); (case hfZ | hkeZ => exact rfl); (case NZ => k_asm); (case UZ => k_updF); (case VZ => intro o'Z; k_updF); (case hdZ => k_room); (case huZ => k_units); (case hszZ => (k_extra "li")); k_whole); intro h'Z tk'Z n'Z u'Z F'Z N'Z; (try dsimp only at N'Z); (try dsimp only); (try k_sweep)))
 k_with "q:call ref" => row_timed "f" (fail; (k_here; (with_reducible show wpAny _ _ (call (Value.ref 216) _) _ _ _); k_dflt (refine' onlywsF_K ?BZ ?FZ ?KXZ ?TZ ?hfZ ?hkeZ ?NZ ?GZ ?hxZ ?hdxZ ?hvZ ?UZ ?VZ ?hTZ ?hT2Z ?hdZ ?huZ ?hokZ ?hposZ ?hiZ ?hnsZ ?_; (case BZ | FZ => k_asm); (case KXZ | TZ => k_asm); (case hfZ | hkeZ => exact rfl); (case NZ | GZ => k_asm); (case hxZ | hdxZ => k_mem); (case hvZ => (k_extra "pt")); (case UZ => k_updF); (case VZ => intro o'Z; k_updF); (case hTZ | hT2Z => k_asm); (case hdZ => k_room); (case huZ => k_units); (case hokZ => (first | assumption | exact PtOk.nil | exact PtOk.one (by (k_extra "ps")) (by (k_extra "ps")) | (refine PtOk.snoc (by first | assumption | exact PtOk.nil | (refine PtOk.snoc (by first | assumption | exact PtOk.nil) (by (k_extra "ps")) (by (k_extra "ps")) (by (k_extra "ps")))) (by (k_extra "ps")) (by (k_extra "ps")) (by (k_extra "ps"))))); (case hposZ => k_asm); (case hiZ => k_extra "om"); (case hnsZ => k_asm); k_whole); intro h'Z tk'Z gs'Z o1'Z o2'Z F'Z G'Z hT'Z hT2'Z N'Z; (try dsimp only at N'Z); (try dsimp only); (try k_sweep)))
 trivial
section
variable {w : World} {A₀ : Around} {base h₀ : Heap} {env : Env} {outer : List Env} {dd uu : Nat} {gs : Option (List Code)} {L : Addr} {m mg mb : Str → Option Value} {s : Shared} {own : List (Addr × Obj)} {p : Program} {loose : List Str} {mean : ExcName → Option Value} {Q : Value → Shared → Prop} {E : Value → Shared → Prop}
  (B : Below A₀ base outer h₀) (F : Fr h₀ L s.heap m) (KX : (Mine.hd.heap_1 w.params).In h₀) (T : Top p loose mean mg mb h₀) (hf : env.frame = some L) (hke : env.scope.kind = .function)
include B F KX T hf hke
variable {fv fd ll x dx : Addr} {qs : List Pt} {n nl : Nat} {t u t1 t2 t3 t4 t5 t6 u1 u2 u3 u4 : Tok} {i M : Int} {o1 o2 : Obj} {ls : List Value}
theorem newline1_in {vs : List Value} {fs : List (Str × Str)} {wd : Str} {tp : Addr} {tf tw : Tok}
   (N : News h₀ L s.heap ((fv, instObj 143 fd) :: (fd, fmtD w.params t1 t2 t3 t4 t5 t6 u1 u2 u3 u4 M ll x) :: (ll, lsO ls nl) :: (x, accO 227 dx (vs ++ [Value.ref tp]).toArray n) :: (dx, accD w.params t i u) :: (189, o1) :: (196, o2) :: own))
   (hv : PtsIn own vs fs) (htp : (tp, tupL [.str " " tf, .str wd tw]) ∈ own) (hok : PtOk fs) (hfs : fs.length < 900) (hwd : wd ≠ Str.ofString "") (hwo : PyData.strOk wd = true) (hwl : wd.length ≤ 1000) (hi : 0 ≤ i) (hi2 : i ≤ 1000) (hns : 0 < i ∨ Txt.isspace (fwStr (fs ++ [(Str.ofString " ", wd)])) = false)
   (hT : TabOk o1) (hT2 : TabOk o2) (G : AllBare s.gens) (hne : Dis [fv, fd, ll, x, dx, 189, 196]) (ho : OwnOff own [ll, x, dx, 189, 196])
   (hd : dd + 70 < recursionLimit) (hu : uu + 500 < cLine) (hll : ls.length ≤ 900)
   (h : ∀ h' tk gs o1 o2 n' nl' u' tv, Fr h₀ L h' m → AllBare gs → TabOk o1 → TabOk o2 → News h₀ L h' ((fv, instObj 143 fd) :: (fd, fmtD w.params t1 t2 t3 t4 t5 t6 u1 u2 u3 u4 M ll x) :: (ll, lsO (ls ++ [.str (fwStr (fs ++ [(Str.ofString " ", wd)])) tv]) nl') :: (x, accO 227 dx #[] n') :: (dx, accD w.params t 0 u') :: (189, o1) :: (196, o2) :: own) → Q .none { s with heap := h', toks := tk, gens := gs }) :
   wpAny (model rw_wn0107_02.row.toRowW.prog w) ⟨none, dd, some (env :: outer), gs, uu⟩ (call (.ref 105) [.ref fv]) Q E s := by
  have hvl := hv.length
  have N : News h₀ L s.heap ((tp, tupL [.str " " tf, .str wd tw]) :: (fv, instObj 143 fd) :: (fd, fmtD w.params t1 t2 t3 t4 t5 t6 u1 u2 u3 u4 M ll x) :: (ll, lsO ls nl) :: (x, accO 227 dx (vs ++ [Value.ref tp]).toArray n) :: (dx, accD w.params t i u) :: (189, o1) :: (196, o2) :: own) :=
    (fm (N _ (.tail _ (.tail _ (.tail _ (.tail _ (.tail _ (.tail _ (.tail _ htp)))))))) N)
  have a1 : Ap tp ll := ⟨ho _ htp _ (by simp)⟩
  have a2 : Ap tp x := ⟨ho _ htp _ (by simp)⟩
  have a3 : Ap tp dx := ⟨ho _ htp _ (by simp)⟩
  have a4 : Ap tp 189 := ⟨ho _ htp _ (by simp)⟩
  have a5 : Ap tp 196 := ⟨ho _ htp _ (by simp)⟩
  have hpos := fwLen_pos fs wd
  first | refine Dis.e7 hne ?_ | refine Dis.e3 hne ?_ | refine Dis.e5 hne ?_ | refine Dis.e4 hne ?_
  intros
  revert KX; k_fill; intro KX
  refine wpAny_call ?_
  refine' code_def ?k1 ?k2 ?k3 ?k4 ?k5 ?kA ?kF ?kK ?k6 ?k7 ?k8 ?k9 ?kB ?_ ?c2 ?c3 ?c4 ?c5
  case kA => exact rfl
  case kF => exact hf
  case kK => exact hke
  case k1 => k_asm
  case k2 => k_asm
  case k3 => k_asm
  case k4 => k_asm
  case k5 => k_asm
  case k6 => k_is
  case k7 => k_is
  case k8 => show dd < recursionLimit; first | exact room0 (by assumption) | k_extra "om"
  case k9 => first | exact BindsTo.of_eq rfl | exact binds_K (by k_in) rfl (by k_is) rfl rfl rfl
  case c5 => decide
  case kB => exact locs rfl
  case c2 => exact rfl
  case c3 => exact rfl
  case c4 => exact rfl
  k_whole; intro g' L' h' FG' F' N' B' X' T'; (try dsimp only); (try k_lift B'); (try k_fold); clear B F KX N T FG'
  k_steps
  refine leaveK_ (by k_asm) (by k_asm) fun kF kN => ?_
  simp only [List.push_toArray] at kN
  refine' h _ _ _ ?o1 ?o2 _ _ _ _ kF ?g ?t1 ?t2 (subN kN ?sub)
  case sub => walk_at "sub9"
  all_goals assumption
end
end
section
theorem off_ROq : True := by
  k_with_none
  trivial
open PySem PySem.W PyProof.Rows PySem.Calls
section
variable (prog : Program) (w : World) (A : Around) (E : Value → Shared → Prop) (env : Env) (target : PySem.Expr) (body orelse : List Stmt) (Q : Flow → Shared → Prop) (it : Value)
noncomputable def ForRest (s : Shared) : Prop := codeAny (model prog w) A (.forLoop target it body orelse env) (fun r s' => match r with | .ok f => Q f s' | .error e => cameBackBy (model prog w) A env E e s') s
noncomputable def ForPost (f : Flow) (s : Shared) : Prop := match f with
  | .next => ForRest prog w A E env target body orelse Q it s
  | .cont => ForRest prog w A E env target body orelse Q it s
  | .brk => Q .next s
  | .ret v => Q (.ret v) s
noncomputable def ForNext (r : Option Value) (s : Shared) : Prop := match r with
  | none => wpAny (model prog w) A (execs orelse env) Q E s
  | some v => wpAny (model prog w) A (assign target env v) (fun _ s₂ => wpAny (model prog w) A (execs body env) (ForPost prog w A E env target body orelse Q it) E s₂) E s
end
section
variable {prog : Program} {w : World} {A : Around} {E : Value → Shared → Prop} {env : Env} {target : PySem.Expr} {body orelse : List Stmt} {Q : Flow → Shared → Prop} {it : Value} {s : Shared}
theorem for_turn (hE : PassesOwn (model prog w) A env E) (ht : ∀ v, letOwnedTupleGo target it v = pure ()) (h : wpAny (model prog w) A (pyNext it) (ForNext prog w A E env target body orelse Q it) E s) :
    ForRest prog w A E env target body orelse Q it s := by
  refine codeAny_of_tree ?_
  show wpAny _ A ((forTurn target it body orelse env).onRaise (fun x => do noteFrame x env; theTreesLotGoes x)) _ _ s
  refine wpAny_noted ?_
  simp only [forTurn]
  refine wpAny_bind (wpAny_standAt (wpAny_bind (wpAny_onRaise (wpAny_mono h (fun r s₁ h₁ => ?_) fun e s' h' => wpAny_standAt (hE e s' h')))))
  cases r with
  | none => exact wpAny_pure ⟨rfl, codeAny_block (wpAny_mono h₁ (fun _ _ x => x) hE)⟩
  | some v =>
    refine wpAny_bind (wpAny_of_eq (ht v) ?_)
    refine wpAny_bind (wpAny_mono h₁ (fun _ s₂ h₂ => wpAny_bind (wpAny_mono h₂ (fun f s₃ h₃ => ?_) hE)) hE)
    cases f with
    | next => exact wpAny_pure ⟨rfl, h₃⟩
    | cont => exact wpAny_pure ⟨rfl, h₃⟩
    | brk => exact wpAny_pure h₃
    | ret v => exact wpAny_pure h₃
theorem for_start {iter : PySem.Expr} {pos : Pos} (h : wpAny (model prog w) A (eval iter env) (fun xv s₁ => wpAny (model prog w) A (pyIter xv) (fun it s₂ => ForRest prog w A E env target body orelse Q it s₂) E s₁) E s)
    (hs : ∀ x, foldedSetIterable iter env x = pure x := by intro _; rfl) : wpAny (model prog w) A (exec (.For target iter body orelse pos) env) Q E s :=
  wpAny_For h hs
theorem for_ind (Inv : Nat → Shared → Prop) (n : Nat) (hE : PassesOwn (model prog w) A env E) (ht : ∀ v, letOwnedTupleGo target it v = pure ())
    (turn : ∀ i s, i < n → Inv i s → wpAny (model prog w) A (pyNext it) (fun r s₁ => ∃ v, r = some v ∧ wpAny (model prog w) A (assign target env v) (fun _ s₂ => wpAny (model prog w) A (execs body env) (fun f s₃ => f = .next ∧ Inv (i + 1) s₃) E s₂) E s₁) E s)
    (done : ∀ s, Inv n s → wpAny (model prog w) A (pyNext it) (fun r s₁ => r = none ∧ wpAny (model prog w) A (execs orelse env) Q E s₁) E s) :
    ∀ k i s, i + k = n → Inv i s → ForRest prog w A E env target body orelse Q it s := by
  intro k
  induction k with
  | zero =>
    intro i s e hI
    obtain rfl : i = n := e
    exact for_turn hE ht (wpAny_mono (done s hI) (fun r s₁ h => by obtain ⟨rfl, h⟩ := h; exact h) fun _ _ z => z)
  | succ k ih =>
    intro i s e hI
    refine for_turn hE ht (wpAny_mono (turn i s (bi1 e) hI) (fun r s₁ h => ?_) fun _ _ z => z)
    obtain ⟨v, rfl, h⟩ := h
    refine wpAny_mono h (fun _ s₂ h₂ => wpAny_mono h₂ (fun f s₃ h₃ => ?_) fun _ _ z => z) fun _ _ z => z
    obtain ⟨rfl, hI'⟩ := h₃
    exact ih (i + 1) s₃ (bi2 e) hI'
end
structure StrIt (o : Obj) (x : Str) (t : Tok) (i : Nat) : Prop where
  cls : o.cls = .type "str_ascii_iterator"
  data : o.data = .fields #[.str x t, .int i 0]
noncomputable abbrev rgIt (x left step : Int) : Obj := { cls := .type "range_iterator", dict := none, data := .fields #[rawInt x, rawInt left, rawInt step], slots := #[] }
section
variable {prog : Program} {w : World} {A : Around} {E : Value → Shared → Prop} {s : Shared} {h₀ : Heap} {L I r : Addr} {m : Str → Option Value} {news : List (Addr × Obj)} {g : Obj → List (Addr × Obj)} {o : Obj}
theorem news_pushK {o : Obj} (F : Fr h₀ L s.heap m) (N : News h₀ L s.heap news) (hfr : o.isFreed = false := by rfl) : Fr h₀ L (s.heap.push o) m ∧ News h₀ L (s.heap.push o) ((s.heap.objs.size, o) :: news) ∧ ∀ p ∈ news, p.1 < s.heap.objs.size :=
  ⟨F.push _, N.push F _ hfr, fun p hp => Heap.lt_size (N p hp).1⟩
theorem strIter_K {x : Str} {t : Tok} {Q : Value → Shared → Prop} (F : Fr h₀ L s.heap m) (N : News h₀ L s.heap news) (ha : x.cps.all (· < 128) = true)
    (h : ∀ I o h', StrIt o x t 0 → Fr h₀ L h' m → News h₀ L h' ((I, o) :: news) → (∀ p ∈ news, p.1 < I) → Q (.ref I) { s with heap := h' }) : wpAny (model prog w) A (pyIter (.str x t)) Q E s := by
  obtain ⟨a, b, c⟩ := news_pushK (o := { cls := .type "str_ascii_iterator", data := .fields #[.str x t, .int 0 0] }) F N
  exact wpAny_pyIter_ascii ha (h _ _ _ ⟨rfl, rfl⟩ a b c)
theorem upd_ext {o' : Obj} {h' : Heap} (F : Fr h₀ L s.heap m) (N : News h₀ L s.heap news) (U : UpdF I o news g) (hs : Heap.ExtBut I s.heap h') (ho : h'.get? I = some o') : Fr h₀ L h' m ∧ News h₀ L h' (g o') := by
  obtain ⟨pre, post, rfl, hg, a, b⟩ := U.split
  have z := N (I, o) (List.mem_append.mpr (.inr (.head _)))
  refine ⟨⟨F.ns.at' fun o e => hs _ o (fun q => z.2.1 q.symm) e, fun b' o' e => hs _ _ (fun q => by subst q; rw [z.2.2] at e; cases e) (F.keep _ _ e), F.above⟩, ?_⟩
  rw [hg]
  intro p hp
  rcases List.mem_append.mp hp with q | q
  · have y := N p (List.mem_append.mpr (.inl q))
    exact ⟨hs _ _ (a p q) y.1, y.2⟩
  · rcases List.mem_cons.mp q with rfl | q
    · exact ⟨ho, z.2⟩
    · have y := N p (List.mem_append.mpr (.inr (.tail _ q)))
      exact ⟨hs _ _ (b p q) y.1, y.2⟩
theorem drop_ext {h' : Heap} (F : Fr h₀ L s.heap m) (N : News h₀ L s.heap news) (hI : (I, o) ∈ news) (hs : Heap.ExtBut I s.heap h') : Fr h₀ L h' m ∧ News h₀ L h' (news.filter fun p => p.1 ≠ I) := by
  have z := N (I, o) hI
  refine ⟨⟨F.ns.at' fun o e => hs _ o (fun q => z.2.1 q.symm) e, fun b' o' e => hs _ _ (fun q => by subst q; rw [z.2.2] at e; cases e) (F.keep _ _ e), F.above⟩, fun p hp => ?_⟩
  obtain ⟨hp, hne⟩ := List.mem_filter.mp hp
  have y := N p hp
  exact ⟨hs _ _ (by simpa using hne) y.1, y.2⟩
theorem strNext_K {x : Str} {t : Tok} {i c : Nat} {Q : Option Value → Shared → Prop} (F : Fr h₀ L s.heap m) (N : News h₀ L s.heap news) (hO : StrIt o x t i) (U : UpdF I o news g) (hx : x.cps[i]? = some c)
    (h : ∀ o' h', StrIt o' x t (i + 1) → Fr h₀ L h' m → News h₀ L h' (g o') → Q (some (.str ⟨#[c]⟩ s.toks)) { s with heap := h', toks := s.toks + 1 }) : wpAny (model prog w) A (pyNext (.ref I)) Q E s := by
  refine wpAny_pyNext_ascii_item ⟨o, (N _ (updF_mem U)).1, hO.cls, hO.data⟩ hx fun h' hi hs => ?_
  obtain ⟨o', ho', hc, hd⟩ := hi
  obtain ⟨a, b⟩ := upd_ext F N U hs.extBut ho'
  exact h o' h' ⟨hc, hd⟩ a b
theorem rangeIter_R {a b c : Int} {t u v : Tok} {Q : Value → Shared → Prop} (F : Fr h₀ L s.heap m) (N : News h₀ L s.heap news) (hr : IsRange s.heap r a b c t u v) (hs : Builtin.Range.small a b c = true)
    (h : ∀ I h', Fr h₀ L h' m → News h₀ L h' ((I, rgIt a (Builtin.Range.rangeSize a b c) c) :: news) → (∀ p ∈ news, p.1 < I) → Q (.ref I) { s with heap := h' }) : wpAny (model prog w) A (pyIter (.ref r)) Q E s := by
  obtain ⟨a', b', c'⟩ := news_pushK (o := rgIt a (Builtin.Range.rangeSize a b c) c) F N
  exact wpAny_pyIter_range hr hs (h _ _ a' b' c')
theorem rangeNext_K {x left step : Int} {Q : Option Value → Shared → Prop} (F : Fr h₀ L s.heap m) (N : News h₀ L s.heap news) (U : UpdF I (rgIt x left step) news g) (hl : 0 < left)
    (h : ∀ h', Fr h₀ L h' m → News h₀ L h' (g (rgIt (x + step) (left - 1) step)) → Q (some (.int x s.toks)) { s with heap := h', toks := s.toks + 1 }) : wpAny (model prog w) A (pyNext (.ref I)) Q E s := by
  refine wpAny_pyNext_range_item (N _ (updF_mem U)).1 hl fun h' hi hs => ?_
  obtain ⟨a, b⟩ := upd_ext F N U hs.extBut hi
  exact h h' a b
end
inductive DropF (I : Addr) : List (Addr × Obj) → List (Addr × Obj) → Prop where
  | head {o : Obj} {r : List (Addr × Obj)} : (∀ p ∈ r, p.1 ≠ I) → DropF I ((I, o) :: r) r
  | tail {q : Addr × Obj} {r r' : List (Addr × Obj)} : q.1 ≠ I → DropF I r r' → DropF I (q :: r) (q :: r')
theorem DropF.sub {I : Addr} {a b : List (Addr × Obj)} (h : DropF I a b) : ∀ p ∈ b, p ∈ a ∧ p.1 ≠ I := by
  induction h with
  | head h => exact fun p hp => ⟨.tail _ hp, h p hp⟩
  | tail h _ ih =>
    intro p hp
    rcases List.mem_cons.mp hp with rfl | hp
    · exact ⟨.head _, h⟩
    · exact ⟨.tail _ (ih p hp).1, (ih p hp).2⟩
theorem last_get (vs : List Value) (v : Value) : (vs ++ [v]).toArray[((((vs ++ [v]).length : Nat) : Int) - 1).toNat]? = some v := by
  have e : ((((vs ++ [v]).length : Nat) : Int) - 1).toNat = vs.length := by simp
  rw [e]; simp
theorem len_pred (vs : List Value) (v : Value) : (((vs ++ [v]).length : Nat) : Int) - 1 = ((vs.length : Nat) : Int) := by simp
section
variable {prog : Program} {w : World} {A : Around} {E : Value → Shared → Prop} {s : Shared} {h₀ : Heap} {L I r : Addr} {m : Str → Option Value} {news news' : List (Addr × Obj)} {o : Obj}
theorem strDone_D {x : Str} {t : Tok} {i : Nat} {Q : Option Value → Shared → Prop} (hh : A.handled = none) (F : Fr h₀ L s.heap m) (N : News h₀ L s.heap news) (hI : (I, o) ∈ news) (hO : StrIt o x t i) (D : DropF I news news') (hx : x.cps[i]? = none)
    (h : ∀ h', Fr h₀ L h' m → News h₀ L h' news' → Q none { s with heap := h' }) : wpAny (model prog w) A (pyNext (.ref I)) Q E s := by
  refine wpAny_pyNext_ascii_end hh ⟨o, (N _ hI).1, hO.cls, hO.data⟩ hx fun h' hs => ?_
  obtain ⟨a, b⟩ := drop_ext F N hI hs
  exact h h' a (subN b fun p hp => List.mem_filter.mpr ⟨(D.sub p hp).1, by simpa using (D.sub p hp).2⟩)
theorem rangeDone_D {x left step : Int} {Q : Option Value → Shared → Prop} (hh : A.handled = none) (F : Fr h₀ L s.heap m) (N : News h₀ L s.heap news) (hI : (I, rgIt x left step) ∈ news) (D : DropF I news news') (hl : left ≤ 0)
    (h : ∀ h', Fr h₀ L h' m → News h₀ L h' news' → Q none { s with heap := h' }) : wpAny (model prog w) A (pyNext (.ref I)) Q E s := by
  refine wpAny_pyNext_range_end hh (N _ hI).1 hl fun h' hs => ?_
  obtain ⟨a, b⟩ := drop_ext F N hI hs
  exact h h' a (subN b fun p hp => List.mem_filter.mpr ⟨(D.sub p hp).1, by simpa using (D.sub p hp).2⟩)
end
end
section
theorem off_RPq : True := by
  k_with_none
  trivial
open PySem PySem.W PyProof.Rows PySem.Calls
noncomputable def TextsAre (vs : List Value) (ts : List Str) : Prop := ∃ l : List (Str × Tok), vs = strValues l ∧ l.map (·.1) = ts
theorem TextsAre.nil : TextsAre [] [] := ⟨[], rfl, rfl⟩
theorem TextsAre.snoc {vs : List Value} {ts : List Str} {a : Str} {t : Tok} (h : TextsAre vs ts) : TextsAre (vs ++ [.str a t]) (ts ++ [a]) := by
  obtain ⟨l, rfl, rfl⟩ := h
  exact ⟨l ++ [(a, t)], by simp [strValues], by simp⟩
theorem TextsAre.length {vs : List Value} {ts : List Str} (h : TextsAre vs ts) : vs.length = ts.length := by
  obtain ⟨l, rfl, rfl⟩ := h; simp [strValues]
structure FS where
  ts : List Str
  fs : List (Str × Str)
  i : Int
noncomputable def bl (w : Str) : Str × Str := (Str.ofString " ", w)
noncomputable def FS.step (M : Int) (a : FS) (w : Str) : FS :=
  if a.i + fwLen (a.fs ++ [bl w]) ≤ M then ⟨a.ts, a.fs ++ [bl w], a.i⟩ else
  if a.fs ≠ [] then ⟨a.ts ++ [fwStr a.fs], [bl w], 0⟩ else
  if 0 < a.i then ⟨a.ts ++ [Str.ofString ""], [bl w], 0⟩ else ⟨a.ts, [bl w], 0⟩
noncomputable def AppQ (P : Params) (h₀ : Heap) (L : Addr) (m : Str → Option Value) (fv fd ll x dx : Addr) (t1 t2 t3 t4 t5 t6 u1 u2 u3 u4 t : Tok) (M : Int) (own : List (Addr × Obj)) (a : FS) (s : Shared) (Q : Shared → Prop) : Prop :=
  ∀ h' tk gs o1 o2 n' nl' u' ls' vs' own', Fr h₀ L h' m → AllBare gs → TabOk o1 → TabOk o2 →
    News h₀ L h' ((fv, instObj 143 fd) :: (fd, fmtD P t1 t2 t3 t4 t5 t6 u1 u2 u3 u4 M ll x) :: (ll, lsO ls' nl') :: (x, accO 227 dx vs'.toArray n') :: (dx, accD P t a.i u') :: (189, o1) :: (196, o2) :: own') →
    (∀ p ∈ own, p ∈ own') → OwnOff own' [ll, x, dx, 189, 196] → TextsAre ls' a.ts → PtsIn own' vs' a.fs → Q { s with heap := h', toks := tk, gens := gs }
theorem ownOff_cons {own : List (Addr × Obj)} {p : Addr × Obj} {adr : List Addr} (ho : OwnOff own adr) (h : ∀ b ∈ adr, b < p.1) : OwnOff (p :: own) adr := fun q hq b hb => by
  rcases List.mem_cons.mp hq with rfl | hq
  · exact Nat.ne_of_gt (h b hb)
  · exact ho q hq b hb
end
section
theorem off_CKq : True := by
  k_with_none
  trivial
open PySem PySem.W PyProof.Rows PySem.Calls
theorem on_CKq0 : True := by
 k_with_none
 k_with "li" => ((try simp only [List.length_nil, List.length_append, List.length_cons, ptV_length]); k_extra "om")
 k_with "pt" => (first | exact PtsIn.nil | exact PtsIn.one (by k_mem) | exact PtsIn.mono (by assumption) (by (intro q hq; (repeat (first | exact hq | exact List.mem_append_left _ hq | refine List.Mem.tail _ ?_ | refine List.mem_append_right _ ?_)))) | exact PtsIn.snoc (PtsIn.mono (by assumption) (by (intro q hq; (repeat (first | exact hq | exact List.mem_append_left _ hq | refine List.Mem.tail _ ?_ | refine List.mem_append_right _ ?_))))) (by k_mem))
 k_with "ps" => (first | assumption | decide | ((try dsimp only); first | assumption | decide | k_extra "om" | (simp only [List.length_nil, List.length_append, List.length_cons]; k_extra "om")))
 k_with "ax" => first | assumption | exact ja0 ‹_› | exact ja1 ‹_› | exact je1 ‹_› | exact ja2 ‹_› | exact ja3 ‹_› | exact ja4 ‹_› | exact ja5 ‹_› | exact je5 ‹_› | exact ja6 ‹_› | exact ja7 ‹_› | exact je7 ‹_› | exact ja8 ‹_› | exact ja9 ‹_› | exact je13 ‹_› | exact je14 ‹_›
 k_with "nx" => with_reducible (first | (refine Nat.ne_of_lt ?_; (repeat (first | exact js | refine jl ?_)); all_goals k_extra "ax") | (refine Nat.ne_of_gt ?_; (repeat (first | exact js | refine jl ?_)); all_goals k_extra "ax") | k_extra "ax" | (refine Ne.symm ?_; k_extra "ax"))
 k_with "rm" => ((with_reducible first | exact room0 ‹_› | refine room1 ‹_› ?_ | refine room2 ‹_› ?_ | refine room3 ‹_› ?_ | refine room4 ‹_› ?_); all_goals exact rfl)
 k_with "om" => first | (with_reducible first | k_extra "ax" | exact jn ‹_› | exact jn (ja0 ‹_›) | (refine Nat.lt_trans ?_ ‹_›; k_extra "ax")) | decide | omega
 k_with "hk" => (with_reducible first | (refine hKq _ _ ?_; clear hKq; (try clear Kq)))
 k_with "q:execs cons" => (k_here; (with_reducible refine execs_consK ?_); intro Kq tkq hKq)
 k_with "q:k_ne" => (refine neN ?_; (try dsimp only); first | k_extra "nx" | omega)
 k_with "q:sub9" => row_timed "f" (fail; (repeat' (first | (refine fm (by k_mem) ?_) | exact List.forall_mem_nil _ | (intro pZ hpZ; (repeat (first | with_reducible_and_instances exact hpZ | with_reducible_and_instances exact List.mem_append_right _ hpZ | refine List.Mem.tail _ ?_)); done) | exact fun _ hpZ => hpZ | (intro pZ hpZ; (repeat (first | exact hpZ | exact List.mem_append_right _ hpZ | refine List.Mem.tail _ ?_))))))
 k_with "q:k_room" => row_timed "f" (fail; ((try simp only [depth_under_make, depth_under_kw, depth_in1, depth_deeper]); (try dsimp only); first | k_extra "rm" | omega))
 k_with "q:k_units" => row_timed "f" (fail; ((try simp only [Around.deeper_units, Around.in1_units, Around.mark_units]); (try dsimp only); first | k_extra "rm" | omega))
 k_with "q:k_mem" => row_timed "f" (fail; (with_reducible_and_instances (repeat (first | exact List.Mem.head _ | refine List.Mem.tail _ ?_)); done))
 k_with "q:getMethod ref" => row_timed "f" (fail; (k_here; k_dflt (refine' methodL_fn ?k1Z ?k2Z ?k3Z (z227_get _) ?k5Z ?k6Z ?k7Z ?_; (case k1Z | k2Z => k_asm); (case k3Z => refine' instAcc_news ?NZ ?h1Z ?h2Z; (case NZ => k_asm); (case h1Z | h2Z => k_mem)); (case k5Z | k6Z => k_is); (case k7Z => k_get); k_whole)))
 k_with "q:getAttr ref" => row_timed "f" (fail; (k_here; k_dflt (refine' getL_own ?k1Z ?k2Z ?k3Z (z227 _) (z227_get _) ?k4Z ?k5Z ?k6Z ?k7Z ?k8Z ?_; (case k1Z | k2Z => k_asm); (case k3Z => refine' instAcc_news ?NZ ?h1Z ?h2Z; (case NZ => k_asm); (case h1Z | h2Z => k_mem)); (case k4Z | k5Z | k6Z => k_is); (case k7Z => k_get); (case k8Z => k_handed); k_whole)))
 k_with "q:k_inst" => row_timed "f" (fail; (refine' instAcc_news ?NZ ?h1Z ?h2Z; (case NZ => k_asm); (case h1Z | h2Z => k_mem)))
 k_with "q:k_ne" => (refine neN ?_; (try dsimp only); first | exact Ap.ne (by assumption) | exact Ne.symm (Ap.ne (by assumption)) | k_extra "nx" | omega)
 k_with "q:LenBack" => row_timed "f" (fail; ((dsimp only [W.LenBack]); refine ⟨⟨by k_extra "om", by k_extra "om"⟩, ?_⟩))
 k_with "q:NeBack" => row_timed "f" (fail; ((dsimp only [NeBack]); rw [ne_tt (by k_extra "om")]))
 k_with "q:StrBack" => row_timed "f" (fail; (dsimp only [W.StrBack]))
 k_with "q:exec For" => row_timed "f" (fail; (k_here; (refine for_start ?_)))
 k_with "q:pyIter str" => row_timed "f" (fail; (k_here; k_dflt (refine' strIter_K ?FZ ?NZ ?haZ ?_; (case FZ | NZ => k_asm); (case haZ => kernel_rfl); k_whole); intro I'Z o'Z h'Z hO'Z F'Z N'Z l1Z; (try k_lt l1Z)))
 k_with "q:pyIter ref" => row_timed "f" (fail; (k_here; k_dflt (refine' rangeIter_R ?FZ ?NZ ?hrZ ?hsZ ?_; (case FZ | NZ | hrZ => k_asm); (case hsZ => exact small_down (by (k_extra "li")) (by (k_extra "li")) (by (k_extra "li")) (by (k_extra "li"))); k_whole); intro I'Z h'Z F'Z N'Z l1Z; (try k_lt l1Z)))
 k_with "q:ForRest" => row_timed "f" (fail; (k_here; (refine for_turn (by passes_own) (by intro _; rfl) ?_)))
 k_with "q:pyNext ref" => row_timed "f" (fail; (k_here; k_dflt (first
      | (refine' rangeNext_K ?FZ ?NZ ?UZ ?hlZ ?_; (case FZ | NZ => k_asm); (case UZ => k_updF); (case hlZ => (rw [rangeSize_downNat]; (k_extra "li"))); k_whole; intro h'Z F'Z N'Z)
      | (refine' rangeDone_D ?hhZ ?FZ ?NZ ?hIZ ?DZ ?hlZ ?_; (case hhZ => rfl); (case FZ | NZ => k_asm); (case hIZ => k_mem); (case DZ => (repeat (first | (refine DropF.head (by k_all)) | (refine DropF.tail (by k_ne) ?_)))); (case hlZ => (rw [rangeSize_downNat]; (k_extra "li"))); k_whole; intro h'Z F'Z N'Z)
      | (refine' strNext_K ?FZ ?NZ ?hOZ ?UZ ?hxZ ?_; (case FZ | NZ => k_asm); (case UZ => k_updF); (case hOZ => k_asm); (case hxZ => rfl); k_whole; intro o'Z h'Z hO'Z F'Z N'Z)
      | (refine' strDone_D ?hhZ ?FZ ?NZ ?hIZ ?hOZ ?DZ ?hxZ ?_; (case hhZ => rfl); (case FZ | NZ => k_asm); (case hIZ => k_mem); (case hOZ => k_asm); (case DZ => (repeat (first | (refine DropF.head (by k_all)) | (refine DropF.tail (by k_ne) ?_)))); (case hxZ => rfl); k_whole; intro h'Z F'Z N'Z))))
 k_with "q:ForNext" => row_timed "f" (fail; (dsimp only [ForNext]))
 k_with "q:ForPost" => row_timed "f" (fail; (dsimp only [ForPost]))
 k_with "q:subscriptTail" => row_timed "f" (fail; (k_here; k_dflt (refine' acc_item_K ?k1Z ?k2Z ?k3Z (z227 _) ?k4Z ?k5Z ?h0Z ?hfZ ?hvZ ?_ ?slZ; (case k1Z | k2Z | k3Z => k_asm); (case k4Z | k5Z => k_mem); (case h0Z | hfZ => (k_extra "li")); (case hvZ => exact last_get _ _); (case slZ => with_unfolding_all rfl); k_whole)))
 k_with "q:call ref" => row_timed "f" (fail; (k_here; (with_reducible show wpAny _ _ (call (Value.ref 194) _) _ _ _); k_dflt (refine' len_K ?BZ ?FZ ?KXZ ?TZ ?hfZ ?hkeZ ?NZ ?GZ ?hxZ ?hdxZ ?hvZ ?UZ ?hTZ ?hdZ ?huZ ?hokZ ?_; (case BZ | FZ => k_asm); (case KXZ | TZ => k_asm); (case hfZ | hkeZ => exact rfl); (case NZ | GZ => k_asm); (case hxZ | hdxZ => k_mem); (case hvZ => (k_extra "pt")); (case UZ => k_updF); (case hTZ => k_asm); (case hdZ => k_room); (case huZ => k_units); (case hokZ => (first | assumption | exact PtOk.nil | exact PtOk.one (by (k_extra "ps")) (by (k_extra "ps")) | (refine PtOk.snoc (by first | assumption | exact PtOk.nil | (refine PtOk.snoc (by first | assumption | exact PtOk.nil) (by (k_extra "ps")) (by (k_extra "ps")) (by (k_extra "ps")))) (by (k_extra "ps")) (by (k_extra "ps")) (by (k_extra "ps"))))); k_whole); intro h'Z tk'Z gs'Z tv'Z o2Z F'Z G'Z hT'Z N'Z hPl'Z; (try dsimp only at N'Z); (try dsimp only); (try k_sweep)))
 k_with "q:call ref" => row_timed "f" (fail; (k_here; (with_reducible show wpAny _ _ (call (Value.ref 201) _) _ _ _); k_dflt (refine' str_K ?BZ ?FZ ?KXZ ?TZ ?hfZ ?hkeZ ?NZ ?GZ ?hxZ ?hdxZ ?hvZ ?UZ ?hTZ ?hdZ ?huZ ?hokZ ?_; (case BZ | FZ => k_asm); (case KXZ | TZ => k_asm); (case hfZ | hkeZ => exact rfl); (case NZ | GZ => k_asm); (case hxZ | hdxZ => k_mem); (case hvZ => (k_extra "pt")); (case UZ => k_updF); (case hTZ => k_asm); (case hdZ => k_room); (case huZ => k_units); (case hokZ => (first | assumption | exact PtOk.nil | exact PtOk.one (by (k_extra "ps")) (by (k_extra "ps")) | (refine PtOk.snoc (by first | assumption | exact PtOk.nil | (refine PtOk.snoc (by first | assumption | exact PtOk.nil) (by (k_extra "ps")) (by (k_extra "ps")) (by (k_extra "ps")))) (by (k_extra "ps")) (by (k_extra "ps")) (by (k_extra "ps"))))); k_whole); intro h'Z tk'Z gs'Z tv'Z o2Z F'Z G'Z hT'Z N'Z; (try dsimp only at N'Z); (try dsimp only); (try k_sweep)))
 k_with "q:call ref" => row_timed "f" (fail; (k_here; (with_reducible show wpAny _ _ (call (Value.ref 171) _) _ _ _); k_dflt (refine' push_K ?BZ ?FZ ?KXZ ?TZ ?hfZ ?hkeZ ?NZ ?hdxZ ?UZ ?hdZ ?huZ ?hszZ ?_; (case BZ | FZ => k_asm); (case KXZ | TZ => k_asm); (case hfZ | hkeZ => exact rfl); (case NZ => k_asm); (case hdxZ => k_mem); (case UZ => k_updF); (case hdZ => k_room); (case huZ => k_units); (case hszZ => (k_extra "li")); k_whole); intro h'Z tk'Z n'Z tp'Z F'Z N'Z l1Z; (try k_lt l1Z); (try dsimp only at N'Z); (try dsimp only); (try k_sweep)))
 k_with "q:call ref" => row_timed "f" (fail; (k_here; (with_reducible show wpAny _ _ (call (Value.ref 209) _) _ _ _); k_dflt (refine' reset_K ?BZ ?FZ ?KXZ ?TZ ?hfZ ?hkeZ ?NZ ?UZ ?VZ ?hlZ ?hdZ ?huZ ?hszZ ?hsyZ ?_; (case BZ | FZ => k_asm); (case KXZ | TZ => k_asm); (case hfZ | hkeZ => exact rfl); (case NZ => k_asm); (case UZ => k_updF); (case VZ => intro o'Z; k_updF); (case hlZ => k_mem); (case hdZ => k_room); (case huZ => k_units); (case hszZ | hsyZ => (k_extra "li")); k_whole); intro h'Z tk'Z n'Z u'Z F'Z N'Z; (try dsimp only at N'Z); (try dsimp only); (try k_sweep)))
 k_with "q:call ref" => row_timed "f" (fail; (k_here; (with_reducible show wpAny _ _ (call (Value.ref 179) _) _ _ _); k_dflt (refine' pop_last_K ?BZ ?FZ ?KXZ ?TZ ?hfZ ?hkeZ ?NZ ?hdxZ ?UZ ?hzZ ?hdZ ?huZ ?hszZ ?_; (case BZ | FZ => k_asm); (case KXZ | TZ => k_asm); (case hfZ | hkeZ => exact rfl); (case NZ => k_asm); (case hdxZ => k_mem); (case UZ => k_updF); (case hzZ => exact len_pred _ _); (case hdZ => k_room); (case huZ => k_units); (case hszZ => (k_extra "li")); k_whole); intro h'Z tk'Z n'Z D'Z n2'Z F'Z N'Z l1Z; (try k_lt l1Z); (try dsimp only at N'Z); (try dsimp only); (try k_sweep)))
 k_with "q:call ref" => row_timed "f" (fail; (k_here; (with_reducible show wpAny _ _ (call (Value.ref 224) _) _ _ _); k_dflt (refine' part_count_K ?BZ ?FZ ?KXZ ?TZ ?hfZ ?hkeZ ?NZ ?hxZ ?hdxZ ?hdZ ?huZ ?_; (case BZ | FZ => k_asm); (case KXZ | TZ => k_asm); (case hfZ | hkeZ => exact rfl); (case NZ => k_asm); (case hxZ | hdxZ => k_mem); (case hdZ => k_room); (case huZ => k_units); k_whole); intro h'Z tk'Z tv'Z F'Z N'Z; (try dsimp only at N'Z); (try dsimp only); (try k_sweep)))
 trivial
section
variable {w : World} {A₀ : Around} {base h₀ : Heap} {env : Env} {outer : List Env} {dd uu : Nat} {gs : Option (List Code)} {L : Addr} {m mg mb : Str → Option Value} {s : Shared} {own : List (Addr × Obj)} {p : Program} {loose : List Str} {mean : ExcName → Option Value} {Q : Value → Shared → Prop} {E : Value → Shared → Prop}
  (B : Below A₀ base outer h₀) (F : Fr h₀ L s.heap m) (KX : (Mine.hd.heap_1 w.params).In h₀) (T : Top p loose mean mg mb h₀) (hf : env.frame = some L) (hke : env.scope.kind = .function)
include B F KX T hf hke
variable {fv fd ll x dx : Addr} {qs : List Pt} {n nl : Nat} {t u t1 t2 t3 t4 t5 t6 u1 u2 u3 u4 : Tok} {i M : Int} {o1 o2 : Obj} {ls : List Value}
theorem append12_in {vs : List Value} {fs : List (Str × Str)} {ts : List Str} {wd : Str} {ta tb : Tok}
   (N : News h₀ L s.heap ((fv, instObj 143 fd) :: (fd, fmtD w.params t1 t2 t3 t4 t5 t6 u1 u2 u3 u4 M ll x) :: (ll, lsO ls nl) :: (x, accO 227 dx vs.toArray n) :: (dx, accD w.params t i u) :: (189, o1) :: (196, o2) :: own))
   (hv : PtsIn own vs fs) (hls : TextsAre ls ts) (hok : PtOk fs) (hfs : fs.length < 900) (hwl : wd.length ≤ 1000) (hi : 0 ≤ i) (hi2 : i ≤ 1000) (hor : i + fwLen (fs ++ [(Str.ofString " ", wd)]) ≤ M ∨ 0 < vs.length)
   (hT : TabOk o1) (hT2 : TabOk o2) (G : AllBare s.gens) (hne : Dis [fv, fd, ll, x, dx, 189, 196]) (ho : OwnOff own [ll, x, dx, 189, 196])
   (hd : dd + 90 < recursionLimit) (hu : uu + 600 < cLine) (hll : ls.length ≤ 900)
   (h1 : i + fwLen (fs ++ [(Str.ofString " ", wd)]) ≤ M → AppQ w.params h₀ L m fv fd ll x dx t1 t2 t3 t4 t5 t6 u1 u2 u3 u4 t M own ⟨ts, fs ++ [bl wd], i⟩ s (Q .none))
   (h2 : M < i + fwLen (fs ++ [(Str.ofString " ", wd)]) → AppQ w.params h₀ L m fv fd ll x dx t1 t2 t3 t4 t5 t6 u1 u2 u3 u4 t M own ⟨ts ++ [fwStr fs], [bl wd], 0⟩ s (Q .none)) :
   wpAny (model rw_wn0107_02.row.toRowW.prog w) ⟨none, dd, some (env :: outer), gs, uu⟩ (call (.ref 140) [.ref fv, .str " " ta, .str wd tb]) Q E s := by
  have hvl := hv.length
  first | refine Dis.e7 hne ?_ | refine Dis.e3 hne ?_ | refine Dis.e5 hne ?_ | refine Dis.e4 hne ?_
  intros
  revert KX; k_fill; intro KX
  refine wpAny_call ?_
  refine' code_def ?k1 ?k2 ?k3 ?k4 ?k5 ?kA ?kF ?kK ?k6 ?k7 ?k8 ?k9 ?kB ?_ ?c2 ?c3 ?c4 ?c5
  case kA => exact rfl
  case kF => exact hf
  case kK => exact hke
  case k1 => k_asm
  case k2 => k_asm
  case k3 => k_asm
  case k4 => k_asm
  case k5 => k_asm
  case k6 => k_is
  case k7 => k_is
  case k8 => show dd < recursionLimit; first | exact room0 (by assumption) | k_extra "om"
  case k9 => first | exact BindsTo.of_eq rfl | exact binds_K (by k_in) rfl (by k_is) rfl rfl rfl
  case c5 => decide
  case kB => exact locs rfl
  case c2 => exact rfl
  case c3 => exact rfl
  case c4 => exact rfl
  k_whole; intro g' L' h' FG' F' N' B' X' T'; (try dsimp only); (try k_lift B'); (try k_fold); clear B F KX N T FG'
  k_steps
  all_goals (refine leaveK_ (by k_asm) (by k_asm) fun kF kN => ?_)
  · simp only [List.push_toArray] at kN
    refine' h2 (by k_extra "om") _ _ _ ?o1 ?o2 _ _ _ _ [_] ((_, _) :: own) kF ?g ?t1 ?t2 (subN kN ?sub) (fun _ h => .tail _ h) (ownOff_cons ho ?off) hls.snoc (PtsIn.one (.head _))
    case sub => walk_at "sub9"
    case off => simp only [List.forall_mem_cons, List.not_mem_nil, false_imp_iff, implies_true, and_true]; (repeat' (refine And.intro ?_ ?_)) <;> (show @LT.lt Nat _ _ _) <;> k_extra "om"
    all_goals assumption
  · refine' h1 (by k_extra "om") _ _ _ ?o3 ?o4 _ _ _ _ _ ((_, _) :: own) kF ?g2 ?t3 ?t4 (subN kN ?sub2) (fun _ h => .tail _ h) (ownOff_cons ho ?off2) hls (PtsIn.snoc (hv.mono fun _ h => .tail _ h) (.head _))
    case sub2 => walk_at "sub9"
    case off2 => simp only [List.forall_mem_cons, List.not_mem_nil, false_imp_iff, implies_true, and_true]; (repeat' (refine And.intro ?_ ?_)) <;> (show @LT.lt Nat _ _ _) <;> k_extra "om"
    all_goals assumption
theorem append1_in {vs : List Value} {fs : List (Str × Str)} {ts : List Str} {wd : Str} {ta tb : Tok}
   (N : News h₀ L s.heap ((fv, instObj 143 fd) :: (fd, fmtD w.params t1 t2 t3 t4 t5 t6 u1 u2 u3 u4 M ll x) :: (ll, lsO ls nl) :: (x, accO 227 dx vs.toArray n) :: (dx, accD w.params t i u) :: (189, o1) :: (196, o2) :: own))
   (hv : PtsIn own vs fs) (hls : TextsAre ls ts) (hok : PtOk fs) (hfs : fs.length < 900) (hwl : wd.length ≤ 1000) (hi : 0 ≤ i) (hi2 : i ≤ 1000) (hle : i + fwLen (fs ++ [(Str.ofString " ", wd)]) ≤ M)
   (hT : TabOk o1) (hT2 : TabOk o2) (G : AllBare s.gens) (hne : Dis [fv, fd, ll, x, dx, 189, 196]) (ho : OwnOff own [ll, x, dx, 189, 196])
   (hd : dd + 90 < recursionLimit) (hu : uu + 600 < cLine) (hll : ls.length ≤ 900)
   (h : AppQ w.params h₀ L m fv fd ll x dx t1 t2 t3 t4 t5 t6 u1 u2 u3 u4 t M own ⟨ts, fs ++ [bl wd], i⟩ s (Q .none)) :
   wpAny (model rw_wn0107_02.row.toRowW.prog w) ⟨none, dd, some (env :: outer), gs, uu⟩ (call (.ref 140) [.ref fv, .str " " ta, .str wd tb]) Q E s := append12_in B F KX T hf hke N hv hls hok hfs hwl hi hi2 (.inl hle) hT hT2 G hne ho hd hu hll (fun _ => h) (fun e => absurd e (Int.not_lt.mpr hle))
theorem append2_in {vs : List Value} {fs : List (Str × Str)} {ts : List Str} {wd : Str} {ta tb : Tok}
   (N : News h₀ L s.heap ((fv, instObj 143 fd) :: (fd, fmtD w.params t1 t2 t3 t4 t5 t6 u1 u2 u3 u4 M ll x) :: (ll, lsO ls nl) :: (x, accO 227 dx vs.toArray n) :: (dx, accD w.params t i u) :: (189, o1) :: (196, o2) :: own))
   (hv : PtsIn own vs fs) (hls : TextsAre ls ts) (hok : PtOk fs) (hfs : fs.length < 900) (hwl : wd.length ≤ 1000) (hi : 0 ≤ i) (hi2 : i ≤ 1000) (hgt : M < i + fwLen (fs ++ [(Str.ofString " ", wd)])) (hne0 : 0 < vs.length)
   (hT : TabOk o1) (hT2 : TabOk o2) (G : AllBare s.gens) (hne : Dis [fv, fd, ll, x, dx, 189, 196]) (ho : OwnOff own [ll, x, dx, 189, 196])
   (hd : dd + 90 < recursionLimit) (hu : uu + 600 < cLine) (hll : ls.length ≤ 900)
   (h : AppQ w.params h₀ L m fv fd ll x dx t1 t2 t3 t4 t5 t6 u1 u2 u3 u4 t M own ⟨ts ++ [fwStr fs], [bl wd], 0⟩ s (Q .none)) :
   wpAny (model rw_wn0107_02.row.toRowW.prog w) ⟨none, dd, some (env :: outer), gs, uu⟩ (call (.ref 140) [.ref fv, .str " " ta, .str wd tb]) Q E s := append12_in B F KX T hf hke N hv hls hok hfs hwl hi hi2 (.inr hne0) hT hT2 G hne ho hd hu hll (fun e => absurd hgt (Int.not_lt.mpr e)) (fun _ => h)
end
end
section
theorem off_CLq : True := by
  k_with_none
  trivial
open PySem PySem.W PyProof.Rows PySem.Calls
theorem on_CLq0 : True := by
 k_with_none
 k_with "li" => ((try simp only [List.length_nil, List.length_append, List.length_cons, ptV_length]); k_extra "om")
 k_with "pt" => (first | exact PtsIn.nil | exact PtsIn.one (by k_mem) | exact PtsIn.mono (by assumption) (by (intro q hq; (repeat (first | exact hq | exact List.mem_append_left _ hq | refine List.Mem.tail _ ?_ | refine List.mem_append_right _ ?_)))) | exact PtsIn.snoc (PtsIn.mono (by assumption) (by (intro q hq; (repeat (first | exact hq | exact List.mem_append_left _ hq | refine List.Mem.tail _ ?_ | refine List.mem_append_right _ ?_))))) (by k_mem))
 k_with "ps" => (first | assumption | decide | ((try dsimp only); first | assumption | decide | k_extra "om" | (simp only [List.length_nil, List.length_append, List.length_cons]; k_extra "om")))
 k_with "ax" => first | assumption | exact ja0 ‹_› | exact ja1 ‹_› | exact je1 ‹_› | exact ja2 ‹_› | exact ja3 ‹_› | exact ja4 ‹_› | exact ja5 ‹_› | exact je5 ‹_› | exact ja6 ‹_› | exact ja7 ‹_› | exact je7 ‹_› | exact ja8 ‹_› | exact ja9 ‹_› | exact je13 ‹_› | exact je14 ‹_›
 k_with "nx" => with_reducible (first | (refine Nat.ne_of_lt ?_; (repeat (first | exact js | refine jl ?_)); all_goals k_extra "ax") | (refine Nat.ne_of_gt ?_; (repeat (first | exact js | refine jl ?_)); all_goals k_extra "ax") | k_extra "ax" | (refine Ne.symm ?_; k_extra "ax"))
 k_with "rm" => ((with_reducible first | exact room0 ‹_› | refine room1 ‹_› ?_ | refine room2 ‹_› ?_ | refine room3 ‹_› ?_ | refine room4 ‹_› ?_); all_goals exact rfl)
 k_with "om" => first | (with_reducible first | k_extra "ax" | exact jn ‹_› | exact jn (ja0 ‹_›) | (refine Nat.lt_trans ?_ ‹_›; k_extra "ax")) | decide | omega
 k_with "hk" => (with_reducible first | (refine hKq _ _ ?_; clear hKq; (try clear Kq)))
 k_with "q:execs cons" => (k_here; (with_reducible refine execs_consK ?_); intro Kq tkq hKq)
 k_with "q:k_ne" => (refine neN ?_; (try dsimp only); first | k_extra "nx" | omega)
 k_with "q:sub9" => row_timed "f" (fail; (repeat' (first | (refine fm (by k_mem) ?_) | exact List.forall_mem_nil _ | (intro pZ hpZ; (repeat (first | with_reducible_and_instances exact hpZ | with_reducible_and_instances exact List.mem_append_right _ hpZ | refine List.Mem.tail _ ?_)); done) | exact fun _ hpZ => hpZ | (intro pZ hpZ; (repeat (first | exact hpZ | exact List.mem_append_right _ hpZ | refine List.Mem.tail _ ?_))))))
 k_with "q:k_room" => row_timed "f" (fail; ((try simp only [depth_under_make, depth_under_kw, depth_in1, depth_deeper]); (try dsimp only); first | k_extra "rm" | omega))
 k_with "q:k_units" => row_timed "f" (fail; ((try simp only [Around.deeper_units, Around.in1_units, Around.mark_units]); (try dsimp only); first | k_extra "rm" | omega))
 k_with "q:k_mem" => row_timed "f" (fail; (with_reducible_and_instances (repeat (first | exact List.Mem.head _ | refine List.Mem.tail _ ?_)); done))
 k_with "q:getMethod ref" => row_timed "f" (fail; (k_here; k_dflt (refine' methodL_fn ?k1Z ?k2Z ?k3Z (z227_get _) ?k5Z ?k6Z ?k7Z ?_; (case k1Z | k2Z => k_asm); (case k3Z => refine' instAcc_news ?NZ ?h1Z ?h2Z; (case NZ => k_asm); (case h1Z | h2Z => k_mem)); (case k5Z | k6Z => k_is); (case k7Z => k_get); k_whole)))
 k_with "q:getAttr ref" => row_timed "f" (fail; (k_here; k_dflt (refine' getL_own ?k1Z ?k2Z ?k3Z (z227 _) (z227_get _) ?k4Z ?k5Z ?k6Z ?k7Z ?k8Z ?_; (case k1Z | k2Z => k_asm); (case k3Z => refine' instAcc_news ?NZ ?h1Z ?h2Z; (case NZ => k_asm); (case h1Z | h2Z => k_mem)); (case k4Z | k5Z | k6Z => k_is); (case k7Z => k_get); (case k8Z => k_handed); k_whole)))
 k_with "q:k_inst" => row_timed "f" (fail; (refine' instAcc_news ?NZ ?h1Z ?h2Z; (case NZ => k_asm); (case h1Z | h2Z => k_mem)))
 k_with "q:k_ne" => (refine neN ?_; (try dsimp only); first | exact Ap.ne (by assumption) | exact Ne.symm (Ap.ne (by assumption)) | k_extra "nx" | omega)
 k_with "q:LenBack" => row_timed "f" (fail; ((dsimp only [W.LenBack]); refine ⟨⟨by k_extra "om", by k_extra "om"⟩, ?_⟩))
 k_with "q:NeBack" => row_timed "f" (fail; ((dsimp only [NeBack]); rw [ne_tt (by k_extra "om")]))
 k_with "q:StrBack" => row_timed "f" (fail; (dsimp only [W.StrBack]))
 k_with "q:exec For" => row_timed "f" (fail; (k_here; (refine for_start ?_)))
 k_with "q:pyIter str" => row_timed "f" (fail; (k_here; k_dflt (refine' strIter_K ?FZ ?NZ ?haZ ?_; (case FZ | NZ => k_asm); (case haZ => kernel_rfl); k_whole); intro I'Z o'Z h'Z hO'Z F'Z N'Z l1Z; (try k_lt l1Z)))
 k_with "q:pyIter ref" => row_timed "f" (fail; (k_here; k_dflt (refine' rangeIter_R ?FZ ?NZ ?hrZ ?hsZ ?_; (case FZ | NZ | hrZ => k_asm); (case hsZ => exact small_down (by (k_extra "li")) (by (k_extra "li")) (by (k_extra "li")) (by (k_extra "li"))); k_whole); intro I'Z h'Z F'Z N'Z l1Z; (try k_lt l1Z)))
 k_with "q:ForRest" => row_timed "f" (fail; (k_here; (refine for_turn (by passes_own) (by intro _; rfl) ?_)))
 k_with "q:pyNext ref" => row_timed "f" (fail; (k_here; k_dflt (first
      | (refine' rangeNext_K ?FZ ?NZ ?UZ ?hlZ ?_; (case FZ | NZ => k_asm); (case UZ => k_updF); (case hlZ => (rw [rangeSize_downNat]; (k_extra "li"))); k_whole; intro h'Z F'Z N'Z)
      | (refine' rangeDone_D ?hhZ ?FZ ?NZ ?hIZ ?DZ ?hlZ ?_; (case hhZ => rfl); (case FZ | NZ => k_asm); (case hIZ => k_mem); (case DZ => (repeat (first | (refine DropF.head (by k_all)) | (refine DropF.tail (by k_ne) ?_)))); (case hlZ => (rw [rangeSize_downNat]; (k_extra "li"))); k_whole; intro h'Z F'Z N'Z)
      | (refine' strNext_K ?FZ ?NZ ?hOZ ?UZ ?hxZ ?_; (case FZ | NZ => k_asm); (case UZ => k_updF); (case hOZ => k_asm); (case hxZ => rfl); k_whole; intro o'Z h'Z hO'Z F'Z N'Z)
      | (refine' strDone_D ?hhZ ?FZ ?NZ ?hIZ ?hOZ ?DZ ?hxZ ?_; (case hhZ => rfl); (case FZ | NZ => k_asm); (case hIZ => k_mem); (case hOZ => k_asm); (case DZ => (repeat (first | (refine DropF.head (by k_all)) | (refine DropF.tail (by k_ne) ?_)))); (case hxZ => rfl); k_whole; intro h'Z F'Z N'Z))))
 k_with "q:ForNext" => row_timed "f" (fail; (dsimp only [ForNext]))
 k_with "q:ForPost" => row_timed "f" (fail; (dsimp only [ForPost]))
 k_with "q:call ref" => row_timed "f" (fail; (k_here; (with_reducible show wpAny _ _ (call (Value.ref 194) _) _ _ _); k_dflt (refine' len_K ?BZ ?FZ ?KXZ ?TZ ?hfZ ?hkeZ ?NZ ?GZ ?hxZ ?hdxZ ?hvZ ?UZ ?hTZ ?hdZ ?huZ ?hokZ ?_; (case BZ | FZ => k_asm); (case KXZ | TZ => k_asm); (case hfZ | hkeZ => exact rfl); (case NZ | GZ => k_asm); (case hxZ | hdxZ => k_mem); (case hvZ => (k_extra "pt")); (case UZ => k_updF); (case hTZ => k_asm); (case hdZ => k_room); (case huZ => k_units); (case hokZ => (first | assumption | exact PtOk.nil | exact PtOk.one (by (k_extra "ps")) (by (k_extra "ps")) | (refine PtOk.snoc (by first | assumption | exact PtOk.nil | (refine PtOk.snoc (by first | assumption | exact PtOk.nil) (by (k_extra "ps")) (by (k_extra "ps")) (by (k_extra "ps")))) (by (k_extra "ps")) (by (k_extra "ps")) (by (k_extra "ps"))))); k_whole); intro h'Z tk'Z gs'Z tv'Z o2Z F'Z G'Z hT'Z N'Z hPl'Z; (try dsimp only at N'Z); (try dsimp only); (try k_sweep)))
 k_with "q:call ref" => row_timed "f" (fail; (k_here; (with_reducible show wpAny _ _ (call (Value.ref 171) _) _ _ _); k_dflt (refine' push_K ?BZ ?FZ ?KXZ ?TZ ?hfZ ?hkeZ ?NZ ?hdxZ ?UZ ?hdZ ?huZ ?hszZ ?_; (case BZ | FZ => k_asm); (case KXZ | TZ => k_asm); (case hfZ | hkeZ => exact rfl); (case NZ => k_asm); (case hdxZ => k_mem); (case UZ => k_updF); (case hdZ => k_room); (case huZ => k_units); (case hszZ => (k_extra "li")); k_whole); intro h'Z tk'Z n'Z tp'Z F'Z N'Z l1Z; (try k_lt l1Z); (try dsimp only at N'Z); (try dsimp only); (try k_sweep)))
 k_with "q:call ref" => row_timed "f" (fail; (k_here; (with_reducible show wpAny _ _ (call (Value.ref 187) _) _ _ _); k_dflt (refine' pop1_K ?BZ ?FZ ?KXZ ?TZ ?hfZ ?hkeZ ?NZ ?hdxZ ?UZ ?hdZ ?huZ ?_; (case BZ | FZ => k_asm); (case KXZ | TZ => k_asm); (case hfZ | hkeZ => exact rfl); (case NZ => k_asm); (case hdxZ => k_mem); (case UZ => k_updF); (case hdZ => k_room); (case huZ => k_units); k_whole); intro h'Z tk'Z n'Z F'Z N'Z; (try dsimp only at N'Z); (try dsimp only); (try k_sweep)))
 k_with "q:call ref" => row_timed "f" (fail; (k_here; (with_reducible show wpAny _ _ (call (Value.ref 105) _) _ _ _); k_dflt (refine' newline0_in ?BZ ?FZ ?KXZ ?TZ ?hfZ ?hkeZ ?NZ ?hiZ ?hi2Z ?hTZ ?hT2Z ?GZ ?hneZ ?hoZ ?hdZ ?huZ ?hllZ ?_; (case BZ | FZ => k_asm); (case KXZ | TZ => k_asm); (case hfZ | hkeZ => exact rfl); (case hneZ | hoZ => assumption); (case NZ => exact subN (by k_asm) (by walk_at "sub9")); (case hiZ | hi2Z => (k_extra "li")); (case hTZ | hT2Z | GZ => k_asm); (case hdZ => k_room); (case huZ => k_units); (case hllZ => (k_extra "li")); k_whole); intro h'Z tk'Z gs'Z o1'Z o2'Z n'Z nl'Z u'Z tv'Z F'Z G'Z hT'Z hT2'Z N'Z; (try dsimp only at N'Z); (try dsimp only); (try k_sweep)))
 k_with "q:call ref" => row_timed "f" (fail; (k_here; (with_reducible show wpAny _ _ (call (Value.ref 224) _) _ _ _); k_dflt (refine' part_count_K ?BZ ?FZ ?KXZ ?TZ ?hfZ ?hkeZ ?NZ ?hxZ ?hdxZ ?hdZ ?huZ ?_; (case BZ | FZ => k_asm); (case KXZ | TZ => k_asm); (case hfZ | hkeZ => exact rfl); (case NZ => k_asm); (case hxZ | hdxZ => k_mem); (case hdZ => k_room); (case huZ => k_units); k_whole); intro h'Z tk'Z tv'Z F'Z N'Z; (try dsimp only at N'Z); (try dsimp only); (try k_sweep)))
 trivial
section
variable {w : World} {A₀ : Around} {base h₀ : Heap} {env : Env} {outer : List Env} {dd uu : Nat} {gs : Option (List Code)} {L : Addr} {m mg mb : Str → Option Value} {s : Shared} {own : List (Addr × Obj)} {p : Program} {loose : List Str} {mean : ExcName → Option Value} {Q : Value → Shared → Prop} {E : Value → Shared → Prop}
  (B : Below A₀ base outer h₀) (F : Fr h₀ L s.heap m) (KX : (Mine.hd.heap_1 w.params).In h₀) (T : Top p loose mean mg mb h₀) (hf : env.frame = some L) (hke : env.scope.kind = .function)
include B F KX T hf hke
variable {fv fd ll x dx : Addr} {qs : List Pt} {n nl : Nat} {t u t1 t2 t3 t4 t5 t6 u1 u2 u3 u4 : Tok} {i M : Int} {o1 o2 : Obj} {ls : List Value}
theorem append34_in {ts : List Str} {wd : Str} {ta tb : Tok}
   (N : News h₀ L s.heap ((fv, instObj 143 fd) :: (fd, fmtD w.params t1 t2 t3 t4 t5 t6 u1 u2 u3 u4 M ll x) :: (ll, lsO ls nl) :: (x, accO 227 dx #[] n) :: (dx, accD w.params t i u) :: (189, o1) :: (196, o2) :: own))
   (hls : TextsAre ls ts) (hwl : wd.length ≤ 1000) (hi : 0 ≤ i) (hi2 : i ≤ 1000) (hgt : M < i + fwLen [(Str.ofString " ", wd)])
   (hT : TabOk o1) (hT2 : TabOk o2) (G : AllBare s.gens) (hne : Dis [fv, fd, ll, x, dx, 189, 196]) (ho : OwnOff own [ll, x, dx, 189, 196])
   (hd : dd + 90 < recursionLimit) (hu : uu + 600 < cLine) (hll : ls.length ≤ 900)
   (h3 : 0 < i → AppQ w.params h₀ L m fv fd ll x dx t1 t2 t3 t4 t5 t6 u1 u2 u3 u4 t M own ⟨ts ++ [Str.ofString ""], [bl wd], 0⟩ s (Q .none))
   (h4 : i = 0 → AppQ w.params h₀ L m fv fd ll x dx t1 t2 t3 t4 t5 t6 u1 u2 u3 u4 t M own ⟨ts, [bl wd], 0⟩ s (Q .none)) :
   wpAny (model rw_wn0107_02.row.toRowW.prog w) ⟨none, dd, some (env :: outer), gs, uu⟩ (call (.ref 140) [.ref fv, .str " " ta, .str wd tb]) Q E s := by
  first | refine Dis.e7 hne ?_ | refine Dis.e3 hne ?_ | refine Dis.e5 hne ?_ | refine Dis.e4 hne ?_
  intros
  revert KX; k_fill; intro KX
  refine wpAny_call ?_
  refine' code_def ?k1 ?k2 ?k3 ?k4 ?k5 ?kA ?kF ?kK ?k6 ?k7 ?k8 ?k9 ?kB ?_ ?c2 ?c3 ?c4 ?c5
  case kA => exact rfl
  case kF => exact hf
  case kK => exact hke
  case k1 => k_asm
  case k2 => k_asm
  case k3 => k_asm
  case k4 => k_asm
  case k5 => k_asm
  case k6 => k_is
  case k7 => k_is
  case k8 => show dd < recursionLimit; first | exact room0 (by assumption) | k_extra "om"
  case k9 => first | exact BindsTo.of_eq rfl | exact binds_K (by k_in) rfl (by k_is) rfl rfl rfl
  case c5 => decide
  case kB => exact locs rfl
  case c2 => exact rfl
  case c3 => exact rfl
  case c4 => exact rfl
  k_whole; intro g' L' h' FG' F' N' B' X' T'; (try dsimp only); (try k_lift B'); (try k_fold); clear B F KX N T FG'
  k_steps
  all_goals (show LeaveK _ _ _ _ _ _ _)
  all_goals (refine leaveK_ (by k_asm) (by k_asm) fun kF kN => ?_)
  · refine' h3 (by k_extra "om") _ _ _ ?o1 ?o2 _ _ _ _ [_] ((_, _) :: own) kF ?g ?t1 ?t2 (subN kN ?sub) (fun _ h => .tail _ h) (ownOff_cons ho ?off) hls.snoc (PtsIn.one (.head _))
    case sub => walk_at "sub9"
    case off => simp only [List.forall_mem_cons, List.not_mem_nil, false_imp_iff, implies_true, and_true]; (repeat' (refine And.intro ?_ ?_)) <;> (show @LT.lt Nat _ _ _) <;> k_extra "om"
    all_goals assumption
  · have hi0 : i = 0 := by k_extra "om"
    subst hi0
    refine' h4 rfl _ _ _ ?o3 ?o4 _ _ _ _ [_] ((_, _) :: own) kF ?g2 ?t3 ?t4 (subN kN ?sub2) (fun _ h => .tail _ h) (ownOff_cons ho ?off2) hls (PtsIn.one (.head _))
    case sub2 => walk_at "sub9"
    case off2 => simp only [List.forall_mem_cons, List.not_mem_nil, false_imp_iff, implies_true, and_true]; (repeat' (refine And.intro ?_ ?_)) <;> (show @LT.lt Nat _ _ _) <;> k_extra "om"
    all_goals assumption
theorem append3_in {ts : List Str} {wd : Str} {ta tb : Tok}
   (N : News h₀ L s.heap ((fv, instObj 143 fd) :: (fd, fmtD w.params t1 t2 t3 t4 t5 t6 u1 u2 u3 u4 M ll x) :: (ll, lsO ls nl) :: (x, accO 227 dx #[] n) :: (dx, accD w.params t i u) :: (189, o1) :: (196, o2) :: own))
   (hls : TextsAre ls ts) (hwl : wd.length ≤ 1000) (hi : 0 ≤ i) (hi2 : i ≤ 1000) (hgt : M < i + fwLen [(Str.ofString " ", wd)]) (hi0 : 0 < i)
   (hT : TabOk o1) (hT2 : TabOk o2) (G : AllBare s.gens) (hne : Dis [fv, fd, ll, x, dx, 189, 196]) (ho : OwnOff own [ll, x, dx, 189, 196])
   (hd : dd + 90 < recursionLimit) (hu : uu + 600 < cLine) (hll : ls.length ≤ 900)
   (h : AppQ w.params h₀ L m fv fd ll x dx t1 t2 t3 t4 t5 t6 u1 u2 u3 u4 t M own ⟨ts ++ [Str.ofString ""], [bl wd], 0⟩ s (Q .none)) :
   wpAny (model rw_wn0107_02.row.toRowW.prog w) ⟨none, dd, some (env :: outer), gs, uu⟩ (call (.ref 140) [.ref fv, .str " " ta, .str wd tb]) Q E s :=
  append34_in B F KX T hf hke N hls hwl hi hi2 hgt hT hT2 G hne ho hd hu hll (fun _ => h) (fun e => absurd (e ▸ hi0) (Int.lt_irrefl 0))
theorem append4_in {ts : List Str} {wd : Str} {ta tb : Tok}
   (N : News h₀ L s.heap ((fv, instObj 143 fd) :: (fd, fmtD w.params t1 t2 t3 t4 t5 t6 u1 u2 u3 u4 M ll x) :: (ll, lsO ls nl) :: (x, accO 227 dx #[] n) :: (dx, accD w.params t 0 u) :: (189, o1) :: (196, o2) :: own))
   (hls : TextsAre ls ts) (hwl : wd.length ≤ 1000)  (hgt : M < 0 + fwLen [(Str.ofString " ", wd)])
   (hT : TabOk o1) (hT2 : TabOk o2) (G : AllBare s.gens) (hne : Dis [fv, fd, ll, x, dx, 189, 196]) (ho : OwnOff own [ll, x, dx, 189, 196])
   (hd : dd + 90 < recursionLimit) (hu : uu + 600 < cLine) (hll : ls.length ≤ 900)
   (h : AppQ w.params h₀ L m fv fd ll x dx t1 t2 t3 t4 t5 t6 u1 u2 u3 u4 t M own ⟨ts, [bl wd], 0⟩ s (Q .none)) :
   wpAny (model rw_wn0107_02.row.toRowW.prog w) ⟨none, dd, some (env :: outer), gs, uu⟩ (call (.ref 140) [.ref fv, .str " " ta, .str wd tb]) Q E s :=
  append34_in B F KX T hf hke N hls hwl (Int.le_refl 0) (by decide) hgt hT hT2 G hne ho hd hu hll (fun e => absurd e (Int.lt_irrefl 0)) (fun _ => h)
end
end
section
theorem off_CMq : True := by
  k_with_none
  trivial
open PySem PySem.W PyProof.Rows PySem.Calls
section
variable {w : World} {A₀ : Around} {base h₀ : Heap} {env : Env} {outer : List Env} {dd uu : Nat} {gs : Option (List Code)} {L : Addr} {m mg mb : Str → Option Value} {s : Shared} {own : List (Addr × Obj)} {p : Program} {loose : List Str} {mean : ExcName → Option Value} {Q : Value → Shared → Prop} {E : Value → Shared → Prop}
  (B : Below A₀ base outer h₀) (F : Fr h₀ L s.heap m) (KX : (Mine.hd.heap_1 w.params).In h₀) (T : Top p loose mean mg mb h₀) (hf : env.frame = some L) (hke : env.scope.kind = .function)
include B F KX T hf hke
variable {fv fd ll x dx : Addr} {qs : List Pt} {n nl : Nat} {t u t1 t2 t3 t4 t5 t6 u1 u2 u3 u4 : Tok} {i M : Int} {o1 o2 : Obj} {ls : List Value}
theorem append_in {vs : List Value} {a : FS} {wd : Str} {ta tb : Tok}
   (N : News h₀ L s.heap ((fv, instObj 143 fd) :: (fd, fmtD w.params t1 t2 t3 t4 t5 t6 u1 u2 u3 u4 M ll x) :: (ll, lsO ls nl) :: (x, accO 227 dx vs.toArray n) :: (dx, accD w.params t a.i u) :: (189, o1) :: (196, o2) :: own))
   (hv : PtsIn own vs a.fs) (hls : TextsAre ls a.ts) (hok : PtOk a.fs) (hfs : a.fs.length < 900) (hwl : wd.length ≤ 1000) (hi : 0 ≤ a.i) (hi2 : a.i ≤ 1000)
   (hT : TabOk o1) (hT2 : TabOk o2) (G : AllBare s.gens) (hne : Dis [fv, fd, ll, x, dx, 189, 196]) (ho : OwnOff own [ll, x, dx, 189, 196])
   (hd : dd + 90 < recursionLimit) (hu : uu + 600 < cLine) (hll : ls.length ≤ 900)
   (h : AppQ w.params h₀ L m fv fd ll x dx t1 t2 t3 t4 t5 t6 u1 u2 u3 u4 t M own (a.step M wd) s (Q .none)) :
   wpAny (model rw_wn0107_02.row.toRowW.prog w) ⟨none, dd, some (env :: outer), gs, uu⟩ (call (.ref 140) [.ref fv, .str " " ta, .str wd tb]) Q E s := by
  obtain ⟨ts, fs, i⟩ := a
  dsimp only at N hv hls hok hfs hi hi2
  by_cases c1 : i + fwLen (fs ++ [bl wd]) ≤ M
  · have e : FS.step M ⟨ts, fs, i⟩ wd = ⟨ts, fs ++ [bl wd], i⟩ := by unfold FS.step; rw [if_pos c1]
    rw [e] at h
    exact append1_in B F KX T hf hke N hv hls hok hfs hwl hi hi2 c1 hT hT2 G hne ho hd hu hll h
  by_cases c2 : fs ≠ []
  · have e : FS.step M ⟨ts, fs, i⟩ wd = ⟨ts ++ [fwStr fs], [bl wd], 0⟩ := by unfold FS.step; rw [if_neg c1, if_pos c2]
    rw [e] at h
    exact append2_in B F KX T hf hke N hv hls hok hfs hwl hi hi2 (Int.not_le.mp c1) (by rw [hv.length]; exact List.length_pos_iff.mpr c2) hT hT2 G hne ho hd hu hll h
  obtain rfl : fs = [] := by simpa using c2
  obtain rfl : vs = [] := List.length_eq_zero_iff.mp (by rw [hv.length]; rfl)
  by_cases c3 : 0 < i
  · have e : FS.step M ⟨ts, [], i⟩ wd = ⟨ts ++ [Str.ofString ""], [bl wd], 0⟩ := by unfold FS.step; rw [if_neg c1, if_neg c2, if_pos c3]
    rw [e] at h
    exact append3_in B F KX T hf hke N hls hwl hi hi2 (Int.not_le.mp c1) c3 hT hT2 G hne ho hd hu hll h
  · obtain rfl : i = 0 := by omega
    have e : FS.step M ⟨ts, [], 0⟩ wd = ⟨ts, [bl wd], 0⟩ := by unfold FS.step; rw [if_neg c1, if_neg c2, if_neg c3]
    rw [e] at h
    exact append4_in B F KX T hf hke N hls hwl (Int.not_le.mp c1) hT hT2 G hne ho hd hu hll h
end
end
section
theorem off_RQq : True := by
  k_with_none
  trivial
open PySem PySem.W PyProof.Rows PySem.Calls
theorem PtsIn.unsnoc {news : List (Addr × Obj)} {vs : List Value} {fs : List (Str × Str)} {f w : Str} (h : PtsIn news vs (fs ++ [(f, w)])) :
    ∃ vs' tp tf tw, vs = vs' ++ [Value.ref tp] ∧ PtsIn news vs' fs ∧ (tp, tupL [.str f tf, .str w tw]) ∈ news := by
  obtain ⟨ps, rfl, e, h3⟩ := h
  have hne : ps ≠ [] := by rintro rfl; simp at e
  obtain ⟨qs, q, rfl⟩ : ∃ qs q, ps = qs ++ [q] := ⟨ps.dropLast, ps.getLast hne, (List.dropLast_concat_getLast hne).symm⟩
  rw [List.map_append, List.map_cons, List.map_nil] at e
  obtain ⟨e1, e2⟩ := List.append_inj' e rfl
  obtain ⟨a, f', tf, w', tw⟩ := q
  obtain ⟨rfl, rfl⟩ : f' = f ∧ w' = w := by simpa [Pt.fw] using e2
  refine ⟨ptV qs, a, tf, tw, by simp [ptV], ⟨qs, rfl, e1, fun p hp => h3 p ?_⟩, h3 _ ?_⟩
  · unfold ptN at *; rw [List.map_append]; exact List.mem_append_left _ hp
  · unfold ptN; rw [List.map_append]; exact List.mem_append_right _ (.head _)
section
variable {prog : Program} {w : World} {A : Around} {E : Value → Shared → Prop} {s : Shared} {x : Str} {t : Tok} {Q : Value → Shared → Prop} {h₀ : Heap} {L : Addr} {m : Str → Option Value} {news : List (Addr × Obj)}
theorem join_K {D : Addr} {vs : List Value} {ts : List Str} {n : Nat} (N : News h₀ L s.heap news) (hD : (D, lsO vs n) ∈ news) (ht : TextsAre vs ts) (hok : JoinOk x ts = true)
    (hq : ∀ t' k, Q (.str (Txt.join x ts) t') { s with toks := k }) : wpAny (model prog w) A (call (.builtin "str.join") [.str x t, .ref D]) Q E s := by
  obtain ⟨l, rfl, rfl⟩ := ht
  have hok' := hok
  unfold JoinOk at hok'
  rw [Bool.not_eq_true'] at hok'
  exact call_meets PySem.F.slot_str_join (typeIs_str _ _ _) PySem.F.entry_str_join (PySem.F.args_str_join_2 _ _) (meets_str_join_list x t D l hok') ⟨⟨_, (N _ hD).1, rfl, n, rfl⟩, post_join l ⟨joinFit_length hok', hq⟩⟩
end
theorem z227_init (P : Params) : findIn (Mine.hd.heap_1 P) (.ref 227) "__init__" = some (some (.ref 164)) := by kernel_rfl
theorem z164_fn (P : Params) : isFn (Mine.hd.heap_1 P) (.ref 164) = true := by kernel_rfl
theorem units_under_make (A : Around) (C : Addr) (vals : List Value) : (A.under (.builtin "type.__call__" ⟨.ref C :: vals, []⟩)).units = A.units + 1 := rfl
end
section
theorem off_CNq : True := by
  k_with_none
  trivial
open PySem PySem.W PyProof.Rows PySem.Calls
theorem on_CNq0 : True := by
 k_with_none
 k_with "li" => ((try simp only [List.length_nil, List.length_append, List.length_cons, ptV_length]); k_extra "om")
 k_with "ax" => first | assumption | exact ja0 ‹_› | exact ja1 ‹_› | exact je1 ‹_› | exact ja2 ‹_› | exact ja3 ‹_› | exact ja4 ‹_› | exact ja5 ‹_› | exact je5 ‹_› | exact ja6 ‹_› | exact ja7 ‹_› | exact je7 ‹_› | exact ja8 ‹_› | exact ja9 ‹_› | exact je13 ‹_› | exact je14 ‹_›
 k_with "nx" => with_reducible (first | (refine Nat.ne_of_lt ?_; (repeat (first | exact js | refine jl ?_)); all_goals k_extra "ax") | (refine Nat.ne_of_gt ?_; (repeat (first | exact js | refine jl ?_)); all_goals k_extra "ax") | k_extra "ax" | (refine Ne.symm ?_; k_extra "ax"))
 k_with "rm" => ((with_reducible first | exact room0 ‹_› | refine room1 ‹_› ?_ | refine room2 ‹_› ?_ | refine room3 ‹_› ?_ | refine room4 ‹_› ?_); all_goals exact rfl)
 k_with "om" => first | (with_reducible first | k_extra "ax" | exact jn ‹_› | exact jn (ja0 ‹_›) | (refine Nat.lt_trans ?_ ‹_›; k_extra "ax")) | decide | omega
 k_with "hk" => (with_reducible first | (refine hKq _ _ ?_; clear hKq; (try clear Kq)))
 k_with "q:execs cons" => (k_here; (with_reducible refine execs_consK ?_); intro Kq tkq hKq)
 k_with "q:k_ne" => (refine neN ?_; (try dsimp only); first | k_extra "nx" | omega)
 k_with "q:sub9" => row_timed "f" (fail; (repeat' (first | (refine fm (by k_mem) ?_) | exact List.forall_mem_nil _ | (intro pZ hpZ; (repeat (first | with_reducible_and_instances exact hpZ | with_reducible_and_instances exact List.mem_append_right _ hpZ | refine List.Mem.tail _ ?_)); done) | exact fun _ hpZ => hpZ | (intro pZ hpZ; (repeat (first | exact hpZ | exact List.mem_append_right _ hpZ | refine List.Mem.tail _ ?_))))))
 k_with "q:k_room" => row_timed "f" (fail; ((try simp only [depth_under_make, depth_under_kw, depth_in1, depth_deeper]); (try dsimp only); first | k_extra "rm" | omega))
 k_with "q:k_units" => row_timed "f" (fail; ((try simp only [Around.deeper_units, Around.in1_units, Around.mark_units]); (try dsimp only); first | k_extra "rm" | omega))
 k_with "q:k_mem" => row_timed "f" (fail; (with_reducible_and_instances (repeat (first | exact List.Mem.head _ | refine List.Mem.tail _ ?_)); done))
 k_with "q:k_inst" => row_timed "f" (fail; (refine' instAcc_news ?NZ ?h1Z ?h2Z; (case NZ => k_asm); (case h1Z | h2Z => k_mem)))
 k_with "q:k_ne" => (refine neN ?_; (try dsimp only); first | exact Ap.ne (by assumption) | exact Ne.symm (Ap.ne (by assumption)) | k_extra "nx" | omega)
 k_with "q:LenBack" => row_timed "f" (fail; ((dsimp only [W.LenBack]); refine ⟨⟨by k_extra "om", by k_extra "om"⟩, ?_⟩))
 k_with "q:NeBack" => row_timed "f" (fail; ((dsimp only [NeBack]); rw [ne_tt (by k_extra "om")]))
 k_with "q:StrBack" => row_timed "f" (fail; (dsimp only [W.StrBack]))
 k_with "q:call builtin:str.join" => row_timed "f" (fail; (k_here; k_dflt (refine' join_K ?NZ ?hDZ ?htZ ?hokZ ?_; (case NZ => k_asm); (case hDZ => k_mem); (case htZ => first | assumption | exact TextsAre.snoc (by assumption)); (case hokZ => assumption); k_whole); intro t'Z k'Z))
 k_with "q:call ref" => row_timed "f" (fail; (k_here; (with_reducible show wpAny _ _ (call (Value.ref 105) _) _ _ _); k_dflt (refine' newline1_in ?BZ ?FZ ?KXZ ?TZ ?hfZ ?hkeZ ?NZ ?hvZ ?htpZ ?hokZ ?hfsZ ?hwdZ ?hwoZ ?hwlZ ?hiZ ?hi2Z ?hnsZ ?hTZ ?hT2Z ?GZ ?hneZ ?hoZ ?hdZ ?huZ ?hllZ ?_; (case BZ | FZ => k_asm); (case KXZ | TZ => k_asm); (case hfZ | hkeZ => exact rfl); (case hneZ | hoZ => assumption); (case hvZ | htpZ => k_asm); (case NZ => exact subN (by k_asm) (by walk_at "sub9")); (case hokZ => k_asm); (case hfsZ => (k_extra "li")); (case hwdZ | hwoZ => k_asm); (case hwlZ | hiZ | hi2Z => (k_extra "li")); (case hnsZ | hTZ => k_asm); (case hT2Z | GZ => k_asm); (case hdZ => k_room); (case huZ => k_units); (case hllZ => (k_extra "li")); k_whole); intro h'Z tk'Z gs'Z o1'Z o2'Z n'Z nl'Z u'Z tv'Z F'Z G'Z hT'Z hT2'Z N'Z; (try dsimp only at N'Z); (try dsimp only); (try k_sweep)))
 trivial
section
variable {w : World} {A₀ : Around} {base h₀ : Heap} {env : Env} {outer : List Env} {dd uu : Nat} {gs : Option (List Code)} {L : Addr} {m mg mb : Str → Option Value} {s : Shared} {own : List (Addr × Obj)} {p : Program} {loose : List Str} {mean : ExcName → Option Value} {Q : Value → Shared → Prop} {E : Value → Shared → Prop}
  (B : Below A₀ base outer h₀) (F : Fr h₀ L s.heap m) (KX : (Mine.hd.heap_1 w.params).In h₀) (T : Top p loose mean mg mb h₀) (hf : env.frame = some L) (hke : env.scope.kind = .function)
include B F KX T hf hke
variable {fv fd ll x dx : Addr} {qs : List Pt} {n nl : Nat} {t u t1 t2 t3 t4 t5 t6 u1 u2 u3 u4 : Tok} {i M : Int} {o1 o2 : Obj} {ls : List Value}
theorem fstr_in {vs : List Value} {ts : List Str} {fs : List (Str × Str)} {wd sep : Str} {st : Tok}
   (N : News h₀ L s.heap ((fv, instObj 143 fd) :: (fd, fmtD w.params t1 t2 t3 t4 t5 t6 u1 u2 u3 u4 M ll x) :: (ll, lsO ls nl) :: (x, accO 227 dx vs.toArray n) :: (dx, accD w.params t i u) :: (189, o1) :: (196, o2) :: own))
   (hv : PtsIn own vs (fs ++ [bl wd])) (hls : TextsAre ls ts) (hok : PtOk fs) (hfs : fs.length < 900) (hwd : wd ≠ Str.ofString "") (hwo : PyData.strOk wd = true) (hwl : wd.length ≤ 1000) (hi : 0 ≤ i) (hi2 : i ≤ 1000) (hns : 0 < i ∨ Txt.isspace (fwStr (fs ++ [(Str.ofString " ", wd)])) = false)
   (hj : JoinOk sep (ts ++ [fwStr (fs ++ [(Str.ofString " ", wd)])]) = true)
   (hT : TabOk o1) (hT2 : TabOk o2) (G : AllBare s.gens) (hne : Dis [fv, fd, ll, x, dx, 189, 196]) (ho : OwnOff own [ll, x, dx, 189, 196])
   (hd : dd + 100 < recursionLimit) (hu : uu + 700 < cLine) (hll : ls.length ≤ 900)
   (h : ∀ h' tk gs o1 o2 tv, Fr h₀ L h' m → AllBare gs → TabOk o1 → TabOk o2 → News h₀ L h' ((189, o1) :: (196, o2) :: own) → Q (.str (Txt.join sep (ts ++ [fwStr (fs ++ [(Str.ofString " ", wd)])])) tv) { s with heap := h', toks := tk, gens := gs }) :
   wpAny (model rw_wn0107_02.row.toRowW.prog w) ⟨none, dd, some (env :: outer), gs, uu⟩ (call (.ref 91) [.ref fv, .str sep st]) Q E s := by
  obtain ⟨vs, tp, tf, tw, rfl, hv, htp⟩ := hv.unsnoc
  first | refine Dis.e7 hne ?_ | refine Dis.e3 hne ?_ | refine Dis.e5 hne ?_ | refine Dis.e4 hne ?_
  intros
  revert KX; k_fill; intro KX
  refine wpAny_call ?_
  refine' code_def ?k1 ?k2 ?k3 ?k4 ?k5 ?kA ?kF ?kK ?k6 ?k7 ?k8 ?k9 ?kB ?_ ?c2 ?c3 ?c4 ?c5
  case kA => exact rfl
  case kF => exact hf
  case kK => exact hke
  case k1 => k_asm
  case k2 => k_asm
  case k3 => k_asm
  case k4 => k_asm
  case k5 => k_asm
  case k6 => k_is
  case k7 => k_is
  case k8 => show dd < recursionLimit; first | exact room0 (by assumption) | k_extra "om"
  case k9 => first | exact BindsTo.of_eq rfl | exact binds_K (by k_in) rfl (by k_is) rfl rfl rfl
  case c5 => decide
  case kB => exact locs rfl
  case c2 => exact rfl
  case c3 => exact rfl
  case c4 => exact rfl
  k_whole; intro g' L' h' FG' F' N' B' X' T'; (try dsimp only); (try k_lift B'); (try k_fold); clear B F KX N T FG'
  k_steps
  show LeaveK _ _ _ _ _ _ _
  refine leaveK_ (by k_asm) (by k_asm) fun kF kN => ?_
  refine' h _ _ _ ?o1 ?o2 _ kF ?g ?t1 ?t2 (subN kN ?sub)
  case sub => walk_at "sub9"
  all_goals assumption
end
end
section
theorem off_CPq : True := by
  k_with_none
  trivial
open PySem PySem.W PyProof.Rows PySem.Calls
theorem on_CPq0 : True := by
 k_with_none
 k_with "ax" => first | assumption | exact ja0 ‹_› | exact ja1 ‹_› | exact je1 ‹_› | exact ja2 ‹_› | exact ja3 ‹_› | exact ja4 ‹_› | exact ja5 ‹_› | exact je5 ‹_› | exact ja6 ‹_› | exact ja7 ‹_› | exact je7 ‹_› | exact ja8 ‹_› | exact ja9 ‹_› | exact je13 ‹_› | exact je14 ‹_›
 k_with "nx" => with_reducible (first | (refine Nat.ne_of_lt ?_; (repeat (first | exact js | refine jl ?_)); all_goals k_extra "ax") | (refine Nat.ne_of_gt ?_; (repeat (first | exact js | refine jl ?_)); all_goals k_extra "ax") | k_extra "ax" | (refine Ne.symm ?_; k_extra "ax"))
 k_with "rm" => ((with_reducible first | exact room0 ‹_› | refine room1 ‹_› ?_ | refine room2 ‹_› ?_ | refine room3 ‹_› ?_ | refine room4 ‹_› ?_); all_goals exact rfl)
 k_with "om" => first | (with_reducible first | k_extra "ax" | exact jn ‹_› | exact jn (ja0 ‹_›) | (refine Nat.lt_trans ?_ ‹_›; k_extra "ax")) | decide | omega
 k_with "hk" => (with_reducible first | (refine hKq _ _ ?_; clear hKq; (try clear Kq)))
 k_with "q:k_ne" => (refine neN ?_; (try dsimp only); first | k_extra "nx" | omega)
 k_with "q:sub9" => row_timed "f" (fail; (repeat' (first | (refine fm (by k_mem) ?_) | exact List.forall_mem_nil _ | (intro pZ hpZ; (repeat (first | with_reducible_and_instances exact hpZ | with_reducible_and_instances exact List.mem_append_right _ hpZ | refine List.Mem.tail _ ?_)); done) | exact fun _ hpZ => hpZ | (intro pZ hpZ; (repeat (first | exact hpZ | exact List.mem_append_right _ hpZ | refine List.Mem.tail _ ?_))))))
 k_with "q:k_room" => row_timed "f" (fail; ((try simp only [depth_under_make, depth_under_kw, depth_in1, depth_deeper]); (try dsimp only); first | k_extra "rm" | omega))
 k_with "q:k_units" => row_timed "f" (fail; ((try simp only [Around.deeper_units, Around.in1_units, Around.mark_units]); (try dsimp only); first | k_extra "rm" | omega))
 k_with "q:k_mem" => row_timed "f" (fail; (with_reducible_and_instances (repeat (first | exact List.Mem.head _ | refine List.Mem.tail _ ?_)); done))
 k_with "q:wpAt" => row_timed "f" (fail; (k_dflt (refine ks_wpAt_MethodCall ?_)))
 k_with "q:wpAt" => row_timed "f" (fail; (with_reducible refine ks_wpAt_execs_cons ?_))
 k_with "q:getMethod ref" => row_timed "f" (fail; (k_here; k_dflt (refine' methodL_fn ?k1Z ?k2Z ?k3Z (z227_get _) ?k5Z ?k6Z ?k7Z ?_; (case k1Z | k2Z => k_asm); (case k3Z => refine' instAcc_news ?NZ ?h1Z ?h2Z; (case NZ => k_asm); (case h1Z | h2Z => k_mem)); (case k5Z | k6Z => k_is); (case k7Z => k_get); k_whole)))
 k_with "q:getAttr ref" => row_timed "f" (fail; (k_here; k_dflt (refine' getL_own ?k1Z ?k2Z ?k3Z (z227 _) (z227_get _) ?k4Z ?k5Z ?k6Z ?k7Z ?k8Z ?_; (case k1Z | k2Z => k_asm); (case k3Z => refine' instAcc_news ?NZ ?h1Z ?h2Z; (case NZ => k_asm); (case h1Z | h2Z => k_mem)); (case k4Z | k5Z | k6Z => k_is); (case k7Z => k_get); (case k8Z => k_handed); k_whole)))
 k_with "q:k_inst" => row_timed "f" (fail; (refine' instAcc_news ?NZ ?h1Z ?h2Z; (case NZ => k_asm); (case h1Z | h2Z => k_mem)))
 k_with "q:getMethod ref" => row_timed "f" (fail; (k_here; (with_reducible show wpAny _ _ (getMethod (Value.ref _) (Str.ofString "__init__") _) _ _ _); k_dflt (refine' super_init ?k1Z ?k2Z ?k3Z ?k4Z ?k5Z (z227 _) ?k6Z ?k7Z ?_; (case k1Z | k2Z | k3Z => k_asm); (case k4Z => k_mem); (case k5Z => k_inst); (case k6Z => k_is); (case k7Z => kernel_rfl); k_whole); intro q'Z h'Z F'Z N'Z l1Z; (try k_lt l1Z)))
 k_with "q:callWith ref" => row_timed "f" (fail; (k_here; k_dflt (first | (refine' callWith_B0 (.inr rfl) (BoundAt.of ?k1Z ?k2Z) ?_; (case k1Z => k_asm); (case k2Z => k_mem); k_whole) | (refine' callWith_B0 (.inl rfl) (BoundAt.of ?k1Z ?k2Z) ?_; (case k1Z => k_asm); (case k2Z => k_mem); k_whole)); (show wpAny _ _ (call (Value.ref _) []) _ _ _)))
 k_with "q:call ref" => row_timed "f" (fail; (k_here; (with_reducible show wpAny _ _ (call (Value.ref _) []) _ _ _); k_dflt (refine' acc_init_K ?k1Z ?k3Z ?k4Z ?k5Z ?zZ ?_; (case k1Z | k3Z => k_asm); (case k4Z => k_mem); (case k5Z => k_updF); (case zZ => (try simp only [List.size_toArray, List.length_nil]); k_extra "om"); k_whole); intro h'Z n'Z F'Z N'Z; (try dsimp only at N'Z); (try k_sweep)))
 k_with "q:setAttr ref" => row_timed "f" (fail; (k_here; k_dflt (refine' set_dictL ?k1Z ?k2Z ?k3Z ?k4Z ?k5Z ?k6Z (z227_over _) ?k8Z ?k9Z ?k10Z ?k11Z ?k12Z ?k13Z ?_; (case k1Z | k2Z | k3Z => k_asm); (case k4Z => k_inst); (case k5Z => exact rfl); (case k6Z | k8Z | k9Z => k_is); (case k10Z => k_get); (case k11Z => k_put); (case k12Z => k_upd); (case k13Z => exact Nat.le_of_ble_eq_true rfl); k_whole; intro h'Z F'Z N'Z; (try k_sweep))))
 k_with "q:k_ne" => (refine neN ?_; (try dsimp only); first | exact Ap.ne (by assumption) | exact Ne.symm (Ap.ne (by assumption)) | k_extra "nx" | omega)
 k_with "q:LenBack" => row_timed "f" (fail; ((dsimp only [W.LenBack]); refine ⟨⟨by k_extra "om", by k_extra "om"⟩, ?_⟩))
 k_with "q:NeBack" => row_timed "f" (fail; ((dsimp only [NeBack]); rw [ne_tt (by k_extra "om")]))
 k_with "q:StrBack" => row_timed "f" (fail; (dsimp only [W.StrBack]))
 k_with "q:wpAt" => row_timed "f" (fail; (k_dflt (refine ks_wpAt_Expr_any ?_)))
 trivial
section
variable {w : World} {A₀ : Around} {base h₀ : Heap} {env : Env} {outer : List Env} {dd uu : Nat} {gs : Option (List Code)} {L : Addr} {m mg mb : Str → Option Value} {s : Shared} {own : List (Addr × Obj)} {p : Program} {loose : List Str} {mean : ExcName → Option Value} {Q : Value → Shared → Prop} {E : Value → Shared → Prop}
  (B : Below A₀ base outer h₀) (F : Fr h₀ L s.heap m) (KX : (Mine.hd.heap_1 w.params).In h₀) (T : Top p loose mean mg mb h₀) (hf : env.frame = some L) (hke : env.scope.kind = .function)
include B F KX T hf hke
variable {t u : Tok} {i : Int}
theorem accinit_in {x dx : Addr} {R : Result → Shared → Prop} (N : News h₀ L s.heap ((x, accO 227 dx #[] 0) :: (dx, dictOf [] 0) :: own)) (hlt : @Ne Nat dx x) (ho : OwnOff own [x, dx])
   (hd : dd + 30 < recursionLimit) (hu : uu + 300 < cLine)
   (h : ∀ h' tk n' t', Fr h₀ L h' m → News h₀ L h' ((x, accO 227 dx #[] n') :: (dx, accD w.params t' i u) :: own) → R (.ok (.ret .none)) { s with heap := h', toks := tk }) :
   codeAny (model rw_wn0107_02.row.toRowW.prog w) ⟨none, dd, some (env :: outer), gs, uu⟩ (.call (.ref 164) ⟨[.ref x, .int i u], []⟩) R s := by
  revert KX; k_fill; intro KX
  refine' ks_code_super ?k1 ?k2 ?k3 ?k4 ?k5 ?kA ?kF ?kK ?k6 ?k7 ?k8 ?k9 ?kB ?_ ?c1 ?c2 ?c3 ?c4
  case kA => exact rfl
  case kF => exact hf
  case kK => exact hke
  case k1 => k_asm
  case k2 => k_asm
  case k3 => k_asm
  case k4 => k_asm
  case k5 => k_asm
  case k6 => k_is
  case k7 => k_is
  case k8 => show dd < recursionLimit; first | exact room0 (by assumption) | k_extra "om"
  case k9 => first | exact BindsTo.of_eq rfl | exact binds_K (by k_in) rfl (by k_is) rfl rfl rfl
  case kB => exact locs rfl
  case c1 => decide
  case c2 => exact rfl
  case c3 => exact rfl
  case c4 => exact rfl
  intro g' L' h' FG' F' N' B' X' T' l1; (try k_lt l1); (try dsimp only); (try k_lift B'); clear B F KX N T FG'
  k_steps
  refine leaveK_ (by k_asm) (by k_asm) fun kF kN => ?_
  exact h _ _ _ _ kF (subN kN (by walk_at "sub9"))
theorem accnew_K {news : List (Addr × Obj)} (N : News h₀ L s.heap news)
   (hd : dd + 40 < recursionLimit) (hu : uu + 400 < cLine)
   (h : ∀ h' tk x dx n' t', Fr h₀ L h' m → News h₀ L h' ((x, accO 227 dx #[] n') :: (dx, accD w.params t' i u) :: news) → (∀ p ∈ news, p.1 < dx) → (∀ p ∈ (dx, accD w.params t' i u) :: news, p.1 < x) → Q (.ref x) { s with heap := h', toks := tk }) :
   wpAny (model rw_wn0107_02.row.toRowW.prog w) ⟨none, dd, some (env :: outer), gs, uu⟩ (call (.ref 227) [.int i u]) Q E s := by
  refine make_L F KX N (z227_make _) (z227_init _) (z164_fn _) fun x dx h' F' N' l1 l2 => ?_
  refine accinit_in (own := news) B F' KX T hf hke N' (Nat.ne_of_lt l2) (fun p hp b hb => ?_) (by show dd + 1 + 30 < _; k_extra "om") ?_ fun h' tk n' t' F'' N'' => ⟨rfl, h h' tk x dx n' t' F'' N'' l1 (fm l2 (fun p hp => Nat.lt_trans (l1 p hp) l2))⟩
  · have lp := l1 p hp
    rcases List.mem_cons.mp hb with rfl | hb
    · exact Nat.ne_of_lt (Nat.lt_trans lp l2)
    · rw [List.mem_singleton] at hb; subst hb; exact Nat.ne_of_lt lp
  · first | (show uu + 1 + 300 < _; k_extra "om") | (show uu + 300 < _; k_extra "om") | (show uu + 2 + 300 < _; k_extra "om")
end
end
section
theorem off_RRq : True := by
  k_with_none
  trivial
open PySem PySem.W PyProof.Rows PySem.Calls
section
variable {prog : Program} {w : World} {A : Around} {E : Value → Shared → Prop} {s : Shared} {h₀ : Heap} {env : Env} {m0 : Str → Option Value} {news0 : List (Addr × Obj)} {wl : Addr} {wvs : List Value} {n : Nat} {x : Str} {px pos : Pos} {iter : PySem.Expr} {body : List Stmt} {Q : Flow → Shared → Prop}
noncomputable def TurnQ (h₀ : Heap) (L : Addr) (m : Str → Option Value) (wl : Addr) (wvs : List Value) (n : Nat) (I : Addr) (oI : Obj) (J : List (Addr × Obj) → Prop) (s : Shared) (f : Flow) (s₃ : Shared) : Prop :=
  f = .next ∧ ∃ h' tk' gs' news', s₃ = { s with heap := h', toks := tk', gens := gs' } ∧ Fr h₀ L h' m ∧ AllBare gs' ∧ News h₀ L h' news' ∧ (I, oI) ∈ news' ∧ (wl, lsO wvs n) ∈ news' ∧ J (news'.filter fun p => p.1 ≠ I)
theorem for_vals (J : Nat → List (Addr × Obj) → Prop) (hh : A.handled = none) (hx : env.kindOf x = some .local) (hp : (env.scope.kind == .class || (env.scope.kind == .module && env.locals != env.globals)) = false)
    (hE : PassesOwn (model prog w) A env E) (hs : ∀ x, foldedSetIterable iter env x = pure x)
    (F : Fr h₀ env.locals s.heap m0) (N : News h₀ env.locals s.heap news0) (hw : (wl, lsO wvs n) ∈ news0) (G : AllBare s.gens) (hJ : J 0 news0)
    (hev : ∀ {Q' : Value → Shared → Prop}, Q' (.ref wl) s → wpAny (model prog w) A (eval iter env) Q' E s)
    (turn : ∀ i v I oI h tk gs news, wvs[i]? = some v → J i news → (wl, lsO wvs n) ∈ news → (∀ p ∈ news, p.1 ≠ I) → oI.cls = .type "list_iterator" → AllBare gs → Fr h₀ env.locals h (fun y => if y = x then some v else m0 y) → News h₀ env.locals h ((I, oI) :: news) →
      wpAny (model prog w) A (execs body env) (TurnQ h₀ env.locals (fun y => if y = x then some v else m0 y) wl wvs n I oI (J (i + 1)) s) E { s with heap := h, toks := tk, gens := gs })
    (done : ∀ h tk gs news ov, J wvs.length news → (wl, lsO wvs n) ∈ news → AllBare gs → Fr h₀ env.locals h (fun y => if y = x then ov else m0 y) → News h₀ env.locals h news → Q .next { s with heap := h, toks := tk, gens := gs }) :
    wpAny (model prog w) A (exec (.For (.Name x px) iter body [] pos) env) Q E s := by
  have hl : s.heap.IsList wl wvs.toArray := ⟨_, (N _ hw).1, rfl, n, rfl⟩
  refine for_start (hev (wpAny_pyIter_list hl ?_)) hs
  obtain ⟨Fi, Ni, li⟩ := news_pushK (o := { cls := .type "list_iterator", data := .fields #[.ref wl, .int 0 0] }) F N
  let Inv : Nat → Shared → Prop := fun i s' => ∃ h tk gs news ov oI, s' = { s with heap := h, toks := tk, gens := gs } ∧ Fr h₀ env.locals h (fun y => if y = x then ov else m0 y) ∧ News h₀ env.locals h ((s.heap.objs.size, oI) :: news) ∧ AllBare gs ∧
    oI.cls = .type "list_iterator" ∧ oI.data = .fields #[.ref wl, .int i 0] ∧ (∀ p ∈ news, p.1 ≠ s.heap.objs.size) ∧ (wl, lsO wvs n) ∈ news ∧ J i news
  refine for_ind Inv wvs.length hE (fun _ => rfl) ?_ ?_ wvs.length 0 _ (Nat.zero_add _) ⟨_, s.toks, s.gens, news0, m0 x, _, rfl, ?_, Ni, G, rfl, rfl, fun p hp => Nat.ne_of_lt (li p hp), hw, hJ⟩
  · rintro i s' hi ⟨h, tk, gs, news, ov, oI, rfl, F₁, N₁, G₁, hc, hd, hoff, hw₁, hJ₁⟩
    have hv : wvs[i]? = some wvs[i] := List.getElem?_eq_getElem hi
    refine wpAny_pyNext_list_item (items := wvs.toArray) ⟨oI, (N₁ _ (.head _)).1, hc, hd⟩ ⟨_, (N₁ _ (.tail _ hw₁)).1, rfl, n, rfl⟩ (x := wvs[i]) (by simpa using hv) fun h' hit hsb => ?_
    obtain ⟨o', ho', hc', hd'⟩ := hit
    obtain ⟨F₂, N₂⟩ := upd_ext (s := { s with heap := h, toks := tk, gens := gs }) F₁ N₁ (UpdF.head hoff) hsb.extBut ho'
    refine ⟨_, rfl, wpAny_assign_Name (wpAny_storeName_local hx F₂.ns (fun h₂ hn₂ hs₂ => ?_) hp)⟩
    have F₃ := F₂.set hn₂ hs₂
    have e : (fun y => if y = x then some wvs[i] else if y = x then ov else m0 y) = fun y => if y = x then some wvs[i] else m0 y := by
      funext y; by_cases q : y = x <;> simp [q]
    have F₃' : Fr h₀ env.locals h₂ (fun y => if y = x then some wvs[i] else m0 y) := e ▸ F₃
    have N₃ := N₂.set hs₂
    refine wpAny_mono (turn i _ _ o' h₂ _ gs news hv hJ₁ hw₁ hoff hc' G₁ F₃' N₃) (fun f s₃ hq => ?_) fun _ _ z => z
    obtain ⟨rfl, h', tk', gs', news', rfl, F₄, G₄, N₄, hI₄, hw₄, hJ₄⟩ := hq
    refine ⟨rfl, h', tk', gs', _, some wvs[i], o', rfl, F₄, ?_, G₄, hc', hd', fun p hp => by simpa using (List.mem_filter.mp hp).2, List.mem_filter.mpr ⟨hw₄, by simpa using hoff _ hw₁⟩, hJ₄⟩
    exact fm (N₄ _ hI₄) (fun p hp => N₄ p (List.mem_filter.mp hp).1)
  · rintro s' ⟨h, tk, gs, news, ov, oI, rfl, F₁, N₁, G₁, hc, hd, hoff, hw₁, hJ₁⟩
    refine wpAny_pyNext_list_end (items := wvs.toArray) hh ⟨oI, (N₁ _ (.head _)).1, hc, hd⟩ ⟨_, (N₁ _ (.tail _ hw₁)).1, rfl, n, rfl⟩ (by simp) fun h' he => ⟨rfl, wpAny_execs_nil ?_⟩
    obtain ⟨F₂, N₂⟩ := drop_ext (s := { s with heap := h, toks := tk, gens := gs }) F₁ N₁ (.head _) he
    exact done h' tk gs news ov hJ₁ hw₁ G₁ F₂ (subN N₂ fun p hp => List.mem_filter.mpr ⟨.tail _ hp, by simpa using hoff p hp⟩)
  · have e : (fun y => if y = x then m0 x else m0 y) = m0 := by funext y; by_cases q : y = x <;> simp [q]
    rw [e]; exact Fi
theorem news_one {h : Heap} {L a : Addr} {news : List (Addr × Obj)} {o o' : Obj} (N : News h₀ L h news) (h1 : (a, o) ∈ news) (h2 : (a, o') ∈ news) : o = o' := Option.some.inj ((N _ h1).1.symm.trans (N _ h2).1)
theorem news_ap {h : Heap} {L a b : Addr} {news : List (Addr × Obj)} {o o' : Obj} (N : News h₀ L h news) (h1 : (a, o) ∈ news) (h2 : (b, o') ∈ news) (hc : o.cls ≠ o'.cls) : a ≠ b := fun q => by
  subst q; exact hc (congrArg Obj.cls (news_one N h1 h2))
end
end
section
theorem off_RSq : True := by
  k_with_none
  trivial
open PySem PySem.W PyProof.Rows PySem.Calls
structure FN where
  fv : Addr
  fd : Addr
  ll : Addr
  x : Addr
  dx : Addr
  t1 : Tok
  t2 : Tok
  t3 : Tok
  t4 : Tok
  t5 : Tok
  t6 : Tok
  u1 : Tok
  u2 : Tok
  u3 : Tok
  u4 : Tok
  t : Tok
noncomputable abbrev FN.dict (P : Params) (M : Int) (f : FN) : Obj := fmtD P f.t1 f.t2 f.t3 f.t4 f.t5 f.t6 f.u1 f.u2 f.u3 f.u4 M f.ll f.x
noncomputable abbrev FN.adr (f : FN) : List Addr := [f.ll, f.x, f.dx, 189, 196]
noncomputable def FmtIn (P : Params) (M : Int) (f : FN) (news : List (Addr × Obj)) (a : FS) : Prop :=
  ∃ o1 o2 n' nl' u' ls' vs', (f.fv, instObj 143 f.fd) ∈ news ∧ (f.fd, f.dict P M) ∈ news ∧ (f.ll, lsO ls' nl') ∈ news ∧ (f.x, accO 227 f.dx vs'.toArray n') ∈ news ∧ (f.dx, accD P f.t a.i u') ∈ news ∧
    (189, o1) ∈ news ∧ (196, o2) ∈ news ∧ TabOk o1 ∧ TabOk o2 ∧ TextsAre ls' a.ts ∧ PtsIn news vs' a.fs
theorem PtsIn.only {h : Heap} {L a : Addr} {news : List (Addr × Obj)} {vs : List Value} {fs : List (Str × Str)} {P : Addr × Obj → Bool} (h : PtsIn news vs fs) (hP : ∀ a ws, (a, tupL ws) ∈ news → P (a, tupL ws) = true) : PtsIn (news.filter P) vs fs := by
  obtain ⟨ps, h1, h2, h3⟩ := h
  refine ⟨ps, h1, h2, fun q hq => List.mem_filter.mpr ⟨h3 q hq, ?_⟩⟩
  have hm := h3 q hq
  obtain ⟨p, _, rfl⟩ := List.mem_map.mp hq
  exact hP _ _ hm
theorem cls_ne {s t : String} (h : s ≠ t) : Value.type s ≠ Value.type t := fun e => h (by injection e)
section
variable {P : Params} {M : Int} {f : FN} {news : List (Addr × Obj)} {a : FS} {h₀ h : Heap} {L I : Addr} {oI : Obj}
theorem TabOk.cls {o : Obj} (h : TabOk o) : o.cls = .none := by obtain ⟨ps, rfl, _⟩ := h; rfl
theorem FmtIn.apart {hh : Heap} (H : FmtIn P M f news a) (N : News h₀ L hh news) : Dis [f.fv, f.fd, f.ll, f.x, f.dx, 189, 196] := by
  obtain ⟨o1, o2, n', nl', u', ls', vs', h1, h2, h3, h4, h5, h6, h7, c1, c2, _, _⟩ := H
  have k1 := c1.cls
  have k2 := c2.cls
  have q : ∀ {a b : Addr} {o o' : Obj}, (a, o) ∈ news → (b, o') ∈ news → o.cls ≠ o'.cls → Ap a b := fun x y z => ⟨news_ap N x y z⟩
  have cdl := cls_ne (show ("dict" : String) ≠ "list" by decide)
  refine ⟨⟨⟨q h1 h2 (fun e => by cases e), q h1 h3 (fun e => by cases e), q h1 h4 (fun e => by injection e with e; exact absurd e (by decide)), q h1 h5 (fun e => by cases e), q h1 h6 (fun e => by rw [k1] at e; cases e), q h1 h7 (fun e => by rw [k2] at e; cases e), trivial⟩,
    ⟨q h2 h3 cdl, q h2 h4 (fun e => by cases e), ⟨fun e => ?_⟩, q h2 h6 (fun e => by rw [k1] at e; cases e), q h2 h7 (fun e => by rw [k2] at e; cases e), trivial⟩,
    ⟨q h3 h4 (fun e => by cases e), q h3 h5 (Ne.symm cdl), q h3 h6 (fun e => by rw [k1] at e; cases e), q h3 h7 (fun e => by rw [k2] at e; cases e), trivial⟩,
    ⟨q h4 h5 (fun e => by cases e), q h4 h6 (fun e => by rw [k1] at e; cases e), q h4 h7 (fun e => by rw [k2] at e; cases e), trivial⟩,
    ⟨q h5 h6 (fun e => by rw [k1] at e; cases e), q h5 h7 (fun e => by rw [k2] at e; cases e), trivial⟩, ⟨⟨by decide⟩, trivial⟩, trivial, trivial⟩⟩
  have e2 : (f.fd, accD P f.t a.i u') ∈ news := by
    have : f.fd = f.dx := e
    rw [this]; exact h5
  have e3 := news_one N h2 e2
  have e4 := congrArg Obj.data e3
  simp only [dictOf] at e4
  injection e4 with e5 e6
  exact absurd e6 (by decide)
theorem FmtIn.drop {hh : Heap} (H : FmtIn P M f news a) (N : News h₀ L hh news) (hI : (I, oI) ∈ news) (hc : oI.cls = .type "list_iterator") : FmtIn P M f (news.filter fun p => p.1 ≠ I) a := by
  obtain ⟨o1, o2, n', nl', u', ls', vs', h1, h2, h3, h4, h5, h6, h7, c1, c2, ht, hp⟩ := H
  have k : ∀ {a : Addr} {o : Obj}, (a, o) ∈ news → o.cls ≠ .type "list_iterator" → (a, o) ∈ news.filter fun p => p.1 ≠ I := fun x y =>
    List.mem_filter.mpr ⟨x, by simpa using news_ap N x hI (by rw [hc]; exact y)⟩
  refine ⟨o1, o2, n', nl', u', ls', vs', k h1 (fun e => by cases e), k h2 (cls_ne (by decide)), k h3 (cls_ne (by decide)), k h4 (fun e => by cases e), k h5 (cls_ne (by decide)), k h6 (fun e => by rw [c1.cls] at e; cases e), k h7 (fun e => by rw [c2.cls] at e; cases e), c1, c2, ht, ?_⟩
  exact PtsIn.only (h := hh) (L := L) (a := I) hp fun b ws hb => by simpa using news_ap N hb hI (by rw [hc]; exact cls_ne (by decide))
end
section
variable {w : World} {A₀ : Around} {base h₀ : Heap} {env : Env} {outer : List Env} {dd uu : Nat} {gs : Option (List Code)} {L : Addr} {m mg mb : Str → Option Value} {s : Shared} {own : List (Addr × Obj)} {p : Program} {loose : List Str} {mean : ExcName → Option Value} {Q : Value → Shared → Prop} {E : Value → Shared → Prop}
  (B : Below A₀ base outer h₀) (F : Fr h₀ L s.heap m) (KX : (Mine.hd.heap_1 w.params).In h₀) (T : Top p loose mean mg mb h₀) (hf : env.frame = some L) (hke : env.scope.kind = .function)
include B F KX T hf hke
variable {f : FN} {M : Int} {a : FS} {news : List (Addr × Obj)}
theorem append_J {wd : Str} {ta tb : Tok} (N : News h₀ L s.heap news) (G : AllBare s.gens) (H : FmtIn w.params M f news a) (hok : PtOk a.fs) (hfs : a.fs.length < 900) (hts : a.ts.length ≤ 900) (hwl : wd.length ≤ 1000) (hi : 0 ≤ a.i) (hi2 : a.i ≤ 1000)
   (hd : dd + 90 < recursionLimit) (hu : uu + 600 < cLine)
   (h : ∀ h' tk gs news', Fr h₀ L h' m → AllBare gs → News h₀ L h' news' → FmtIn w.params M f news' (a.step M wd) → (∀ p ∈ news, p.1 ∉ f.adr → p ∈ news') → Q .none { s with heap := h', toks := tk, gens := gs }) :
   wpAny (model rw_wn0107_02.row.toRowW.prog w) ⟨none, dd, some (env :: outer), gs, uu⟩ (call (.ref 140) [.ref f.fv, .str " " ta, .str wd tb]) Q E s := by
  have hne := H.apart N
  obtain ⟨o1, o2, n', nl', u', ls', vs', h1, h2, h3, h4, h5, h6, h7, c1, c2, ht, hp⟩ := H
  have N' : News h₀ L s.heap ((f.fv, instObj 143 f.fd) :: (f.fd, f.dict w.params M) :: (f.ll, lsO ls' nl') :: (f.x, accO 227 f.dx vs'.toArray n') :: (f.dx, accD w.params f.t a.i u') :: (189, o1) :: (196, o2) :: news.filter fun p => p.1 ∉ f.adr) := by
    refine subN N ?_
    intro p hp
    rcases List.mem_cons.mp hp with rfl | hp
    · exact h1
    rcases List.mem_cons.mp hp with rfl | hp
    · exact h2
    rcases List.mem_cons.mp hp with rfl | hp
    · exact h3
    rcases List.mem_cons.mp hp with rfl | hp
    · exact h4
    rcases List.mem_cons.mp hp with rfl | hp
    · exact h5
    rcases List.mem_cons.mp hp with rfl | hp
    · exact h6
    rcases List.mem_cons.mp hp with rfl | hp
    · exact h7
    exact (List.mem_filter.mp hp).1
  have hv : PtsIn (news.filter fun p => p.1 ∉ f.adr) vs' a.fs := by
    refine PtsIn.only (h := s.heap) (L := L) (a := L) hp fun b ws hb => ?_
    have q : ∀ {c : Addr} {o : Obj}, (c, o) ∈ news → o.cls ≠ .type "tuple" → b ≠ c := fun x y => news_ap N hb x (Ne.symm y)
    have q1 := q h3 (cls_ne (by decide))
    have q2 := q h4 (fun e => by cases e)
    have q3 := q h5 (cls_ne (by decide))
    have q4 := q h6 (fun e => by rw [c1.cls] at e; cases e)
    have q5 := q h7 (fun e => by rw [c2.cls] at e; cases e)
    simp [FN.adr, q1, q2, q3, q4, q5]
  refine append_in B F KX T hf hke N' hv ht hok hfs hwl hi hi2 c1 c2 G hne (fun p hp b hb e => ?_) hd hu (by rw [ht.length]; exact hts) ?_
  · have := (List.mem_filter.mp hp).2
    simp only [decide_eq_true_eq] at this
    exact this (e ▸ hb)
  · intro h' tk gs o1' o2' n2 nl2 u2 ls2 vs2 own2 F2 G2 T1 T2 N2 sub2 off2 ht2 hp2
    refine h h' tk gs _ F2 G2 N2 ⟨o1', o2', n2, nl2, u2, ls2, vs2, .head _, .tail _ (.head _), .tail _ (.tail _ (.head _)), .tail _ (.tail _ (.tail _ (.head _))), .tail _ (.tail _ (.tail _ (.tail _ (.head _)))), .tail _ (.tail _ (.tail _ (.tail _ (.tail _ (.head _))))), .tail _ (.tail _ (.tail _ (.tail _ (.tail _ (.tail _ (.head _)))))), T1, T2, ht2, hp2.mono fun q hq => .tail _ (.tail _ (.tail _ (.tail _ (.tail _ (.tail _ (.tail _ hq))))))⟩ fun p hp hn => ?_
    exact .tail _ (.tail _ (.tail _ (.tail _ (.tail _ (.tail _ (.tail _ (sub2 p (List.mem_filter.mpr ⟨hp, by simpa using hn⟩))))))))
end
end
section
theorem off_RTq : True := by
  k_with_none
  trivial
open PySem PySem.W PyProof.Rows PySem.Calls
noncomputable def FS.run (M : Int) (a : FS) (ws : List Str) : FS := ws.foldl (FS.step M) a
theorem run_snoc (M : Int) (a : FS) (ws : List Str) (w : Str) : FS.run M a (ws ++ [w]) = (FS.run M a ws).step M w := by unfold FS.run; rw [List.foldl_append]; rfl
theorem bl_len : (Str.ofString " ").length = 1 := by decide
structure FSInv (k : Nat) (a : FS) : Prop where
  fs : a.fs.length ≤ k
  ts : a.ts.length ≤ k
  word : ∀ q ∈ a.fs, q.1.length ≤ 1 ∧ q.2.length ≤ 30
  lo : 0 ≤ a.i
  hi : a.i ≤ 1000
  row : ∀ t ∈ a.ts, t.length ≤ 31 * k
theorem glued_le (ts : List Str) : (Txt.join "" ts).length ≤ (ts.map (·.length)).sum := by
  show (Builtin.Str.glued _ _).length ≤ _
  rw [StrLaws.glued_eq_join]
  have h1 := StrLaws.join_length_le "" ts
  have h2 : (("" : Str)).length = 0 := by decide
  rw [h2] at h1
  omega
theorem fwStr_le {fs : List (Str × Str)} (h : ∀ q ∈ fs, q.1.length ≤ 1 ∧ q.2.length ≤ 30) : (fwStr fs).length ≤ 31 * fs.length := by
  unfold fwStr
  refine Nat.le_trans (glued_le _) ?_
  rw [List.map_map]
  induction fs with
  | nil => exact Nat.le_refl _
  | cons q r ih =>
    have h1 := ih fun t ht => h t (.tail _ ht)
    have h2 := h q (.head _)
    have h3 := glued_le [q.1, q.2]
    simp only [List.map_cons, List.map_nil, List.sum_cons, List.sum_nil] at h3
    rw [List.map_cons, List.sum_cons, List.length_cons]
    show (Txt.join "" [q.1, q.2]).length + _ ≤ _
    omega
theorem step_inv {k : Nat} {a : FS} {M : Int} {w : Str} (h : FSInv k a) (hw : w.length ≤ 30) : FSInv (k + 1) (a.step M w) := by
  obtain ⟨ts, fs, i⟩ := a
  obtain ⟨h1, h2, h3, h4, h5, h6⟩ := h
  dsimp only at h1 h2 h3 h4 h5 h6
  have hb : ∀ q ∈ [bl w], q.1.length ≤ 1 ∧ q.2.length ≤ 30 := fun q hq => by
    rw [List.mem_singleton] at hq; subst hq; exact ⟨Nat.le_of_eq bl_len, hw⟩
  have hrow : ∀ t ∈ ts, t.length ≤ 31 * (k + 1) := fun t ht => Nat.le_trans (h6 t ht) (by omega)
  unfold FS.step
  dsimp only
  split
  · refine ⟨by simp; omega, Nat.le_succ_of_le h2, fun q hq => ?_, h4, h5, hrow⟩
    rcases List.mem_append.mp hq with hq | hq
    · exact h3 q hq
    · exact hb q hq
  split
  · refine ⟨by simp, by simp; omega, hb, Int.le_refl _, (show (0 : Int) ≤ 1000 by decide), fun t ht => ?_⟩
    rcases List.mem_append.mp ht with ht | ht
    · exact hrow t ht
    · rw [List.mem_singleton] at ht; subst ht
      have := fwStr_le h3
      have : 31 * fs.length ≤ 31 * k := Nat.mul_le_mul_left _ h1
      omega
  split
  · refine ⟨by simp, by simp; omega, hb, Int.le_refl _, (show (0 : Int) ≤ 1000 by decide), fun t ht => ?_⟩
    rcases List.mem_append.mp ht with ht | ht
    · exact hrow t ht
    · rw [List.mem_singleton] at ht; subst ht
      rw [show (Str.ofString "").length = 0 by decide]; omega
  · exact ⟨by simp, Nat.le_succ_of_le h2, hb, Int.le_refl _, (show (0 : Int) ≤ 1000 by decide), hrow⟩
theorem run_inv' {M : Int} : ∀ (ws : List Str) (k : Nat) (a : FS), FSInv k a → (∀ w ∈ ws, w.length ≤ 30) → FSInv (k + ws.length) (FS.run M a ws)
  | [], _, _, h, _ => h
  | w :: r, k, a, h, hw => by
    have := run_inv' (M := M) r (k + 1) (a.step M w) (step_inv h (hw w (.head _))) fun t ht => hw t (.tail _ ht)
    rw [List.length_cons, Nat.add_comm r.length 1, ← Nat.add_assoc]
    exact this
theorem run_inv {M H : Int} (h0 : 0 ≤ H) (h1 : H ≤ 1000) (ws : List Str) (hw : ∀ w ∈ ws, w.length ≤ 30) : FSInv ws.length (FS.run M ⟨[], [], H⟩ ws) := by
  have := run_inv' (M := M) ws 0 ⟨[], [], H⟩ ⟨Nat.le_refl _, Nat.le_refl _, fun _ h => (nomatch h), h0, h1, fun _ h => (nomatch h)⟩ hw
  rwa [Nat.zero_add] at this
theorem FSInv.ok {k : Nat} {a : FS} (h : FSInv k a) (hk : k ≤ 900) : PtOk a.fs := ⟨Nat.le_trans h.fs hk, fun q hq => ⟨Nat.le_trans (h.word q hq).1 (by decide), Nat.le_trans (h.word q hq).2 (by decide)⟩⟩
theorem step_last (M : Int) (a : FS) (w : Str) : ∃ fs, (a.step M w).fs = fs ++ [bl w] := by
  unfold FS.step
  split
  · exact ⟨_, rfl⟩
  split
  · exact ⟨[], rfl⟩
  split
  · exact ⟨[], rfl⟩
  · exact ⟨[], rfl⟩
section
variable {w : World} {A₀ : Around} {base h₀ : Heap} {env : Env} {outer : List Env} {dd uu : Nat} {gs : Option (List Code)} {L : Addr} {m mg mb : Str → Option Value} {s : Shared} {own : List (Addr × Obj)} {p : Program} {loose : List Str} {mean : ExcName → Option Value} {Q : Value → Shared → Prop} {E : Value → Shared → Prop}
  (B : Below A₀ base outer h₀) (F : Fr h₀ L s.heap m) (KX : (Mine.hd.heap_1 w.params).In h₀) (T : Top p loose mean mg mb h₀) (hf : env.frame = some L) (hke : env.scope.kind = .function)
include B F KX T hf hke
variable {f : FN} {M : Int} {a : FS} {news : List (Addr × Obj)}
theorem fstr_J {fs : List (Str × Str)} {wd sep : Str} {st : Tok} (N : News h₀ L s.heap news) (G : AllBare s.gens) (H : FmtIn w.params M f news a) (ha : a.fs = fs ++ [bl wd]) {k : Nat} (hk : FSInv k a) (hk2 : k ≤ 100) (hwd : wd ≠ Str.ofString "") (hwo : PyData.strOk wd = true) (hns : Txt.isspace (fwStr (fs ++ [bl wd])) = false) (hsep : sep.length ≤ 1)
   (hd : dd + 100 < recursionLimit) (hu : uu + 700 < cLine)
   {keep : List (Addr × Obj)} (hkeep : ∀ p ∈ keep, p ∈ news ∧ p.1 ∉ f.adr)
   (h : ∀ h' tk gs o1 o2 tv, Fr h₀ L h' m → AllBare gs → TabOk o1 → TabOk o2 → News h₀ L h' ((189, o1) :: (196, o2) :: keep) → Q (.str (Txt.join sep (a.ts ++ [fwStr a.fs])) tv) { s with heap := h', toks := tk, gens := gs }) :
   wpAny (model rw_wn0107_02.row.toRowW.prog w) ⟨none, dd, some (env :: outer), gs, uu⟩ (call (.ref 91) [.ref f.fv, .str sep st]) Q E s := by
  have hne := H.apart N
  obtain ⟨o1, o2, n', nl', u', ls', vs', h1, h2, h3, h4, h5, h6, h7, c1, c2, ht, hp⟩ := H
  have N' : News h₀ L s.heap ((f.fv, instObj 143 f.fd) :: (f.fd, f.dict w.params M) :: (f.ll, lsO ls' nl') :: (f.x, accO 227 f.dx vs'.toArray n') :: (f.dx, accD w.params f.t a.i u') :: (189, o1) :: (196, o2) :: news.filter fun p => p.1 ∉ f.adr) := by
    refine subN N ?_
    intro p hp
    rcases List.mem_cons.mp hp with rfl | hp
    · exact h1
    rcases List.mem_cons.mp hp with rfl | hp
    · exact h2
    rcases List.mem_cons.mp hp with rfl | hp
    · exact h3
    rcases List.mem_cons.mp hp with rfl | hp
    · exact h4
    rcases List.mem_cons.mp hp with rfl | hp
    · exact h5
    rcases List.mem_cons.mp hp with rfl | hp
    · exact h6
    rcases List.mem_cons.mp hp with rfl | hp
    · exact h7
    exact (List.mem_filter.mp hp).1
  have hv : PtsIn (news.filter fun p => p.1 ∉ f.adr) vs' a.fs := by
    refine PtsIn.only (h := s.heap) (L := L) (a := L) hp fun b ws hb => ?_
    have q : ∀ {c : Addr} {o : Obj}, (c, o) ∈ news → o.cls ≠ .type "tuple" → b ≠ c := fun x y => news_ap N hb x (Ne.symm y)
    have q1 := q h3 (cls_ne (by decide))
    have q2 := q h4 (fun e => by cases e)
    have q3 := q h5 (cls_ne (by decide))
    have q4 := q h6 (fun e => by rw [c1.cls] at e; cases e)
    have q5 := q h7 (fun e => by rw [c2.cls] at e; cases e)
    simp [FN.adr, q1, q2, q3, q4, q5]
  rw [ha] at hv
  have hfs : fs.length + 1 ≤ k := by have := hk.fs; rw [ha] at this; simpa using this
  have hok : PtOk fs := ⟨by omega, fun q hq => ⟨Nat.le_trans (hk.word q (by rw [ha]; exact List.mem_append_left _ hq)).1 (by decide), Nat.le_trans (hk.word q (by rw [ha]; exact List.mem_append_left _ hq)).2 (by decide)⟩⟩
  have hwl := (hk.word (bl wd) (by rw [ha]; exact List.mem_append_right _ (.head _))).2
  refine fstr_in B F KX T hf hke N' hv ht hok (by omega) hwd hwo (Nat.le_trans hwl (by decide)) hk.lo hk.hi (.inr hns) ?_ c1 c2 G hne (fun p hp b hb e => ?_) hd hu (by rw [ht.length]; exact Nat.le_trans hk.ts (by omega)) ?_
  · refine joinOk_of 4000 (by omega) (by have := hk.ts; simp; omega) fun t ht => ?_
    rcases List.mem_append.mp ht with ht | ht
    · have := hk.row t ht; omega
    · rw [List.mem_singleton] at ht; subst ht
      have h8 := fwStr_le hk.word
      have h9 := hk.fs
      rw [ha] at h8 h9
      have h8' : (fwStr (fs ++ [(Str.ofString " ", wd)])).length ≤ 31 * (fs ++ [bl wd]).length := h8
      omega
  · have := (List.mem_filter.mp hp).2
    simp only [decide_eq_true_eq] at this
    exact this (e ▸ hb)
  · intro h' tk gs o1' o2' tv F2 G2 T1 T2 N2
    have := h h' tk gs o1' o2' tv F2 G2 T1 T2 (subN N2 (fm (.head _) (fm (.tail _ (.head _)) (fun p hp => .tail _ (.tail _ (List.mem_filter.mpr ⟨(hkeep p hp).1, by simpa using (hkeep p hp).2⟩))))))
    rw [ha] at this
    exact this
end
noncomputable def rowsOf (W H : Int) (ws : List Str) : List Str := (FS.run W ⟨[], [], H⟩ ws).ts ++ [fwStr (FS.run W ⟨[], [], H⟩ ws).fs]
theorem PtsIn.sub {a b : List (Addr × Obj)} {vs : List Value} {fs : List (Str × Str)} (h : PtsIn a vs fs) (hs : ∀ q ∈ a, q ∈ b) : PtsIn b vs fs := h.mono hs
theorem FmtIn.mono {P : Params} {M : Int} {f : FN} {a b : List (Addr × Obj)} {z : FS} (h : FmtIn P M f a z) (hs : ∀ q ∈ a, q ∈ b) : FmtIn P M f b z := by
  obtain ⟨o1, o2, n', nl', u', ls', vs', h1, h2, h3, h4, h5, h6, h7, c1, c2, ht, hp⟩ := h
  exact ⟨o1, o2, n', nl', u', ls', vs', hs _ h1, hs _ h2, hs _ h3, hs _ h4, hs _ h5, hs _ h6, hs _ h7, c1, c2, ht, hp.mono hs⟩
theorem fmt_get {P : Params} {h₀ h : Heap} {L x' dx' l' fv fd wl : Addr} {t1 t2 t3 t4 t5 t6 u1 u2 u3 u4 t' u : Tok} {M H : Int} {n' nl n : Nat} {wvs : List Value} {o1 o2 : Obj} {own : List (Addr × Obj)}
    (N : News h₀ L h ((x', accO 227 dx' #[] n') :: (dx', accD P t' H u) :: (l', lsO [] nl) :: (fv, instObj 143 fd) :: (fd, fmtD P t1 t2 t3 t4 t5 t6 u1 u2 u3 u4 M l' x') :: (wl, lsO wvs n) :: (189, o1) :: (196, o2) :: own)) (T1 : TabOk o1) (T2 : TabOk o2)
    (a1 : ∀ p ∈ (wl, lsO wvs n) :: own, p.1 ≠ l') (a2 : ∀ p ∈ (wl, lsO wvs n) :: own, p.1 ≠ x') (a3 : ∀ p ∈ (wl, lsO wvs n) :: own, p.1 ≠ dx') (a4 : ∀ p ∈ (wl, lsO wvs n) :: own, p.1 ≠ 189) (a5 : ∀ p ∈ (wl, lsO wvs n) :: own, p.1 ≠ 196) :
    ∃ f : FN, f.fv = fv ∧ FmtIn P M f ((x', accO 227 dx' #[] n') :: (dx', accD P t' H u) :: (l', lsO [] nl) :: (fv, instObj 143 fd) :: (fd, fmtD P t1 t2 t3 t4 t5 t6 u1 u2 u3 u4 M l' x') :: (wl, lsO wvs n) :: (189, o1) :: (196, o2) :: own) ⟨[], [], H⟩ ∧
      ∀ p ∈ (wl, lsO wvs n) :: own, p.1 ∉ f.adr := by
  refine ⟨⟨fv, fd, l', x', dx', t1, t2, t3, t4, t5, t6, u1, u2, u3, u4, t'⟩, rfl, ⟨o1, o2, n', nl, u, [], [], .tail _ (.tail _ (.tail _ (.head _))), .tail _ (.tail _ (.tail _ (.tail _ (.head _)))), .tail _ (.tail _ (.head _)), .head _, .tail _ (.head _), .tail _ (.tail _ (.tail _ (.tail _ (.tail _ (.tail _ (.head _)))))), .tail _ (.tail _ (.tail _ (.tail _ (.tail _ (.tail _ (.tail _ (.head _)))))))
    , T1, T2, TextsAre.nil, PtsIn.nil⟩, fun p hp hm => ?_⟩
  simp only [List.mem_cons, List.not_mem_nil, or_false] at hm
  rcases hm with e | e | e | e | e
  · exact a1 p hp e
  · exact a2 p hp e
  · exact a3 p hp e
  · exact a4 p hp e
  · exact a5 p hp e
theorem texts_get {vs : List Value} {ts : List Str} {i : Nat} {v : Value} (h : TextsAre vs ts) (hv : vs[i]? = some v) : ∃ a t, v = .str a t ∧ ts[i]? = some a := by
  obtain ⟨l, rfl, rfl⟩ := h
  unfold strValues at hv
  rw [List.getElem?_map] at hv
  obtain ⟨p, e1, rfl⟩ := Option.map_eq_some_iff.mp hv
  exact ⟨p.1, p.2, rfl, by rw [List.getElem?_map, e1]; rfl⟩
theorem take_succ' {ts : List Str} {i : Nat} {a : Str} (h : ts[i]? = some a) : ts.take (i + 1) = ts.take i ++ [a] := by rw [List.take_add_one, h]; rfl
theorem turnQ_end {P : Params} {M : Int} {f : FN} {h₀ h' : Heap} {L wl I : Addr} {m : Str → Option Value} {gs' : Array GenState} {tk' : Tok} {news news' keep pre : List (Addr × Obj)} {a b b' : FS} {oI : Obj} {wvs : List Value} {n : Nat} {s : Shared}
    (F' : Fr h₀ L h' m) (G' : AllBare gs') (N' : News h₀ L h' news') (H' : FmtIn P M f news' b) (hJ : FmtIn P M f news a) (hI : ∀ p ∈ news, p.1 ≠ I) (hc : oI.cls = .type "list_iterator") (hkeep : ∀ p ∈ keep, p ∈ news) (hoff : ∀ p ∈ keep, p.1 ∉ f.adr) (hwk : (wl, lsO wvs n) ∈ keep) (e : b = b')
    (K' : ∀ p ∈ (I, oI) :: pre ++ news, p.1 ∉ f.adr → p ∈ news') :
    TurnQ h₀ L m wl wvs n I oI (fun news => FmtIn P M f news b' ∧ ∀ p ∈ keep, p ∈ news) s .next { s with heap := h', toks := tk', gens := gs' } := by
  subst e
  have hIadr : I ∉ f.adr := by
    obtain ⟨o1, o2, n', nl', u', ls', vs', h1, h2, h3, h4, h5, h6, h7, _⟩ := hJ
    intro hm
    simp only [List.mem_cons, List.not_mem_nil, or_false] at hm
    rcases hm with e | e | e | e | e
    · exact hI _ h3 e.symm
    · exact hI _ h4 e.symm
    · exact hI _ h5 e.symm
    · exact hI _ h6 e.symm
    · exact hI _ h7 e.symm
  have hIn := K' (I, oI) (.head _) hIadr
  have kk : ∀ p ∈ keep, p ∈ news' := fun p hp => K' p (List.mem_append_right ((I, oI) :: pre) (hkeep p hp)) (hoff p hp)
  exact ⟨rfl, h', tk', gs', news', rfl, F', G', N', hIn, kk _ hwk, H'.drop N' hIn hc, fun p hp => List.mem_filter.mpr ⟨kk p hp, by simpa using hI p (hkeep p hp)⟩⟩
section
variable {prog : Program} {w : World} {A : Around} {E : Value → Shared → Prop} {s : Shared} {h₀ : Heap} {L : Addr} {m : PySem.Str → Option Value} {news : List (Addr × Obj)} {x y : PySem.Str} {t u : Tok} {Q : Value → Shared → Prop}
theorem split_T {ts : List Str} (hF : Fr h₀ L s.heap m) (hN : News h₀ L s.heap news) (hy : (y.length == 0) = false) (hsz : x.length + 2 ≤ sizeLine) (e : Txt.split x y = ts)
    (h : ∀ D vs h' k, TextsAre vs ts → Fr h₀ L h' m → News h₀ L h' ((D, lsO vs 0) :: news) → (∀ p ∈ news, p.1 < D) → Q (.ref D) { s with heap := h', toks := k }) :
    wpAny (model prog w) A (call (.builtin "str.split") [.str x t, .str y u]) Q E s :=
  KSpl.split1 hF hN hy (fun D l h' k e' _ F N l1 => h D _ h' k ⟨l, rfl, e'.trans e⟩ F N l1) hsz
end
theorem rows_le {W H : Int} (h0 : 0 ≤ H) (h1 : H ≤ 1000) {ws : List Str} (hw : ∀ w ∈ ws, w.length ≤ 30) (hn : ws.length ≤ 100) : ∀ r ∈ rowsOf W H ws, r.length ≤ 3100 := by
  have hi := run_inv (M := W) h0 h1 ws hw
  intro r hr
  rcases List.mem_append.mp hr with hr | hr
  · have := hi.row r hr; omega
  · rw [List.mem_singleton] at hr; subst hr
    have h8 := fwStr_le hi.word
    have h9 := hi.fs
    omega
end
section
theorem off_RUq : True := by
  k_with_none
  trivial
open PySem PySem.W PyProof.Rows PySem.Calls
section
variable {prog : Program} {w : World} {A : Around} {E : Value → Shared → Prop} {s : Shared} {h₀ : Heap} {L : Addr} {m : Str → Option Value} {env : Env}
end
end
section
theorem off_RVq : True := by
  k_with_none
  trivial
open PySem PySem.W PyProof.Rows PySem.Calls
section
variable {prog : Program} {w : World} {A : Around} {E : Value → Shared → Prop} {s : Shared} {h₀ : Heap} {L l : Addr} {m : Str → Option Value} {news : List (Addr × Obj)} {x y : Str} {t u : Tok} {Q : Value → Shared → Prop}
theorem item_at {value slice : PySem.Expr} {vs : List Value} {k : Int} {v : Value} (hl : s.heap.IsList l vs.toArray) (h0 : 0 ≤ k) (hhi : k < 2 ^ 63) (hx : vs[k.toNat]? = some v) (h : Q v s)
    (hs : subscripted slice false (.ref l) (.int k u) = operate [.ref l, .int k u] (getItem (.ref l) (.int k u)) := by with_unfolding_all rfl) :
    wpAny (model prog w) A (subscriptTail value slice (.ref l) (.int k u)) Q E s :=
  tail_any hl.typeIs slot_list_getitem.lookup (wpAny_getItem_list hl h0 hhi (by simpa using hx) h) hs
end
theorem texts_at {vs : List Value} {ts : List Str} {i : Nat} {a : Str} (h : TextsAre vs ts) (ha : ts[i]? = some a) : ∃ t, vs[i]? = some (Value.str a t) := by
  obtain ⟨l, rfl, rfl⟩ := h
  rw [List.getElem?_map] at ha
  obtain ⟨p, e1, rfl⟩ := Option.map_eq_some_iff.mp ha
  exact ⟨p.2, by unfold strValues; rw [List.getElem?_map, e1]; rfl⟩
theorem TextsAre.drop {vs : List Value} {ts : List Str} (h : TextsAre vs ts) (k : Nat) : TextsAre (vs.drop k) (ts.drop k) := by
  obtain ⟨l, rfl, rfl⟩ := h
  exact ⟨l.drop k, by simp [strValues, List.map_drop], by simp [List.map_drop]⟩
theorem texts_of {vs : List Value} {ts : List Str} (hl : vs.length = ts.length) (h : ∀ (i : Nat) (v : Value), vs[i]? = some v → ∃ a t, ts[i]? = some a ∧ v = Value.str a t) : TextsAre vs ts := by
  induction vs generalizing ts with
  | nil =>
    obtain rfl : ts = [] := List.length_eq_zero_iff.mp hl.symm
    exact TextsAre.nil
  | cons v r ih =>
    cases ts with
    | nil => simp at hl
    | cons a ts =>
      obtain ⟨b, t, e1, rfl⟩ := h 0 v (by simp)
      have e1 : a = b := by simpa using e1
      subst e1
      obtain ⟨l, rfl, rfl⟩ := ih (by simpa using hl) fun i v hv => h (i + 1) v (by simpa using hv)
      exact ⟨(a, t) :: l, rfl, rfl⟩
section
variable {prog : Program} {w : World} {A : Around} {E : Value → Shared → Prop} {s : Shared} {h₀ : Heap} {L l : Addr} {m : Str → Option Value} {news : List (Addr × Obj)} {Q : Value → Shared → Prop}
end
noncomputable def agOf (r : Str) : Str := ((Txt.split r " ")[1]?).getD ""
section
variable {prog : Program} {w : World} {A : Around} {E : Value → Shared → Prop} {s : Shared} {h₀ : Heap} {L D b : Addr} {m : Str → Option Value} {news : List (Addr × Obj)} {g : Obj → List (Addr × Obj)}
end
end
section
theorem off_RWq : True := by
  k_with_none
  trivial
open PySem PySem.W PyProof.Rows PySem.Calls
noncomputable def metBy (val : Nat → Str) (i : Nat) (k : Str) : Bool := (List.range i).any fun j => val j == k
theorem metBy_succ (val : Nat → Str) (i : Nat) (k : Str) : metBy val (i + 1) k = (metBy val i k || decide (k = val i)) := by
  unfold metBy
  rw [List.range_succ, List.any_append]
  simp only [List.any_cons, List.any_nil, Bool.or_false]
  congr 1
  by_cases h : val i = k
  · subst h; simp
  · rw [beq_eq_false_iff_ne.mpr h, decide_eq_false (fun e => h e.symm)]
section
variable {prog : Program} {w : World} {A : Around} {R : Result → Shared → Prop} {I : Addr} {fp wr : List Addr} {G : Array GenState → Array GenState → Prop} {n : Nat} {P : Nat → Value → Prop} {St : Nat → Shared → Prop}
theorem set_loop (W : WalksS prog w A.in1 I fp wr G n P St) (S : Addr) (hSf : S ∉ fp) (val : Nat → Str) (hval : ∀ i v, P i v → ∃ t, v = .str (val i) t) (hb : n + 1 < scanBound) :
    ∀ (k i : Nat) (s : Shared), n - i = k → i ≤ n → St i s → (∃ c, c ≤ i ∧ s.heap.SetOf (strKind prog w) S (metBy val i) c) →
      (∀ s' c, Moved (S :: wr) G s s' → c ≤ n → s'.heap.SetOf (strKind prog w) S (metBy val n) c → R (.ok (.ret .none)) s') →
      codeAny (model prog w) A (.builtin "set.update.loop" ⟨[.ref S, .ref I], []⟩) R s := by
  have hSw : S ∉ wr := fun h => hSf (W.sub _ h)
  have hsub : ∀ b ∈ wr, b ∈ S :: wr := fun b hb => List.mem_cons_of_mem _ hb
  intro k
  induction k with
  | zero =>
    intro i s hk hi hst hS hR
    obtain rfl : i = n := Nat.le_antisymm hi (bn0 hk)
    obtain ⟨c, hc, hS⟩ := hS
    refine codeAny_builtin PyProof.Rows.F.entry_set_update_loop ?_
    rw [Around.under_plainId PyProof.Rows.F.plain_set_update_loop _]
    show wpAny _ A.in1 (pyNext (.ref I) >>= _) _ _ s
    refine wpAny_bind (W.done s _ _ hst fun s' hm => ?_)
    show wpAny _ A.in1 (ret Value.none) _ _ s'
    exact wpAny_pure (hR s' c (hm.mono hsub) hc (by
      obtain ⟨o, es, ep, t, ho, rest⟩ := hS
      exact ⟨o, es, ep, t, hm.heap S _ hSw ho, rest⟩))
  | succ k ih =>
    intro i s hk hi hst hS hR
    have hlt : i < n := bn2 hk
    obtain ⟨c, hc, hS⟩ := hS
    refine codeAny_builtin PyProof.Rows.F.entry_set_update_loop ?_
    rw [Around.under_plainId PyProof.Rows.F.plain_set_update_loop _]
    show wpAny _ A.in1 (pyNext (.ref I) >>= _) _ _ s
    refine wpAny_bind (W.item i s _ _ hlt hst fun v s' hP hst' hm => ?_)
    obtain ⟨t, rfl⟩ := hval i v hP
    have hS' : s'.heap.SetOf (strKind prog w) S (metBy val i) c := by
      obtain ⟨o, es, ep, tb, ho, rest⟩ := hS
      exact ⟨o, es, ep, tb, hm.heap S _ hSw ho, rest⟩
    show wpAny _ A.in1 (holding [Value.str (val i) t] (setAdd S (.str (val i) t)) >>= _) _ _ s'
    refine wpAny_bind (wpAny_holding ?_)
    unfold setAdd
    refine wpAny_holding ?_
    refine wpAny_bind ((strKind prog w).pyHash (k := val i) (strKind_is _ _ _ _) ?_)
    refine wpAny_setAddHashed_of (knd := strKind prog w) (s := { s' with toks := s'.toks + 1 }) (strKind_is _ _ _ _) rfl hS' (by omega) fun h' hsb hS2 => ?_
    have hSi : h'.SetOf (strKind prog w) S (metBy val (i + 1)) (if metBy val i (val i) then c else c + 1) := SetOf_congr hS2 (fun k' => (metBy_succ val i k').symm) rfl
    refine wpAny_pure ⟨plainId_quiet PyProof.Rows.F.plain_set_update_loop _, ih (i + 1) _ (bn1 hk) hlt (W.frame _ s' _ _ hst' (Nat.le_succ _) fun b hb o e => ?_) ⟨_, by split <;> omega, hSi⟩ fun s'' c'' hm'' hc'' hS'' => ?_⟩
    · rw [hsb.2 b (fun h : b = S => hSf (by rw [← h]; exact hb))]; exact e
    · refine hR s'' c'' (Moved.trans W.gtrans ((hm.mono hsub).then_heap (Nat.le_succ _) fun b o hb e => ?_) hm'') hc'' hS''
      rw [hsb.2 b (fun h : b = S => hb (by rw [h]; exact List.mem_cons_self))]; exact e
end
end
section
theorem off_RXq : True := by
  k_with_none
  trivial
open PySem PySem.W PyProof.Rows PySem.Calls
section
variable {prog : Program} {w : World} {A : Around} {E : Value → Shared → Prop} {s : Shared}
theorem call_set_texts {l : Addr} {items : Array Value} {val : Nat → Str} {Q : Value → Shared → Prop}
    (hh : A.handled = none) (hl : s.heap.IsList l items) (hval : ∀ (i : Nat) (v : Value), items[i]? = some v → ∃ t, v = .str (val i) t) (hb : items.size + 1 < scanBound)
    (h : ∀ (h' : Heap) (tk : Nat) (c : Nat), c ≤ items.size → h'.SetOf (strKind prog w) s.heap.objs.size (metBy val items.size) c →
      (∀ b o, b < s.heap.objs.size → s.heap.get? b = some o → h'.get? b = some o) → Q (.ref s.heap.objs.size) { s with heap := h', toks := tk }) :
    wpAny (model prog w) A (call (.type "set") [.ref l]) Q E s := by
  obtain ⟨c, tl, hmro⟩ := PySem.F.called_set.mro
  have hmade := PySem.F.called_set.made
  have hsub := PySem.F.called_set.sub
  refine wpAny_call (codeAny_of_tree ?_)
  show wpAny _ _ (callAny (.type "set") _) _ _ _
  refine wpAny_pure ⟨Code.quiet_builtin _ (by decide +kernel), codeAny_builtin PySem.F.entry_type_call ?_⟩
  rw [Around.under_plain (weight_type_call_type "set" [.ref l] []) rfl]
  have h1 := PySem.F.called_set.notType
  have h2 := PySem.F.called_set.canCreate
  have hct := PySem.F.typeCall_set_1 (.ref l)
  repeat (any_goals (first | assumption | wp_step))
  refine codeAny_mono (PySem.code_set_new_1 (.ref l) (E := E) (Q₁ := fun obj s₁ => ∃ led : Bool, obj = .ref s.heap.objs.size ∧ s₁ = { s with heap := s.heap.push { cls := .type "set", dict := none, data := .set #[] 0 (.fresh 0 0 led) } }) fun led => ⟨led, rfl, rfl⟩) fun r s₁ hr => ?_
  cases r with
  | error e => exact hr
  | ok fl =>
    cases fl with
    | ret obj =>
      obtain ⟨led, rfl, rfl⟩ := hr
      have hS : (s.heap.push { cls := .type "set", dict := none, data := .set #[] 0 (.fresh 0 0 led) }).get? s.heap.objs.size = some { cls := .type "set", dict := none, data := .set #[] 0 (.fresh 0 0 led) } := Heap.get?_push_size _ rfl
      have hT : Shared.TypeIs { s with heap := s.heap.push { cls := .type "set", dict := none, data := .set #[] 0 (.fresh 0 0 led) } } (.ref s.heap.objs.size) "set" := ⟨_, hS, rfl⟩
      have hli := PySem.F.called_set.init.lookup
      have hbi := PySem.F.called_set.init.bind (.ref s.heap.objs.size)
      repeat (any_goals (first | assumption | wp_step))
      refine codeAny_mono (codeAny_call_builtin (R := wants (fun r s₂ => r = .none ∧ ∃ h' tk c, s₂ = { s with heap := h', toks := tk } ∧ c ≤ items.size ∧
          h'.SetOf (strKind prog w) s.heap.objs.size (metBy val items.size) c ∧
          (∀ b o, b < s.heap.objs.size → s.heap.get? b = some o → h'.get? b = some o)) E) PySem.F.called_set.init.plain PySem.F.entry_set_init (PySem.check_set_init_1 hT ?_)) fun r₂ s₂ hr₂ => ?_
      · obtain ⟨ol, hol, hcl, nl, hdl⟩ := hl
        obtain ⟨ocls, odict, odata, oslots⟩ := ol
        simp only at hcl hdl
        subst hcl; subst hdl
        have hol' : (s.heap.push { cls := .type "set", dict := none, data := .set #[] 0 (.fresh 0 0 led) }).get? l = some { cls := .type "list", dict := odict, data := .seq items nl, slots := oslots } := Heap.get?_push_of_some _ hol
        have hsls := PySem.F.sub_list_set
        have hslf := PySem.F.sub_list_frozenset
        have hne : (Value.type "list" == Value.type "dict") = false := by decide
        have hl1 : (s.heap.push { cls := .type "set", dict := none, data := .set #[] 0 (.fresh 0 0 led) }).IsList l items := ⟨_, hol', rfl, nl, rfl⟩
        unfold Builtin.«set.__init__» noKeywords Builtin.Frozenset.updateFrom
        generalize hPI : pyIter = PI
        wp_walk
        subst hPI
        refine wpAny_pyIter_list hl1 ?_
        refine wpAny_bind (wpAny_runValue ?_)
        have hlS : l < s.heap.objs.size := Heap.lt_size hol
        have hh3 : A.in1.in1.in1.handled = none := by simp [hh]
        have hneI : l ≠ (s.heap.push { cls := .type "set", dict := none, data := .set #[] 0 (.fresh 0 0 led) }).objs.size := by
          rw [Heap.size_push]; exact Nat.ne_of_lt (Nat.lt_succ_of_lt hlS)
        have hSf : s.heap.objs.size ∉ [(s.heap.push { cls := .type "set", dict := none, data := .set #[] 0 (.fresh 0 0 led) }).objs.size, l] := by
          rw [Heap.size_push]; simp only [List.mem_cons, List.mem_singleton, List.not_mem_nil, or_false, not_or]
          exact ⟨Nat.ne_of_lt (Nat.lt_succ_self _), Nat.ne_of_gt hlS⟩
        refine set_loop ((Walks.list hh3 _ l hneI items).toS) s.heap.objs.size
          hSf val hval hb (items.size - 0) 0 _ (by omega) (Nat.zero_le _)
          ⟨⟨_, Heap.get?_push_size _ rfl, rfl, rfl⟩, (hl1.push _)⟩ ?hS0 ?hR
        case hS0 =>
          have hget : ((s.heap.push { cls := .type "set", dict := none, data := .set #[] 0 (.fresh 0 0 led) }).push { cls := .type "list_iterator", data := .fields #[.ref l, .int 0 0] }).get? s.heap.objs.size
              = some { cls := .type "set", dict := none, data := .set #[] 0 (.fresh 0 0 led) } := Heap.get?_push_of_some _ hS
          exact ⟨0, Nat.le_refl _, PyProof.Rows.SetOf_congr ((PyProof.Rows.setObjOf_fresh (knd := strKind prog w) led).setOf hget (by unfold scanBound; omega)) (fun _ => rfl) rfl⟩
        case hR =>
          intro s' c' hm hc' hS'
          obtain ⟨h', g', d', tk', os'⟩ := s'
          have eg : g' = s.gens := hm.gens
          have ed : d' = s.drawn := hm.drawn
          have eo : os' = s.os := hm.os
          subst eg; subst ed; subst eo
          show wpAny _ _ _ _ _ _
          refine wpAny_pure ?_
          show wpAny _ _ (ret Value.none) _ _ _
          refine wpAny_pure ⟨rfl, h', tk', c', rfl, hc', hS', fun b o hb e => ?_⟩
          have hb1 : b ≠ s.heap.objs.size := Nat.ne_of_lt hb
          have hb2 : b ≠ (s.heap.push { cls := .type "set", dict := none, data := .set #[] 0 (.fresh 0 0 led) }).objs.size := by
            rw [Heap.size_push]; exact Nat.ne_of_lt (Nat.lt_succ_of_lt hb)
          exact hm.heap b o (by simp only [List.mem_cons, List.mem_singleton, List.not_mem_nil, or_false, not_or]; exact ⟨hb1, hb2⟩) (Heap.get?_push_of_some _ (Heap.get?_push_of_some _ e))
      · cases r₂ with
        | error e => exact hr₂
        | ok fl₂ =>
          cases fl₂ with
          | ret r =>
            obtain ⟨rfl, h', tk, c', rfl, hc', hS', hk'⟩ := hr₂
            repeat (any_goals (first | assumption | wp_step))
            exact h _ _ _ hc' hS' hk'
          | _ => exact hr₂.elim
    | _ => exact hr.elim
end
theorem metBy_texts {ts : List Str} (k : Str) : metBy (fun i => ts.getD i "") ts.length k = ts.any (· == k) := by
  unfold metBy
  rw [Bool.eq_iff_iff, List.any_eq_true, List.any_eq_true]
  constructor
  · rintro ⟨j, hj, e⟩
    have hj := List.mem_range.mp hj
    exact ⟨ts[j], List.getElem_mem hj, by simpa [List.getD, hj] using e⟩
  · rintro ⟨x, hx, e⟩
    obtain ⟨j, hj, rfl⟩ := List.mem_iff_getElem.mp hx
    exact ⟨j, List.mem_range.mpr hj, by simpa [List.getD, hj] using e⟩
section
variable {prog : Program} {w : World} {A : Around} {E : Value → Shared → Prop} {s : Shared} {h₀ : Heap} {L : Addr} {m : Str → Option Value} {news : List (Addr × Obj)}
theorem set_K {l : Addr} {vs : List Value} {ts : List Str} {n : Nat} {Q : Value → Shared → Prop} (F : Fr h₀ L s.heap m) (N : News h₀ L s.heap news)
    (hh : A.handled = none) (hl : (l, lsO vs n) ∈ news) (ht : TextsAre vs ts) (hb : ts.length ≤ 1000)
    (h : ∀ D h' tk o c, Fr h₀ L h' m → News h₀ L h' ((D, o) :: news) → o.SetObjOf (strKind prog w) (fun k => ts.any (· == k)) c → c ≤ 1000 → (∀ p ∈ news, p.1 < D) → Q (.ref D) { s with heap := h', toks := tk }) :
    wpAny (model prog w) A (call (.type "set") [.ref l]) Q E s := by
  have hsz : vs.toArray.size = ts.length := by rw [List.size_toArray, ht.length]
  refine call_set_texts (items := vs.toArray) (val := fun i => ts.getD i "") hh ⟨_, (N _ hl).1, rfl, n, rfl⟩ (fun i v hv => ?_) (by rw [hsz]; unfold scanBound; omega) fun h' tk c hc hS hk => ?_
  · obtain ⟨a, t, rfl, e⟩ := texts_get ht (by simpa using hv)
    exact ⟨t, by simp [List.getD, e]⟩
  · rw [hsz] at hc hS
    have hS := SetOf_congr hS metBy_texts rfl
    obtain ⟨o, ho, hso⟩ := hS.objOf
    have hLlt := F.ns.lt
    refine h _ h' tk o c ⟨F.ns.at' fun o' e => hk L o' hLlt e, fun b o' e => hk b o' (Heap.lt_size (F.keep b o' e)) (F.keep b o' e), F.above⟩ (fun p hp => ?_) hso (by omega) fun p hp => Heap.lt_size (N p hp).1
    rcases List.mem_cons.mp hp with rfl | hp
    · refine ⟨ho, Nat.ne_of_gt hLlt, ?_⟩
      cases hq : h₀.get? s.heap.objs.size with
      | none => rfl
      | some o' => exact absurd (Heap.lt_size (F.keep _ _ hq)) (Nat.lt_irrefl _)
    · exact ⟨hk _ _ (Heap.lt_size (N p hp).1) (N p hp).1, (N p hp).2.1, (N p hp).2.2⟩
end
end
section
theorem off_RYq : True := by
  k_with_none
  trivial
open PySem PySem.W PyProof.Rows PySem.Calls
theorem lk_setc : typeLookup (.type "set") "__contains__" = pure (some (.builtin "set.__contains__")) := by rw [typeLookup_type, builtinLookup_eq_fast]; kernel_rfl
theorem ty_setc : typeOf (.builtin "set.__contains__") = (pure (.type "method_descriptor") : Sem Value) := by kernel_rfl
theorem lk_md_set : typeLookup (.type "method_descriptor") "__set__" = pure none := by rw [typeLookup_type, builtinLookup_eq_fast]; kernel_rfl
theorem lk_md_delete : typeLookup (.type "method_descriptor") "__delete__" = pure none := by rw [typeLookup_type, builtinLookup_eq_fast]; kernel_rfl
theorem own_setc : ".".intercalate ("set.__contains__".cutAt '.').dropLast = "set" := by decide +kernel
theorem told_setc : Manifest.toldItsClass.contains "set.__contains__" = false := by decide +kernel
section
variable {prog : Program} {w : World} {A : Around} {E : Value → Shared → Prop} {h : Heap} {g : Array GenState} {d : Drawn} {t : Nat} {os : OsState} {a : Addr} {o : Obj}
theorem setc_md {Q : Fin → Shared → Prop} (hx : h.get? a = some o) (hc : o.cls = .type "set")
    (hq : Q (.done (.ret (.ref h.objs.size))) ⟨h.push (boundB "builtin_function_or_method" "set.__contains__" (.ref a)), g, d, t, os⟩) :
    wpAny (model prog w) A (Builtin.«method_descriptor.__get__» ⟨[.builtin "set.__contains__", .ref a, .type "set"], []⟩) Q E ⟨h, g, d, t, os⟩ := by
  have hT : (⟨h, g, d, t, os⟩ : Shared).TypeIs (.ref a) "set" := ⟨_, hx, hc⟩
  have t1 : Looks (model prog w) h (typeOf (.ref a)) (.type "set") := hc ▸ (Looks.ld (part := some headPart) hx).andThen .now
  have s1 : Looks (model prog w) h (isSubtype (.type "set") (.type (".".intercalate ("set.__contains__".cutAt '.').dropLast))) true := by rw [own_setc]; exact .of_pure sub_set_self
  unfold Builtin.«method_descriptor.__get__»
  repeat (first | (refine Looks.at s1 ?_) | rw [told_setc, if_neg Bool.false_ne_true] | lk)
  exact hq
theorem setc_entry {tk : Tok} {Q : Fin → Shared → Prop} (hx : h.get? a = some o) (hc : o.cls = .type "set") (hd : o.dict = none) {es : Array (Int × Value)} {ep : Nat} {tb : SetTable} (hdat : o.data = .set es ep tb)
    (hq : Q (.done (.ret (.ref h.objs.size))) ⟨h.push (boundB "builtin_function_or_method" "set.__contains__" (.ref a)), g, d, t, os⟩) :
    wpAny (model prog w) A (Builtin.«object.__getattribute__» ⟨[.ref a, .str "__contains__" tk], []⟩) Q E ⟨h, g, d, t, os⟩ := by
  have hT : (⟨h, g, d, t, os⟩ : Shared).TypeIs (.ref a) "set" := ⟨_, hx, hc⟩
  have hT5 : (⟨h, g, d, t, os⟩ : Shared).TypeIs (.builtin "set.__contains__") "method_descriptor" := ty_setc
  have f4 := lk_setc
  have f5 := ty_setc
  have f6 := slot_md_get.lookup
  have f7 := lk_md_set
  have f8 := lk_md_delete
  repeat (any_goals (first | assumption | wp_step))
  rw [hdat]
  dsimp only
  unfold instanceDict
  repeat (any_goals (first | assumption | wp_step))
  rw [hc, hd]
  dsimp only
  rw [if_pos (show (!false || !typeHasDict (.type "set")) = true from rfl)]
  refine wpAny_pure ?_
  unfold Builtin.ObjectAttr.inDict
  dsimp only
  refine wpAny_pure ?_
  dsimp only
  unfold Builtin.ObjectAttr.copiedAttributeGuard Builtin.ObjectAttr.byTheClass Builtin.ObjectAttr.bindTo
  repeat (any_goals (first | assumption | wp_step))
  exact codeAny_call_builtin slot_md_get.plain entry_md_get (slot_md_get.check _ _ _ _ _ _ _ _ hT5 (args_md_get _ _ _) (setc_md hx hc (wpAny_pure hq)))
theorem setc_call {tk : Tok} {R : Result → Shared → Prop} (hx : h.get? a = some o) (hc : o.cls = .type "set") (hd : o.dict = none) {es : Array (Int × Value)} {ep : Nat} {tb : SetTable} (hdat : o.data = .set es ep tb)
    (hq : R (.ok (.ret (.ref h.objs.size))) ⟨h.push (boundB "builtin_function_or_method" "set.__contains__" (.ref a)), g, d, t, os⟩) :
    codeAny (model prog w) A (.call (.builtin "set.__getattribute__") ⟨[.ref a, .str "__contains__" tk], []⟩) R ⟨h, g, d, t, os⟩ :=
  codeAny_call_builtin PySem.F.slot_set_getattribute.plain PySem.F.entry_set_ga (PySem.F.slot_set_getattribute.check _ _ _ _ _ _ _ _ (show (⟨h, g, d, t, os⟩ : Shared).TypeIs (.ref a) "set" from ⟨_, hx, hc⟩) (PySem.F.args_set_getattribute_2 _ _) (setc_entry hx hc hd hdat hq))
theorem getAttr_setc {Q : Value → Shared → Prop} (hx : h.get? a = some o) (hc : o.cls = .type "set") (hd : o.dict = none) {es : Array (Int × Value)} {ep : Nat} {tb : SetTable} (hdat : o.data = .set es ep tb)
    (hq : Q (.ref h.objs.size) ⟨h.push (boundB "builtin_function_or_method" "set.__contains__" (.ref a)), g, d, t + 1, os⟩) : wpAny (model prog w) A (getAttr (.ref a) "__contains__" true) Q E ⟨h, g, d, t, os⟩ := by
  have hT : ∀ t, (⟨h, g, d, t, os⟩ : Shared).TypeIs (.ref a) "set" := fun _ => ⟨_, hx, hc⟩
  have f2 := PySem.F.slot_set_getattribute.lookup
  have f3 := PySem.F.slot_set_getattribute.bind (.ref a)
  have hT1 := hT (t + 1)
  have hT0 := hT t
  unfold getAttr
  repeat (any_goals (first | assumption | wp_step))
  refine setc_call hx hc hd hdat ?_
  repeat (any_goals (first | assumption | wp_step))
end
end
section
theorem off_RZq : True := by
  k_with_none
  trivial
open PySem PySem.W PyProof.Rows PySem.Calls
section
variable {prog : Program} {w : World} {A : Around} {E : Value → Shared → Prop} {s : Shared} {a : Addr} {k : Str} {t : Tok}
theorem setc_body {S : Str → Bool} {n : Nat} {Q : Value → Shared → Prop} (hS : s.heap.SetOf (strKind prog w) a S n) (h : Q (.bool (S k)) { s with toks := s.toks + 1 }) :
    wpAny (model prog w) A (Builtin.«frozenset.__contains__» ⟨[.ref a, .str k t], []⟩) (fun fin s' => ∃ v, fin = .done (.ret v) ∧ Q v s') E s := by
  unfold Builtin.«frozenset.__contains__» Builtin.Frozenset.oneOther
  simp only [List.isEmpty_nil, bind_assoc]
  unfold Builtin.Frozenset.addrOf Builtin.Frozenset.withSetAsKey setContains
  refine wpAny_bind (wpAny_pure ?_)
  try dsimp only
  refine wpAny_bind (wpAny_pure ?_)
  try dsimp only
  refine wpAny_bind (wpAny_tryCatch ?_)
  refine wpAny_holding ?_
  refine wpAny_bind ((strKind prog w).pyHash (k := k) (strKind_is _ _ _ _) ?_)
  refine wpAny_bind (wpAny_setFind_of (knd := strKind prog w) (s := { s with toks := s.toks + 1 }) (strKind_is _ _ _ _) rfl hS fun r hr => ?_)
  refine wpAny_pure ?_
  show wpAny _ _ (ret (Value.bool r.isSome)) _ _ _
  rw [hr]
  exact wpAny_pure ⟨_, rfl, h⟩
theorem sub_set_module : isSubtype (.type "set") (.type "module") = pure false := by rw [isSubtype_type]; kernel_rfl
theorem setc_chk {o : Obj} {Q : Unit → Shared → Prop} (hx : s.heap.get? a = some o) (hc : o.cls = .type "set") {es : Array (Int × Value)} {ep : Nat} {tb : SetTable} (hdat : o.data = .set es ep tb) (hq : Q () s) : wpAny (model prog w) A (checkBoundCall "set.__contains__" ⟨[.ref a, .str k t], []⟩) Q E s := by
  have hT : s.TypeIs (.ref a) "set" := ⟨_, hx, hc⟩
  have f1 := sub_set_module
  have it : Looks (model prog w) s.heap (isType (.ref a)) false := by
    intro A Q E s' k q
    refine wpAny_bind (wpAny_loadPart (k _ _ hx) ?_)
    rw [hdat]
    exact wpAny_pure q
  unfold checkBoundCall
  repeat (any_goals (first | assumption | wp_step))
end
end
section
theorem off_SAq : True := by
  k_with_none
  trivial
open PySem PySem.W PyProof.Rows PySem.Calls
theorem owner_filter : Manifest.owners.lookup (String.ofList ['r', 'e', 't', 'l', 'i', 'f'].reverse) = some Manifest.sig_filter := by kernel_rfl
theorem slot_filter_init : Slot "filter" "__init__" "object.__init__" :=
  .of (owner := "object") (n := "__init__") (by rw [typeLookup_type, builtinLookup_eq_fast]; kernel_rfl) (by decide +kernel) (by decide +kernel) (by decide +kernel)
    (by first | exact .inl (by decide +kernel) | exact .inr (by decide +kernel)) (by rw [isSubtype_type]; kernel_rfl)
theorem slot_filter_iter : Slot "filter" "__iter__" "filter.__iter__" :=
  .of (owner := "filter") (n := "__iter__") (by rw [typeLookup_type, builtinLookup_eq_fast]; kernel_rfl) (by decide +kernel) (by decide +kernel) (by decide +kernel)
    (by first | exact .inl (by decide +kernel) | exact .inr (by decide +kernel)) (by rw [isSubtype_type]; kernel_rfl)
theorem args_filter_iter_1 (a : Value) : argsOk "filter.__iter__" ⟨[a], []⟩ := by
  unfold argsOk; rw [signature?_of (id := "filter.__iter__") (n := ['_', '_', 'r', 'e', 't', 'i', '_', '_']) (o := ['r', 'e', 't', 'l', 'i', 'f']) (by kernel_rfl) owner_filter]; kernel_rfl
theorem slot_filter_next : Slot "filter" "__next__" "filter.__next__" :=
  .of (owner := "filter") (n := "__next__") (by rw [typeLookup_type, builtinLookup_eq_fast]; kernel_rfl) (by decide +kernel) (by decide +kernel) (by decide +kernel)
    (by first | exact .inl (by decide +kernel) | exact .inr (by decide +kernel)) (by rw [isSubtype_type]; kernel_rfl)
theorem entry_filter_next : entryFor table "filter.__next__" = some Builtin.«filter.__next__» := entryFor_of_tree (by kernel_rfl)
theorem args_filter_next_1 (a : Value) : argsOk "filter.__next__" ⟨[a], []⟩ := by
  unfold argsOk; rw [signature?_of (id := "filter.__next__") (n := ['_', '_', 't', 'x', 'e', 'n', '_', '_']) (o := ['r', 'e', 't', 'l', 'i', 'f']) (by kernel_rfl) owner_filter]; kernel_rfl
theorem entry_filter_iter : entryFor table "filter.__iter__" = some Builtin.«dict_keyiterator.__iter__» :=
  entryFor_alias (id' := "dict_keyiterator.__iter__") (by kernel_rfl) (by first | rfl | decide +kernel | (unfold String.splitOn; simp +decide [String.splitOnAux])) (by decide +kernel) (by kernel_rfl)
theorem mro_filter : mroOf (.type "filter") = pure [.type "filter", .type "object"] := by rw [mroOf_type]; kernel_rfl
theorem lookup_filter_new : typeLookup (.type "filter") "__new__" = pure (some (.builtin "filter.__new__")) := by rw [typeLookup_type, builtinLookup_eq_fast]; kernel_rfl
theorem called_filter : TypeCalled "filter" "filter.__new__" "object.__init__" :=
  ⟨by decide +kernel, by decide +kernel, ⟨_, _, mro_filter⟩, madeBy_type mro_filter lookup_filter_new (by decide +kernel), by decide +kernel, by rw [isSubtype_type]; kernel_rfl, slot_filter_init⟩
theorem typeCall_filter_2 (a b : Value) : checkTypeCall "filter" ⟨[a, b], []⟩ = pure () := by kernel_rfl
theorem newCall_filter_2 (a b : Value) : checkBuiltinCall "filter.__new__" ⟨[.type "filter", a, b], []⟩ = pure () := by kernel_rfl
theorem entry_filter_new : entryFor table "filter.__new__" = some Builtin.«filter.__new__» := entryFor_of_tree (by kernel_rfl)
theorem plain_filter_next : plainId "filter.__next__" = true := by decide +kernel
theorem sub_filter : isSubtype (.type "filter") (.type "filter") = pure true := by rw [isSubtype_type]; kernel_rfl
theorem filter_no_len : typeLookup (.type "filter") "__len__" = pure none := by rw [typeLookup_type, builtinLookup_eq_fast]; kernel_rfl
theorem filter_no_hint : typeLookup (.type "filter") "__length_hint__" = pure none := by rw [typeLookup_type, builtinLookup_eq_fast]; kernel_rfl
noncomputable abbrev filH1 (h : Heap) (l1 : Addr) : Heap := h.push { cls := .type "list_iterator", data := .fields #[.ref l1, .int 0 0] }
noncomputable def filO (q it : Addr) : Obj := { cls := .type "filter", data := .fields #[.ref q, .ref it] }
theorem meets_filter_new (q l1 : Addr) (xs : Array Value) :
    Meets (Builtin.«filter.__new__» ⟨[.type "filter", .ref q, .ref l1], []⟩) (fun _ R s => s.heap.IsList l1 xs ∧
      R (.ok (.ret (.ref (filH1 s.heap l1).objs.size))) { s with heap := (filH1 s.heap l1).push (filO q s.heap.objs.size) }) :=
  .of_wp fun prog w A R s h => by
    obtain ⟨hp, g, d, tk, os⟩ := s; obtain ⟨hl1, h⟩ := h
    have hsub := sub_filter
    have hL1 : Heap.IsList (Shared.heap ⟨hp, g, d, tk, os⟩) l1 xs := hl1
    wp_walk using wpAny_pyIter_list hL1
    exact ⟨_, rfl, h⟩
section
variable {prog : Program} {w : World} {A : Around} {E : Value → Shared → Prop} {s : Shared}
theorem call_filter {q l : Addr} {xs : Array Value} {Q : Value → Shared → Prop} (hl : s.heap.IsList l xs)
    (h : Q (.ref (s.heap.objs.size + 1)) { s with heap := (filH1 s.heap l).push (filO q s.heap.objs.size) }) :
    wpAny (model prog w) A (call (.type "filter") [.ref q, .ref l]) Q E s := by
  refine callType_new called_filter (by decide) (typeCall_filter_2 _ _) (newCall_filter_2 _ _) (fun obj => PySem.F.args_object_init_3 obj _ _) entry_filter_new
    (meets_filter_new q l xs) ⟨hl, ?_⟩
  have z1 : (filH1 s.heap l).objs.size = s.heap.objs.size + 1 := Heap.size_push ..
  have g1 : ((filH1 s.heap l).push (filO q s.heap.objs.size)).get? (filH1 s.heap l).objs.size = some _ := Heap.get?_push_size _ rfl
  show _ ∧ _
  rw [z1] at g1 ⊢
  exact ⟨⟨_, g1, rfl⟩, h⟩
end
end
section
theorem off_SBq : True := by
  k_with_none
  trivial
open PySem PySem.W PyProof.Rows PySem.Calls
structure FilAt (prog : Program) (w : World) (h : Heap) (z q it l a : Addr) (xs : Array Value) (S : Str → Bool) (n i : Nat) : Prop where
  fil : h.get? z = some (filO q it)
  bnd : BoundAt q "builtin_function_or_method" "set.__contains__" (.ref a) h
  set : h.SetOf (strKind prog w) a S n
  itr : h.IsListIter it l i
  lst : h.IsList l xs
structure FilOff (z q it l a : Addr) : Prop where
  z : z ≠ it
  q : q ≠ it
  a : a ≠ it
  l : l ≠ it
theorem FilAt.keep {prog : Program} {w : World} {h h' : Heap} {z q it l a : Addr} {xs : Array Value} {S : Str → Bool} {n i j : Nat} (X : FilAt prog w h z q it l a xs S n i) (D : FilOff z q it l a)
    (hk : ∀ b o, b ≠ it → h.get? b = some o → h'.get? b = some o) (hi : h'.IsListIter it l j) : FilAt prog w h' z q it l a xs S n j := by
  obtain ⟨o, es, ep, t, ho, rest⟩ := X.set
  obtain ⟨ol, hol, rl⟩ := X.lst
  exact ⟨hk _ _ D.z X.fil, hk _ _ D.q X.bnd, ⟨o, es, ep, t, hk _ _ D.a ho, rest⟩, hi, ⟨ol, hk _ _ D.l hol, rl⟩⟩
section
variable {prog : Program} {w : World} {A : Around} {E : Value → Shared → Prop} {s : Shared}
theorem next_item? {it l : Addr} {i : Nat} {items} {x : Value} {Q : Option Value → Shared → Prop} (hit : s.heap.IsListIter it l i)
    (hl : s.heap.IsList l items) (hx : items[i]? = some x)
    (hQ : ∀ h', h'.IsListIter it l (i + 1) → Heap.SameBut it s.heap h' → Q (some x) { s with heap := h' }) :
    wpAny (model prog w) A (callSpecial? (.ref it) "__next__") Q E s := by
  obtain ⟨o, ho, hc, hd⟩ := id hit
  obtain ⟨ol, hol, _, nl, hdl⟩ := hl
  refine (wpAny_callSpecial?_slot (name := Str.ofString "__next__") hit.typeIs slot_listiter_next
    (wpAny_call_entry slot_listiter_next hit.typeIs entry_listiter_next ?_ (args_listiter_next _)))
  show wpAny _ _ (field (.ref it) 0 >>= _) _ _ s
  refine wpAny_bind (wpAny_field ho hd (x := .ref l) rfl ?_)
  show wpAny _ _ (if (Value.ref l == Value.none) = true then _ else _) _ _ s
  rw [if_neg (show ¬ ((Value.ref l == Value.none) = true) from Bool.false_ne_true)]
  show wpAny _ _ (field (.ref it) 1 >>= _) _ _ s
  refine wpAny_bind (wpAny_field ho hd (x := .int i 0) rfl ?_)
  show wpAny _ _ (seqItems? (.ref l) >>= _) _ _ s
  refine wpAny_bind (wpAny_seqItems hol hdl ?_)
  simp only [Int.toNat_natCast, hx]
  refine wpAny_bind (wpAny_setField ho hd (by simp) (wpAny_pure ⟨x, rfl, hQ _ ?_ (Heap.SameBut.update ..)⟩))
  exact ⟨_, Heap.get?_update_self _ ho (Obj.isFreed_of_fields (Obj.data_mapFields hd _)), (Obj.cls_mapFields ..).trans hc, by
    rw [Obj.data_mapFields hd]; simp [rawInt]⟩
theorem next_end? {it l : Addr} {i : Nat} {items} {Q : Option Value → Shared → Prop} (hh : A.handled = none)
    (hit : s.heap.IsListIter it l i) (hl : s.heap.IsList l items) (hx : items[i]? = none)
    (hE : ∀ h' e, Heap.ExtBut it s.heap h' → (∃ o, h'.get? e = some o ∧ o.cls = .type "StopIteration") → E (.ref e) { s with heap := h' }) :
    wpAny (model prog w) A (callSpecial? (.ref it) "__next__") Q E s := by
  obtain ⟨o, ho, hc, hd⟩ := id hit
  obtain ⟨ol, hol, _, nl, hdl⟩ := hl
  refine (wpAny_callSpecial?_slot (name := Str.ofString "__next__") hit.typeIs slot_listiter_next
    (wpAny_call_entry slot_listiter_next hit.typeIs entry_listiter_next ?_ (args_listiter_next _)))
  show wpAny _ _ (field (.ref it) 0 >>= _) _ _ s
  refine wpAny_bind (wpAny_field ho hd (x := .ref l) rfl ?_)
  show wpAny _ _ (if (Value.ref l == Value.none) = true then _ else _) _ _ s
  rw [if_neg (show ¬ ((Value.ref l == Value.none) = true) from Bool.false_ne_true)]
  show wpAny _ _ (field (.ref it) 1 >>= _) _ _ s
  refine wpAny_bind (wpAny_field ho hd (x := .int i 0) rfl ?_)
  show wpAny _ _ (seqItems? (.ref l) >>= _) _ _ s
  refine wpAny_bind (wpAny_seqItems hol hdl ?_)
  simp only [Int.toNat_natCast, hx]
  refine wpAny_bind (wpAny_rule (wpAny_bind (wpAny_setField ho hd (by simp) ?_)))
  show wpAny _ _ (newExc (.type "StopIteration") [] >>= _) _ _ _
  refine wpAny_bind ?_
  simp only [newExc, newTuple]
  refine wpAny_bind (wpAny_newObj_type ?_ (by size_fits))
  refine wpAny_bind (m := firstArgMember _ _) (wpAny_of_eq (a := Value.none) (by first | rfl | (simp only [firstArgMember]; rfl)) ?_)
  refine wpAny_newObj_type ?_ (by size_fits)
  simp only [raiseNew]
  refine wpAny_bind (wpAny_handled ?_)
  first | rw [show A.in1.handled = none from hh] | rw [hh]
  refine wpAny_bind (wpAny_pure (wpAny_throw ?_))
  exact hE _ _ (((Heap.SameBut.update ..).extBut.push _).push _) ⟨_, Heap.get?_push_size _ rfl, rfl⟩
theorem call_setc {a q : Addr} {k : Str} {t : Tok} {S : Str → Bool} {n : Nat} {Q : Value → Shared → Prop} (X : BoundAt q "builtin_function_or_method" "set.__contains__" (.ref a) s.heap) (hS : s.heap.SetOf (strKind prog w) a S n)
    (hQ : Q (.bool (S k)) { s with toks := s.toks + 1 }) : wpAny (model prog w) A (call (.ref q) [.str k t]) Q E s := by
  obtain ⟨o, es, ep, tb, ho, hx, hdat, rest⟩ := id hS
  exact call_bound X (.inr rfl) (by decide +kernel) PySem.entry_set_contains (fun hq => setc_chk ho hx.1 hdat hq) (setc_body hS hQ)
end
end
section
theorem off_SCq : True := by
  k_with_none
  trivial
open PySem PySem.W PyProof.Rows PySem.Calls
section
variable {prog : Program} {w : World} {A : Around} {s : Shared} {R : Result → Shared → Prop} {z q it l a : Addr} {vs : List Value} {ts : List Str} {S : Str → Bool} {n : Nat}
noncomputable def FilPost (prog : Program) (w : World) (z q it l a : Addr) (vs : List Value) (ts : List Str) (S : Str → Bool) (n i : Nat) (R : Result → Shared → Prop) (s : Shared) : Prop :=
  match (ts.drop i).filter S with
  | x :: rest => ∀ t h' tk j, FilAt prog w h' z q it l a vs.toArray S n j → (ts.drop j).filter S = rest → (∀ b o, b ≠ it → s.heap.get? b = some o → h'.get? b = some o) → R (.ok (.ret (.str x t))) { s with heap := h', toks := tk }
  | [] => ∀ h' tk e, (∀ b o, b ≠ it → s.heap.get? b = some o → h'.get? b = some o) → (∃ o, h'.get? e = some o ∧ o.cls = .type "StopIteration") → R (.error (.ref e)) { s with heap := h', toks := tk }
theorem FilPost.back {i : Nat} {h' : Heap} {tk : Nat} (H : FilPost prog w z q it l a vs ts S n i R s) (hk : ∀ b o, b ≠ it → s.heap.get? b = some o → h'.get? b = some o) :
    FilPost prog w z q it l a vs ts S n i R { s with heap := h', toks := tk } := by
  unfold FilPost at H ⊢
  split
  · rename_i x rest e
    rw [e] at H
    exact fun t h'' tk' j X d k => H t h'' tk' j X d fun b o hb hg => k b o hb (hk b o hb hg)
  · rename_i e
    rw [e] at H
    exact fun h'' tk' er k c => H h'' tk' er (fun b o hb hg => k b o hb (hk b o hb hg)) c
theorem filter_next_code (ht : TextsAre vs ts) (D : FilOff z q it l a) (hh : A.handled = none) : ∀ (m i : Nat) (s : Shared), ts.length - i = m → FilAt prog w s.heap z q it l a vs.toArray S n i →
    FilPost prog w z q it l a vs ts S n i R s → codeAny (model prog w) A (.builtin "filter.__next__" ⟨[.ref z], []⟩) R s := by
  intro m
  induction m with
  | zero =>
    intro i s hm X H
    have hx : vs.toArray[i]? = none := by
      rw [List.getElem?_toArray]; exact List.getElem?_eq_none (by rw [ht.length]; exact bn0 hm)
    have hd : ts.drop i = [] := List.drop_of_length_le (bn0 hm)
    unfold FilPost at H
    rw [hd] at H
    refine codeAny_builtin entry_filter_next ?_
    rw [Around.under_plainId plain_filter_next _]
    show wpAny _ A.in1 (field (.ref z) 0 >>= _) _ _ s
    refine wpAny_bind (wpAny_field X.fil rfl (x := .ref q) rfl ?_)
    show wpAny _ _ (field (.ref z) 1 >>= _) _ _ s
    refine wpAny_bind (wpAny_field X.fil rfl (x := .ref it) rfl ?_)
    refine wpAny_bind (next_end? hh X.itr X.lst hx fun h' e he hc => ?_)
    exact H h' s.toks e (fun b o hb hg => he b o hb hg) hc
  | succ m ih =>
    intro i s hm X H
    have hi : i < ts.length := bn2 hm
    obtain ⟨t, hv⟩ : ∃ t, vs[i]? = some (.str (ts[i]) t) := by
      have hlt : i < vs.length := by rw [ht.length]; exact hi
      obtain ⟨a, t, e1, e2⟩ := texts_get ht (List.getElem?_eq_getElem hlt)
      rw [List.getElem?_eq_getElem hi] at e2
      cases e2
      exact ⟨t, by rw [List.getElem?_eq_getElem hlt, e1]⟩
    have hx : vs.toArray[i]? = some (.str (ts[i]) t) := by rw [List.getElem?_toArray]; exact hv
    have hd : ts.drop i = ts[i] :: ts.drop (i + 1) := List.drop_eq_getElem_cons hi
    refine codeAny_builtin entry_filter_next ?_
    rw [Around.under_plainId plain_filter_next _]
    show wpAny _ A.in1 (field (.ref z) 0 >>= _) _ _ s
    refine wpAny_bind (wpAny_field X.fil rfl (x := .ref q) rfl ?_)
    show wpAny _ _ (field (.ref z) 1 >>= _) _ _ s
    refine wpAny_bind (wpAny_field X.fil rfl (x := .ref it) rfl ?_)
    refine wpAny_bind (next_item? X.itr X.lst hx fun h' hit' hs' => ?_)
    have hk : ∀ b o, b ≠ it → s.heap.get? b = some o → h'.get? b = some o := fun b o hb e => hs'.extBut b o hb e
    have X' := X.keep D hk hit'
    refine wpAny_bind (wpAny_holding ?_)
    show wpAny _ _ (call (.ref q) [.str ts[i] t] >>= _) _ _ _
    refine wpAny_bind (call_setc X'.bnd X'.set ?_)
    refine wpAny_holding ?_
    show wpAny _ _ (truthy (.bool (S ts[i]))) _ _ _
    have H' := H.back (h' := h') (tk := s.toks + 1) hk
    refine wpAny_pure ?_
    cases hS : S ts[i] with
    | true =>
      rw [if_pos rfl]
      refine wpAny_pure ?_
      unfold FilPost at H'
      rw [hd, List.filter_cons_of_pos hS] at H'
      exact H' t h' (s.toks + 1) (i + 1) X' rfl fun b o _ e => e
    | false =>
      rw [if_neg Bool.false_ne_true]
      refine wpAny_pure ⟨plainId_quiet plain_filter_next _, ih (i + 1) _ (bn1 hm) X' ?_⟩
      unfold FilPost at H' ⊢
      rw [hd, List.filter_cons_of_neg (by rw [hS]; simp)] at H'
      exact H'
end
end
section
theorem off_SDq : True := by
  k_with_none
  trivial
open PySem PySem.W PyProof.Rows PySem.Calls
section
variable {prog : Program} {w : World} {A : Around} {E : Value → Shared → Prop} {z q it l a : Addr} {vs : List Value} {ts : List Str} {S : Str → Bool} {n : Nat}
noncomputable def FilSt (prog : Program) (w : World) (z q it l a : Addr) (vs : List Value) (ts : List Str) (S : Str → Bool) (n k : Nat) (s : Shared) : Prop :=
  ∃ i, FilAt prog w s.heap z q it l a vs.toArray S n i ∧ (ts.drop i).filter S = (ts.filter S).drop k
theorem FilSt.typeIs {k : Nat} {s : Shared} (X : FilSt prog w z q it l a vs ts S n k s) : s.TypeIs (.ref z) "filter" := let ⟨_, X, _⟩ := X; ⟨_, X.fil, rfl⟩
theorem walks_filter (ht : TextsAre vs ts) (D : FilOff z q it l a) (hh : A.handled = none) :
    WalksS prog w A z [z, q, it, l, a] [it] (fun a b => b = a) (ts.filter S).length (fun k v => ∃ t, v = .str ((ts.filter S).getD k "") t) (FilSt prog w z q it l a vs ts S n) where
  sub := fun b hb => by simp at hb; simp [hb]
  grefl := fun _ => rfl
  gtrans := fun _ _ _ h1 h2 => h2.trans h1
  frame := fun k s h' tk st _ hk => by
    obtain ⟨i, X, e⟩ := st
    obtain ⟨o, es, ep, t, ho, rest⟩ := X.set
    obtain ⟨ol, hol, rl⟩ := X.lst
    exact ⟨i, ⟨hk _ (by simp) _ X.fil, hk _ (by simp) _ X.bnd, ⟨o, es, ep, t, hk _ (by simp) _ ho, rest⟩, X.itr.at fun o e => hk it (by simp) o e, ⟨ol, hk _ (by simp) _ hol, rl⟩⟩, e⟩
  item := fun k s Q E hk st hQ => by
    have hT := st.typeIs
    obtain ⟨i, X, e⟩ := st
    refine wpAny_with_toks (Nat.le_refl s.toks) ?_
    unfold pyNext
    refine wpAny_bind (wpAny_attempt (wpAny_callSpecial?_slot (name := Str.ofString "__next__") hT slot_filter_next (wpAny_call ?_)))
    refine codeAny_call_builtin_code (plainId_quiet slot_filter_next.plain _) (slot_filter_next.check _ _ _ _ _ _ _ _ hT (args_filter_next_1 _) (filter_next_code ht D hh _ i s rfl X ?_))
    unfold FilPost
    rw [e, List.drop_eq_getElem_cons hk]
    dsimp only
    intro t h' tk j X' ej hkp
    refine wpAny_pure fun htk => (hQ _ _ ⟨t, by rw [List.getD_eq_getElem?_getD, List.getElem?_eq_getElem hk]; rfl⟩ ⟨j, X', ej⟩ ⟨fun b o hb eb => hkp b o (by simpa using hb) eb, rfl, rfl, rfl, htk⟩)
  done := fun s Q E st hQ => by
    have hT := st.typeIs
    obtain ⟨i, X, e⟩ := st
    refine wpAny_with_toks (Nat.le_refl s.toks) ?_
    unfold pyNext
    refine wpAny_bind (wpAny_attempt (wpAny_callSpecial?_slot (name := Str.ofString "__next__") hT slot_filter_next (wpAny_call ?_)))
    refine codeAny_call_builtin_code (plainId_quiet slot_filter_next.plain _) (slot_filter_next.check _ _ _ _ _ _ _ _ hT (args_filter_next_1 _) (filter_next_code ht D hh _ i s rfl X ?_))
    unfold FilPost
    rw [e, List.drop_of_length_le (Nat.le_refl _)]
    dsimp only
    intro h' tk er hkp he
    obtain ⟨o, ho, hc⟩ := he
    refine wpAny_bind (wpAny_isInstance (T := "StopIteration") (b := true) ⟨o, ho, hc⟩ isSubtype_stop ?_)
    refine wpAny_pure fun htk => (hQ _ ⟨fun b o hb eb => hkp b o (by simpa using hb) eb, rfl, rfl, rfl, htk⟩)
  self := fun k s Q E st hQ => by
    have hT := st.typeIs
    refine wpAny_pyIter_slot hT slot_filter_iter (wpAny_call_entry slot_filter_iter hT entry_filter_iter ?_ (args_filter_iter_1 _))
    show wpAny _ _ (ret (.ref z)) _ _ s
    exact wpAny_pure ⟨_, rfl, "filter", _, hT, slot_filter_next.lookup, hQ⟩
end
end
section
theorem off_SEq : True := by
  k_with_none
  trivial
open PySem PySem.W PyProof.Rows PySem.Calls
section
variable {prog : Program} {w : World} {A : Around} {s : Shared} {R : Result → Shared → Prop}
variable {I : Addr} {fp wr : List Addr} {G : Array GenState → Array GenState → Prop} {n : Nat} {P : Nat → Value → Prop} {St : Nat → Shared → Prop}
theorem extend_fil (W : WalksS prog w A.in1 I fp wr G n P St) (hT : ∀ i s, St i s → s.TypeIs (.ref I) "filter") (S : Addr) (res : Value) (c₀ : Nat) (hst : St 0 s) (hSf : S ∉ fp) (hI : I ∈ fp)
    (hS : s.heap.get? S = some { cls := .type "list", data := .seq #[] c₀ })
    (hR : ∀ s' acc' c', Moved (S :: wr) G s s' → s'.heap.get? S = some { cls := .type "list", dict := none, data := .seq acc' c', slots := #[] } → ItemsOf P acc' n → R (.ok (.ret res)) s') (hn : n ≤ sizeLine := by size_fits) :
    wpAny (model prog w) A.in1 (Builtin.List.listExtendWith (.ref S) (.ref I) res)
      (fun fin s' => match fin with | .done f => R (.ok f) s' | .again c' => c'.quiet = true ∧ codeAny (model prog w) A c' R s') (fun e s' => R (.error e) s') s := by
  have hSI : S ≠ I := fun e => hSf (e ▸ hI)
  unfold Builtin.List.listExtendWith
  refine wpAny_bind (wpAny_typeOf (hT 0 _ hst) ?_)
  have h1 : Builtin.List.listSameRef (.ref S) (.ref I) = false := by simp [Builtin.List.listSameRef, hSI]
  have h2 : (Value.type "filter" == Value.type "list") = false := by decide
  have h3 : (Value.type "filter" == Value.type "tuple") = false := by decide
  rw [h1, h2, h3, Bool.or_false, Bool.or_false, if_neg Bool.false_ne_true]
  refine wpAny_bind (W.self 0 _ _ _ hst ?_)
  refine wpAny_bind (wpAny_holding ?_)
  unfold Builtin.List.listLengthHint
  refine wpAny_bind (wpAny_specialOf (hT 0 _ hst) filter_no_len ?_)
  show wpAny _ A.in1 (specialOf (Value.ref I) (Str.ofString "__length_hint__") >>= _) _ _ _
  refine wpAny_bind (wpAny_specialOf (hT 0 _ hst) filter_no_hint ?_)
  refine wpAny_pure ?_
  show wpAny _ A.in1 (rule "list.extend.makes-room" >>= fun _ => Builtin.List.listTouch (.ref S) >>= fun _ =>
    again (.builtin "list.extend.loop" ⟨[.ref S, .ref I, res], []⟩)) _ _ _
  refine wpAny_bind (wpAny_rule ?_)
  refine wpAny_bind ?_
  show wpAny _ A.in1 (updateSeq S (·.push .none) >>= fun _ => updateSeq S (·.pop)) _ _ _
  refine wpAny_bind (wpAny_updateSeq hS rfl ?_)
  have hS₂ := Heap.get?_update_self (Obj.mapSeq (·.push Value.none)) hS rfl
  refine wpAny_updateSeq (hz := by seq_fits) hS₂ rfl ?_
  have hS₃ := Heap.get?_update_self (Obj.mapSeq (·.pop)) hS₂ rfl
  have oth : ∀ b o, b ≠ S → s.heap.get? b = some o → ((s.heap.update S (Obj.mapSeq (·.push Value.none))).update S (Obj.mapSeq (·.pop))).get? b = some o :=
    fun b o hb e => (Heap.get?_update_other _ _ (Ne.symm hb)).trans ((Heap.get?_update_other _ _ (Ne.symm hb)).trans e)
  refine wpAny_pure ⟨plainId_quiet PySem.F.plain_extend_loop _, codeAny_extend_loopS W hn _ hSf _ n 0 _ _ _ rfl (Nat.zero_le _)
    (W.frame 0 s _ s.toks hst (Nat.le_refl _) fun b hb o e => oth b o (fun h => hSf (h ▸ hb)) e) hS₃ (ItemsOf.nil P) fun s' acc' c' hm hS' hacc => ?_⟩
  exact hR s' acc' c' (Moved.trans W.gtrans ((Moved.refl W.grefl).then_heap (Nat.le_refl _) fun b o hb e => oth b o (fun h => hb (h ▸ List.mem_cons_self)) e) hm) hS' hacc
theorem list_init_fil (W : WalksS prog w A.in1 I fp wr G n P St) (hT : ∀ i s, St i s → s.TypeIs (.ref I) "filter") (S : Addr) (hst : St 0 s) (hSf : S ∉ fp) (hI : I ∈ fp)
    (hS : s.heap.get? S = some { cls := .type "list", data := .seq #[] })
    (hR : ∀ s' acc' c', Moved (S :: wr) G s s' → s'.heap.get? S = some { cls := .type "list", dict := none, data := .seq acc' c', slots := #[] } → ItemsOf P acc' n → R (.ok (.ret .none)) s') (hn : n ≤ sizeLine := by size_fits) :
    wpAny (model prog w) A.in1 (Builtin.«list.__init__» ⟨[.ref S, .ref I], []⟩)
      (fun fin s' => match fin with | .done f => R (.ok f) s' | .again c' => c'.quiet = true ∧ codeAny (model prog w) A c' R s') (fun e s' => R (.error e) s') s := by
  show wpAny _ A.in1 (do let old ← Builtin.List.listItems (.ref S); Builtin.List.listUpdate (.ref S) (fun _ => #[]); letGo old.toList.reverse; Builtin.List.listExtendWith (.ref S) (.ref I) .none) _ _ s
  refine wpAny_bind ?_
  unfold Builtin.List.listItems
  refine wpAny_bind (wpAny_seqItems hS rfl (wpAny_pure ?_))
  show wpAny _ A.in1 (updateSeq S (fun _ => #[]) >>= fun _ => letGo (#[] : Array Value).toList.reverse >>= fun _ => Builtin.List.listExtendWith (.ref S) (.ref I) .none) _ _ s
  refine wpAny_bind (wpAny_updateSeq hS rfl ?_)
  have hS₂ := Heap.get?_update_self (Obj.mapSeq (fun _ => (#[] : Array Value))) hS rfl
  have oth : ∀ b o, b ≠ S → s.heap.get? b = some o → (s.heap.update S (Obj.mapSeq (fun _ => (#[] : Array Value)))).get? b = some o :=
    fun b o hb e => (Heap.get?_update_other _ _ (Ne.symm hb)).trans e
  refine wpAny_bind (wpAny_letGo ?_)
  refine extend_fil (hn := hn) W hT S .none _ (W.frame 0 s _ s.toks hst (Nat.le_refl _) fun b hb o e => oth b o (fun h => hSf (h ▸ hb)) e) hSf hI hS₂ fun s' acc' c' hm hS' hacc => ?_
  exact hR s' acc' c' (Moved.trans W.gtrans ((Moved.refl W.grefl).then_heap (Nat.le_refl _) fun b o hb e => oth b o (fun h => hb (h ▸ List.mem_cons_self)) e) hm) hS' hacc
end
section
variable {prog : Program} {w : World} {A : Around} {E : Value → Shared → Prop} {s : Shared}
variable {I : Addr} {fp wr : List Addr} {G : Array GenState → Array GenState → Prop} {n : Nat} {P : Nat → Value → Prop} {St : Nat → Shared → Prop}
theorem call_list_fil {Q : Value → Shared → Prop} (W : WalksS prog w A.in1.in1 I fp wr G n P St) (hT : ∀ i s, St i s → s.TypeIs (.ref I) "filter") (hst : St 0 s) (hfp : ∀ b ∈ fp, b < s.heap.objs.size) (hI : I ∈ fp)
    (hQ : ∀ s' acc' c', Moved (s.heap.objs.size :: wr) G { s with heap := s.heap.push { cls := .type "list", data := .seq #[] } } s' →
      s'.heap.get? s.heap.objs.size = some { cls := .type "list", dict := none, data := .seq acc' c', slots := #[] } → ItemsOf P acc' n → Q (.ref s.heap.objs.size) s') (hn : n ≤ sizeLine := by size_fits) :
    wpAny (model prog w) A (call (.type "list") [.ref I]) Q E s := by
  have hSf : s.heap.objs.size ∉ fp := fun hm => Nat.lt_irrefl _ (hfp _ hm)
  refine callType_codes (Q₁ := fun obj s₁ => obj = .ref s.heap.objs.size ∧ s₁ = { s with heap := s.heap.push { cls := .type "list", data := .seq #[] } }) PySem.F.called_list (PySem.F.typeCall_list_1 _) PySem.F.entry_list_init
    (code_list_new _ ⟨rfl, rfl⟩) fun obj s₁ h₁ => ?_
  obtain ⟨rfl, rfl⟩ := h₁
  have hS : (s.heap.push { cls := .type "list", data := .seq #[] }).get? s.heap.objs.size = some { cls := .type "list", data := .seq #[] } := Heap.get?_push_size _ rfl
  refine ⟨⟨_, hS, rfl⟩, PySem.F.args_list_init_2 _ _, list_init_fil (hn := hn) W hT _ (W.frame 0 s _ s.toks hst (Nat.le_refl _) fun b _ o e => Heap.get?_push_of_some _ e) hSf hI hS fun s' acc' c' hm hS' hacc => ?_⟩
  exact ⟨rfl, hQ s' acc' c' hm hS' hacc⟩
end
noncomputable abbrev liO (l : Addr) : Obj := { cls := .type "list_iterator", data := .fields #[.ref l, .int 0 0] }
section
variable {prog : Program} {w : World} {A : Around} {E : Value → Shared → Prop} {s : Shared} {h₀ : Heap} {L : Addr} {m : Str → Option Value} {news : List (Addr × Obj)}
theorem filter_K {q l : Addr} {vs : List Value} {n : Nat} {Q : Value → Shared → Prop} (F : Fr h₀ L s.heap m) (N : News h₀ L s.heap news) (hl : (l, lsO vs n) ∈ news)
    (h : ∀ z it h' tk, Fr h₀ L h' m → News h₀ L h' ((z, filO q it) :: (it, liO l) :: news) → (∀ p ∈ news, p.1 < it) → it < z → Q (.ref z) { s with heap := h', toks := tk }) :
    wpAny (model prog w) A (call (.type "filter") [.ref q, .ref l]) Q E s := by
  refine call_filter (xs := vs.toArray) ⟨_, (N _ hl).1, rfl, n, rfl⟩ ?_
  obtain ⟨F1, N1, l1⟩ := ks_newsPush (o := liO l) F N rfl (Heap.get?_push_at rfl rfl) (fun b o e => Heap.get?_push_of_some _ e)
  obtain ⟨F2, N2, l2⟩ := ks_newsPush (s := { s with heap := s.heap.push (liO l) }) (o := filO q s.heap.objs.size) F1 N1 rfl (Heap.get?_push_at rfl rfl) (fun b o e => Heap.get?_push_of_some _ e)
  have z1 : (s.heap.push (liO l)).objs.size = s.heap.objs.size + 1 := Heap.size_push ..
  dsimp only at N2
  rw [z1] at N2
  exact h _ _ _ s.toks F2 N2 l1 (Nat.lt_succ_self _)
theorem listfil_K {z q it l a : Addr} {vs : List Value} {ts : List Str} {n c : Nat} {oset : Obj} {S : Str → Bool} {Q : Value → Shared → Prop} (F : Fr h₀ L s.heap m) (N : News h₀ L s.heap ((z, filO q it) :: (it, liO l) :: news)) (hh : A.handled = none)
    (hq : (q, boundB "builtin_function_or_method" "set.__contains__" (.ref a)) ∈ news) (ha : (a, oset) ∈ news) (hS : oset.SetObjOf (strKind prog w) S c) (hc : c ≤ 1000) (hl : (l, lsO vs n) ∈ news) (ht : TextsAre vs ts) (hz : ts.length ≤ 1000)
    (hlt : ∀ p ∈ news, p.1 < it) (hiz : it < z)
    (h : ∀ D h' tk us nu, Fr h₀ L h' m → News h₀ L h' ((D, lsO us nu) :: news) → TextsAre us (ts.filter S) → (∀ p ∈ news, p.1 < D) → Q (.ref D) { s with heap := h', toks := tk }) :
    wpAny (model prog w) A (call (.type "list") [.ref z]) Q E s := by
  have hNz := N (z, filO q it) (by simp)
  have hNi := N (it, liO l) (by simp)
  have sub : ∀ p ∈ news, p ∈ (z, filO q it) :: (it, liO l) :: news := fun p hp => by simp [hp]
  have hNq := N _ (sub _ hq)
  have hNa := N _ (sub _ ha)
  have hNl := N _ (sub _ hl)
  have D : FilOff z q it l a := ⟨Nat.ne_of_gt hiz, Nat.ne_of_lt (hlt _ hq), Nat.ne_of_lt (hlt _ ha), Nat.ne_of_lt (hlt _ hl)⟩
  have hst : FilSt prog w z q it l a vs ts S c 0 s := ⟨0, ⟨hNz.1, hNq.1, hS.setOf hNa.1 (by unfold scanBound; omega), ⟨_, hNi.1, rfl, rfl⟩, ⟨_, hNl.1, rfl, n, rfl⟩⟩, by simp⟩
  have hfl : (ts.filter S).length ≤ ts.length := List.length_filter_le ..
  refine call_list_fil (walks_filter ht D (by simpa using hh)) (fun _ _ st => st.typeIs) hst (fun b hb => ?_) (by simp) (fun s' acc c' hm hD hacc => ?_) (by unfold sizeLine; omega)
  · simp only [List.mem_cons, List.not_mem_nil, or_false] at hb
    rcases hb with rfl | rfl | rfl | rfl | rfl
    · exact Heap.lt_size hNz.1
    · exact Heap.lt_size hNq.1
    · exact Heap.lt_size hNi.1
    · exact Heap.lt_size hNl.1
    · exact Heap.lt_size hNa.1
  · obtain ⟨h', g', d', tk', os'⟩ := s'
    have eg : g' = s.gens := hm.gens
    have ed : d' = s.drawn := hm.drawn
    have eo : os' = s.os := hm.os
    subst eg; subst ed; subst eo
    have hk : ∀ b o, b ≠ it → s.heap.get? b = some o → h'.get? b = some o := fun b o hb e =>
      hm.heap b o (by simp only [List.mem_cons, List.not_mem_nil, or_false, not_or]; exact ⟨Nat.ne_of_lt (Heap.lt_size e), hb⟩) (Heap.get?_push_of_some _ e)
    have hLi : L ≠ it := Ne.symm hNi.2.1
    have h0i : ∀ b o, h₀.get? b = some o → b ≠ it := fun b o e hb => by subst hb; rw [hNi.2.2] at e; cases e
    refine h _ h' tk' acc.toList c' ⟨F.ns.at' fun o' e => hk L o' hLi e, fun b o' e => hk b o' (h0i b o' e) (F.keep b o' e), F.above⟩ (fun p hp => ?_) (texts_of (by simp [hacc.1]) fun i v hv => ?_) fun p hp => Heap.lt_size (N _ (sub _ hp)).1
    · rcases List.mem_cons.mp hp with rfl | hp
      · refine ⟨by simpa [lsO] using hD, Nat.ne_of_gt F.ns.lt, ?_⟩
        cases hq' : h₀.get? s.heap.objs.size with
        | none => rfl
        | some o' => exact absurd (Heap.lt_size (F.keep _ _ hq')) (Nat.lt_irrefl _)
      · have hp' := N _ (sub _ hp)
        exact ⟨hk _ _ (Nat.ne_of_lt (hlt _ hp)) hp'.1, hp'.2⟩
    · have hv' : acc[i]? = some v := by simpa using hv
      obtain ⟨t, rfl⟩ := hacc.2 i v hv'
      have hil : i < (ts.filter S).length := by
        have := (Array.getElem?_eq_some_iff.mp hv').1
        rw [hacc.1] at this; exact this
      exact ⟨_, t, by rw [List.getD_eq_getElem?_getD, List.getElem?_eq_getElem hil]; rfl, rfl⟩
end
end
section
theorem off_SFq : True := by
  k_with_none
  trivial
open PySem PySem.W PyProof.Rows PySem.Calls
theorem TextsAre.append {vs ws : List Value} {ts us : List Str} (h : TextsAre vs ts) (g : TextsAre ws us) : TextsAre (vs ++ ws) (ts ++ us) := by
  obtain ⟨l, rfl, rfl⟩ := h
  obtain ⟨k, rfl, rfl⟩ := g
  exact ⟨l ++ k, by simp [strValues], by simp⟩
section
variable {prog : Program} {w : World} {A : Around} {E : Value → Shared → Prop} {s : Shared} {h₀ : Heap} {L : Addr} {m : Str → Option Value} {news : List (Addr × Obj)}
theorem addls_K {l b : Addr} {vs ws : List Value} {ts us : List Str} {n n2 : Nat} {Q : Value → Shared → Prop} (F : Fr h₀ L s.heap m) (N : News h₀ L s.heap news) (hl : (l, lsO vs n) ∈ news) (hb : (b, lsO ws n2) ∈ news)
    (ht : TextsAre vs ts) (hu : TextsAre ws us) (hz : ts.length + us.length ≤ 1000)
    (h : ∀ D h', Fr h₀ L h' m → News h₀ L h' ((D, lsO (vs ++ ws) 0) :: news) → TextsAre (vs ++ ws) (ts ++ us) → (∀ p ∈ news, p.1 < D) → Q (.ref D) { s with heap := h' }) :
    wpAny (model prog w) A (binaryOp .Add (.ref l) (.ref b)) Q E s :=
  add_lists (hsz := by rw [ht.length, hu.length, sizeLine_eq]; omega) F N ⟨_, (N _ hl).1, rfl, n, rfl⟩ ⟨_, (N _ hb).1, rfl, n2, rfl⟩ fun h' F' N' => h _ h' F' N' (ht.append hu) fun p hp => Heap.lt_size (N p hp).1
end
end
section
theorem off_SGq : True := by
  k_with_none
  trivial
open PySem PySem.W PyProof.Rows PySem.Calls
noncomputable def Hold (P : Prop) : Prop := P
theorem hold {P : Prop} (h : Hold P) : P := h
section
variable {prog : Program} {w : World} {A : Around} {E : Value → Shared → Prop} {s : Shared} {h₀ : Heap} {L : Addr} {m : Str → Option Value} {news : List (Addr × Obj)}
end
section
variable {prog : Program} {w : World} {A : Around} {E : Value → Shared → Prop} {s : Shared} {h₀ : Heap} {env : Env} {m0 : Str → Option Value} {news0 : List (Addr × Obj)} {wl : Addr} {wvs : List Value} {n : Nat} {x : Str} {px pos : Pos} {iter : PySem.Expr} {body : List Stmt} {Q : Flow → Shared → Prop}
end
end
section
theorem off_CQq : True := by
  k_with_none
  trivial
open PySem PySem.W PyProof.Rows PySem.Calls
theorem on_CQq0 : True := by
 k_with_none
 k_with "li" => ((try simp only [List.length_nil, List.length_append, List.length_cons, ptV_length]); k_extra "om")
 k_with "ax" => first | assumption | exact ja0 ‹_› | exact ja1 ‹_› | exact je1 ‹_› | exact ja2 ‹_› | exact ja3 ‹_› | exact ja4 ‹_› | exact ja5 ‹_› | exact je5 ‹_› | exact ja6 ‹_› | exact ja7 ‹_› | exact je7 ‹_› | exact ja8 ‹_› | exact ja9 ‹_› | exact je13 ‹_› | exact je14 ‹_›
 k_with "nx" => with_reducible (first | (refine Nat.ne_of_lt ?_; (repeat (first | exact js | refine jl ?_)); all_goals k_extra "ax") | (refine Nat.ne_of_gt ?_; (repeat (first | exact js | refine jl ?_)); all_goals k_extra "ax") | k_extra "ax" | (refine Ne.symm ?_; k_extra "ax"))
 k_with "rm" => ((with_reducible first | exact room0 ‹_› | refine room1 ‹_› ?_ | refine room2 ‹_› ?_ | refine room3 ‹_› ?_ | refine room4 ‹_› ?_); all_goals exact rfl)
 k_with "om" => first | (with_reducible first | k_extra "ax" | exact jn ‹_› | exact jn (ja0 ‹_›) | (refine Nat.lt_trans ?_ ‹_›; k_extra "ax")) | decide | omega
 k_with "q:k_ne" => (refine neN ?_; (try dsimp only); first | k_extra "nx" | omega)
 k_with "q:sub9" => row_timed "f" (fail; (repeat' (first | (refine fm (by k_mem) ?_) | exact List.forall_mem_nil _ | (intro pZ hpZ; (repeat (first | with_reducible_and_instances exact hpZ | with_reducible_and_instances exact List.mem_append_right _ hpZ | refine List.Mem.tail _ ?_)); done) | exact fun _ hpZ => hpZ | (intro pZ hpZ; (repeat (first | exact hpZ | exact List.mem_append_right _ hpZ | refine List.Mem.tail _ ?_))))))
 trivial
section
variable {prog : Program} {w : World} {A : Around} {E : Value → Shared → Prop} {s : Shared} {h₀ : Heap} {L : Addr} {m : Str → Option Value} {news : List (Addr × Obj)}
theorem getset_K {a : Addr} {oset : Obj} {S : Str → Bool} {c : Nat} {Q : Value → Shared → Prop} (F : Fr h₀ L s.heap m) (N : News h₀ L s.heap news) (ha : (a, oset) ∈ news) (hS : oset.SetObjOf (strKind prog w) S c)
   (h : ∀ q h', Fr h₀ L h' m → News h₀ L h' ((q, boundB "builtin_function_or_method" "set.__contains__" (.ref a)) :: news) → (∀ p ∈ news, p.1 < q) → Q (.ref q) { s with heap := h', toks := s.toks + 1 }) :
   wpAny (model prog w) A (getAttr (.ref a) "__contains__" true) Q E s := by
  obtain ⟨hx, es, ep, t, hdat, -⟩ := hS
  obtain ⟨hh, g, d, tk, os⟩ := s
  refine getAttr_setc (N _ ha).1 hx.1 hx.2.1 hdat ?_
  obtain ⟨F1, N1, l1⟩ := ks_newsPush (s := ⟨hh, g, d, tk, os⟩) (o := boundB "builtin_function_or_method" "set.__contains__" (.ref a)) F N rfl (Heap.get?_push_at rfl rfl) (fun b o e => Heap.get?_push_of_some _ e)
  exact h _ _ F1 N1 l1
end
theorem on_CQq1 : True := by
 k_with "q:k_room" => row_timed "f" (fail; ((try simp only [depth_under_make, depth_under_kw, depth_in1, depth_deeper]); (try dsimp only); first | k_extra "rm" | omega))
 k_with "q:k_units" => row_timed "f" (fail; ((try simp only [Around.deeper_units, Around.in1_units, Around.mark_units]); (try dsimp only); first | k_extra "rm" | omega))
 k_with "q:k_mem" => row_timed "f" (fail; (with_reducible_and_instances (repeat (first | exact List.Mem.head _ | refine List.Mem.tail _ ?_)); done))
 k_with "q:k_ne" => (refine neN ?_; (try dsimp only); first | exact Ap.ne (by assumption) | exact Ne.symm (Ap.ne (by assumption)) | k_extra "nx" | omega)
 k_with "q:LenBack" => row_timed "f" (fail; ((dsimp only [W.LenBack]); refine ⟨⟨by k_extra "om", by k_extra "om"⟩, ?_⟩))
 k_with "q:NeBack" => row_timed "f" (fail; ((dsimp only [NeBack]); rw [ne_tt (by k_extra "om")]))
 k_with "q:StrBack" => row_timed "f" (fail; (dsimp only [W.StrBack]))
 k_with "q:call type:set" => row_timed "f" (fail; (k_here; k_dflt (refine' set_K ?FZ ?NZ ?hhZ ?hlZ ?htZ ?hbZ ?_; (case FZ | NZ => k_asm); (case hhZ => rfl); (case hlZ => k_mem); (case htZ => k_asm); (case hbZ => (k_extra "li")); k_whole); intro a'Z h'Z tk'Z o'Z c'Z F'Z N'Z hS'Z hc'Z l1Z; (try k_lt l1Z); (try k_sweep)))
 k_with "q:getAttr ref" => row_timed "f" (fail; (k_here; (with_reducible show wpAny _ _ (getAttr (Value.ref _) (Str.ofString "__contains__") _) _ _ _); k_dflt (refine' getset_K ?FZ ?NZ ?haZ ?hSZ ?_; (case FZ | NZ | hSZ => k_asm); (case haZ => k_mem); k_whole); intro q'Z h'Z F'Z N'Z l1Z; (try k_lt l1Z); (try k_sweep)))
 k_with "q:call type:filter" => row_timed "f" (fail; (k_here; k_dflt (refine' filter_K ?FZ ?NZ ?hlZ ?_; (case FZ | NZ => k_asm); (case hlZ => k_mem); k_whole); intro z'Z i'Z h'Z tk'Z F'Z N'Z l1Z l2Z; (have l1'Z := l1Z); (try k_lt l1Z); (try k_sweep)))
 k_with "q:call type:list" => row_timed "f" (fail; (k_here; k_dflt (refine' listfil_K ?FZ ?NZ ?hhZ ?hqZ ?haZ ?hSZ ?hcZ ?hlZ ?htZ ?hzZ ?hltZ ?hizZ ?_; (case FZ | NZ => k_asm); (case hhZ => rfl); (case hSZ => k_asm); (case hcZ => assumption); (case hqZ | haZ | hlZ => k_mem); (case htZ => k_asm); (case hzZ => (k_extra "li")); (case hltZ | hizZ => assumption); k_whole); intro D'Z h'Z tk'Z us'Z nu'Z F'Z N'Z hT'Z l1Z; (try k_lt l1Z); (try k_sweep)))
 k_with "q:binaryOp Add ref ref" => row_timed "f" (fail; (k_here; k_dflt (refine' addls_K ?FZ ?NZ ?hlZ ?hbZ ?htZ ?huZ ?hzZ ?_; (case FZ | NZ => k_asm); (case hlZ | hbZ => k_mem); (case htZ | huZ => k_asm); (case hzZ => (k_extra "li")); k_whole); intro D'Z h'Z F'Z N'Z hT'Z l1Z; (try k_lt l1Z); (try k_sweep)))
 trivial
section
variable {w : World} {A₀ : Around} {base h₀ : Heap} {env : Env} {outer : List Env} {dd uu : Nat} {gs : Option (List Code)} {L : Addr} {m mg mb : Str → Option Value} {s : Shared} {own : List (Addr × Obj)} {p : Program} {loose : List Str} {mean : ExcName → Option Value} {Q : Value → Shared → Prop} {E : Value → Shared → Prop}
  (B : Below A₀ base outer h₀) (F : Fr h₀ L s.heap m) (KX : (Mine.hd.heap_1 w.params).In h₀) (T : Top p loose mean mg mb h₀) (hf : env.frame = some L) (hke : env.scope.kind = .function)
include B F KX T hf hke
variable {e1 d1 a1 r1 e2 d2 a2 r2 : Addr} {t1 t2 t3 t4 u1 u2 u3 u4 : Tok} {va1 vr1 va2 vr2 : List Value} {n1 n2 n3 n4 : Nat} {A1 R1 A2 R2 : List Str}
end
end
section
theorem off_CSq : True := by
  k_with_none
  trivial
open PySem PySem.W PyProof.Rows PySem.Calls
noncomputable def EntIn (P : Params) (news : List (Addr × Obj)) (e : Addr) (A R : List Str) : Prop :=
  ∃ d t1 t2 t3 t4 ua ru us nu rs nr, (e, instObj 59 d) ∈ news ∧ (d, entD P t1 t2 t3 t4 ua ru) ∈ news ∧ (ua, lsO us nu) ∈ news ∧ (ru, lsO rs nr) ∈ news ∧ TextsAre us A ∧ TextsAre rs R
theorem EntIn.mono {P : Params} {news news' : List (Addr × Obj)} {e : Addr} {A R : List Str} (H : EntIn P news e A R) (h : ∀ p ∈ news, p ∈ news') : EntIn P news' e A R := by
  obtain ⟨d, t1, t2, t3, t4, ua, ru, us, nu, rs, nr, h1, h2, h3, h4, h5, h6⟩ := H
  exact ⟨d, t1, t2, t3, t4, ua, ru, us, nu, rs, nr, h _ h1, h _ h2, h _ h3, h _ h4, h5, h6⟩
section
variable {w : World} {A₀ : Around} {base h₀ : Heap} {env : Env} {outer : List Env} {dd uu : Nat} {gs : Option (List Code)} {L : Addr} {m mg mb : Str → Option Value} {s : Shared} {own : List (Addr × Obj)} {p : Program} {loose : List Str} {mean : ExcName → Option Value} {Q : Value → Shared → Prop} {E : Value → Shared → Prop}
  (B : Below A₀ base outer h₀) (F : Fr h₀ L s.heap m) (KX : (Mine.hd.heap_1 w.params).In h₀) (T : Top p loose mean mg mb h₀) (hf : env.frame = some L) (hke : env.scope.kind = .function)
include B F KX T hf hke
end
end
section
theorem off_UAq : True := by
  k_with_none
  trivial
open PySem PySem.W PyProof.Rows PySem.Calls
noncomputable abbrev itO (it : Addr) : Obj := { cls := .type "tuple", data := .seq #[.ref it] }
noncomputable def mapO (q : Value) (T : Addr) : Obj := { cls := .type "map", data := .fields #[.ref T, q] }
section
variable {prog : Program} {w : World} {A : Around} {E : Value → Shared → Prop} {s : Shared}
end
structure MapAt (h : Heap) (z T it l : Addr) (xs : Array Value) (i : Nat) : Prop where
  mp : h.get? z = some (mapO (.type "str") T)
  tup : h.get? T = some (itO it)
  itr : h.IsListIter it l i
  lst : h.IsList l xs
structure MapOff (z T it l : Addr) : Prop where
  z : z ≠ it
  T : T ≠ it
  l : l ≠ it
theorem MapAt.keep {h h' : Heap} {z T it l : Addr} {xs : Array Value} {i j : Nat} (X : MapAt h z T it l xs i) (D : MapOff z T it l)
    (hk : ∀ b o, b ≠ it → h.get? b = some o → h'.get? b = some o) (hi : h'.IsListIter it l j) : MapAt h' z T it l xs j := by
  obtain ⟨ol, hol, rl⟩ := X.lst
  exact ⟨hk _ _ D.z X.mp, hk _ _ D.T X.tup, hi, ⟨ol, hk _ _ D.l hol, rl⟩⟩
section
variable {prog : Program} {w : World} {A : Around} {E : Value → Shared → Prop} {s : Shared} {z T it l : Addr} {vs : List Value} {ts : List Str}
end
end
section
theorem off_UBq : True := by
  k_with_none
  trivial
open PySem PySem.W PyProof.Rows PySem.Calls
section
variable {prog : Program} {w : World} {A : Around} {E : Value → Shared → Prop} {z T it l : Addr} {vs : List Value} {ts : List Str}
noncomputable def MapSt (z T it l : Addr) (vs : List Value) (k : Nat) (s : Shared) : Prop := MapAt s.heap z T it l vs.toArray k
theorem MapSt.typeIs {k : Nat} {s : Shared} (X : MapSt z T it l vs k s) : s.TypeIs (.ref z) "map" := ⟨_, X.mp, rfl⟩
end
section
variable {prog : Program} {w : World} {A : Around} {s : Shared} {R : Result → Shared → Prop}
variable {I : Addr} {fp wr : List Addr} {G : Array GenState → Array GenState → Prop} {n : Nat} {P : Nat → Value → Prop} {St : Nat → Shared → Prop}
end
section
variable {prog : Program} {w : World} {A : Around} {E : Value → Shared → Prop} {s : Shared} {h₀ : Heap} {L : Addr} {m : Str → Option Value} {news : List (Addr × Obj)}
end
end
section
theorem off_VAq : True := by
  k_with_none
  trivial
open PySem PySem.W PyProof.Rows PySem.Calls
noncomputable def Apart (I C D : Addr) (news : List (Addr × Obj)) : Prop := ∀ p ∈ news, @Ne Nat p.1 I ∧ @Ne Nat p.1 C ∧ @Ne Nat p.1 D
structure Three (I C D : Addr) : Prop where
  ic : @Ne Nat I C
  id : @Ne Nat I D
  cd : @Ne Nat C D
noncomputable def EndG (h₀ : Heap) (L : Addr) (m : Str → Option Value) (I : Addr) (oI : Obj) (C : Addr) (oC : Obj) (D : Addr) (ys : List Value) (src J : List (Addr × Obj) → Prop) (s₁ s₄ : Shared) : Prop :=
  ∃ h' tk gs news', s₄ = { s₁ with heap := h', toks := tk, gens := gs } ∧ AllBare gs ∧ Fr h₀ L h' m ∧ News h₀ L h' ((I, oI) :: (C, oC) :: (D, lsO ys ys.length) :: news') ∧ Apart I C D news' ∧ src news' ∧ J news'
structure SrcW (prog : Program) (w : World) (A : Around) (h₀ : Heap) (L : Addr) (xv : Value) (s₁ : Shared) (n : Nat) (P : Nat → Value → Prop) (src : List (Addr × Obj) → Prop) (o : Obj) (fp : List Addr) (St : Nat → Heap → Prop) : Prop where
  walks : Walks prog w A s₁.heap.objs.size fp [s₁.heap.objs.size] n P St
  it : ∀ {Q : Value → Shared → Prop} {E : Value → Shared → Prop}, Q (.ref s₁.heap.objs.size) { s₁ with heap := s₁.heap.push o } → wpAny (model prog w) A (pyIter xv) Q E s₁
  st : St 0 (s₁.heap.push o)
  fp : ∀ b ∈ fp, b < s₁.heap.objs.size + 1
  io : ∀ i h, St i h → ∃ o, h.get? s₁.heap.objs.size = some o
  keep : ∀ i h h' o nw, St i h → h.get? s₁.heap.objs.size = some o → h'.get? s₁.heap.objs.size = some o → News h₀ L h' nw → src nw → St i h'
  size : n ≤ sizeLine
  go : ∀ i (s : Shared) target v {Q : Unit → Shared → Prop} {E : Value → Shared → Prop}, St i s.heap → Q () s → wpAny (model prog w) A (letOwnedTupleGo target (.ref s₁.heap.objs.size) v) Q E s
noncomputable def AsgX (prog : Program) (w : World) (A : Around) (h₀ : Heap) (L : Addr) (target : PySem.Expr) (cenv : Env) (X : List Addr) (B : Value → List (Str × Value) → List (Addr × Obj) → List (Addr × Obj) → Prop) : Prop :=
  ∀ v bs news news' (s : Shared) mC (Q : Unit → Shared → Prop) (E : Value → Shared → Prop), B v bs news news' → News h₀ L s.heap news → s.heap.Ns cenv.locals mC → (∀ p ∈ news, p.1 ≠ cenv.locals) →
    (∀ h' tk mC', h'.Ns cenv.locals mC' → (∀ z y, bs.lookup z = some y → mC' z = some y) → (∀ c o, c ≠ cenv.locals → c ∉ X → s.heap.get? c = some o → h'.get? c = some o) → (∀ p ∈ news', (p.1 ∉ X ∧ p ∈ news) ∨ (p.1 ∈ X ∧ h'.get? p.1 = some p.2)) → Q () { s with heap := h', toks := tk }) →
    wpAny (model prog w) A (assign target cenv v) Q E s
noncomputable def lift3 (B : Value → List (Str × Value) → List (Addr × Obj) → Prop) (v : Value) (bs : List (Str × Value)) (news news' : List (Addr × Obj)) : Prop := B v bs news ∧ news' = news
noncomputable def Asg (prog : Program) (w : World) (A : Around) (h₀ : Heap) (L : Addr) (target : PySem.Expr) (cenv : Env) (B : Value → List (Str × Value) → List (Addr × Obj) → Prop) : Prop :=
  ∀ v bs news (s : Shared) mC (Q : Unit → Shared → Prop) (E : Value → Shared → Prop), B v bs news → News h₀ L s.heap news → s.heap.Ns cenv.locals mC →
    (∀ h' tk mC', h'.Ns cenv.locals mC' → (∀ z y, bs.lookup z = some y → mC' z = some y) → (∀ c o, c ≠ cenv.locals → s.heap.get? c = some o → h'.get? c = some o) → Q () { s with heap := h', toks := tk }) → wpAny (model prog w) A (assign target cenv v) Q E s
theorem Asg.lift {prog : Program} {w : World} {A : Around} {h₀ : Heap} {L : Addr} {target : PySem.Expr} {cenv : Env} {B : Value → List (Str × Value) → List (Addr × Obj) → Prop} (H : Asg prog w A h₀ L target cenv B) : AsgX prog w A h₀ L target cenv [] (lift3 B) := by
  rintro v bs news news' s mC Q E ⟨hb, rfl⟩ N hn off h
  exact H v bs news' s mC Q E hb N hn fun h' tk mC' hn' hbs hk => h h' tk mC' hn' hbs (fun c o hc _ e => hk c o hc e) fun p hp => .inl ⟨by simp, hp⟩
noncomputable abbrev BName (x : Str) (v : Value) (bs : List (Str × Value)) (_ : List (Addr × Obj)) : Prop := bs = [(x, v)]
section
variable {prog : Program} {w : World} {A : Around} {h₀ : Heap} {L : Addr}
theorem lk {u a : Str} {x : Value} {r : List (Str × Value)} : List.lookup u ((a, x) :: r) = if u = a then some x else List.lookup u r := by
  rw [List.lookup_cons]
  by_cases q : u = a
  · rw [if_pos q, q, beq_self_eq_true]
  · rw [if_neg q, beq_eq_false_iff_ne.mpr q]
theorem cnok {scope : Scope} {cl : List (Str × Addr)} {C : Addr} {env : Env} (hkind : scope.kind = .function) : ((compEnvC scope cl C env).scope.kind == .class || ((compEnvC scope cl C env).scope.kind == .module && (compEnvC scope cl C env).locals != (compEnvC scope cl C env).globals)) = false := by
  have e : (compEnvC scope cl C env).scope.kind = .function := hkind
  rw [e]
  rfl
theorem asg_name {x : Str} {px : Pos} {scope : Scope} {cl : List (Str × Addr)} {C : Addr} {env : Env} (hkind : scope.kind = .function) (hx : scope.names.lookup x = some .local) : Asg prog w A h₀ L (.Name x px) (compEnvC scope cl C env) (BName x) := by
  rintro v bs news s mC Q E rfl N hn h
  refine wpAny_assign_Name (wpAny_storeName_local (lookup_relabel_local hx) hn (fun h₂ hn₂ hs₂ => ?_) (cnok hkind))
  refine h h₂ _ _ hn₂ (fun z y hz => ?_) fun c o hc e => hs₂.extBut c o hc e
  rw [lk] at hz
  show (if z = x then some v else mC z) = some y
  by_cases q : z = x
  · rw [if_pos q] at hz ⊢; exact hz
  · rw [if_neg q] at hz; cases hz
theorem letgo_ok {s : Shared} {I : Addr} {o : Obj} {n : String} {target : PySem.Expr} {v : Value} {Q : Unit → Shared → Prop} {E : Value → Shared → Prop} (ho : s.heap.get? I = some o) (hc : o.cls = .type n)
    (hn : ["enumerate", "zip", "dict_itemiterator", "dict_reverseitemiterator", "odict_iterator", "itertools.zip_longest", "itertools.pairwise"].contains n = false) (h : Q () s) : wpAny (model prog w) A (letOwnedTupleGo target (.ref I) v) Q E s := by
  obtain ⟨cls, d, data, sl⟩ := o
  have hc' : cls = .type n := hc
  subst hc'
  have key : ∀ ts k p, wpAny (model prog w) A (letOwnedTupleGo (.Tuple ts k p) (.ref I) v) Q E s := by
    intro ts k p
    cases v with
    | ref a =>
      show wpAny _ _ (load I >>= _) _ _ _
      refine wpAny_bind (wpAny_load ho ?_)
      cases data with
      | fields vs =>
        refine wpAny_ite_split (fun c => ?_) fun _ => wpAny_pure h
        rw [hn] at c
        cases c
      | _ => exact wpAny_pure h
    | _ => exact wpAny_pure h
  cases target with
  | Tuple ts k p => exact key ts k p
  | List ts p => exact key ts 0 p
  | _ => exact wpAny_pure h
end
end
section
theorem off_VBq : True := by
  k_with_none
  trivial
open PySem PySem.W PyProof.Rows PySem.Calls
section
variable {prog : Program} {w : World} {A : Around} {s : Shared}
theorem comp_turns {elt target iter : PySem.Expr} {ifs : List PySem.Expr} {scope : Scope} {pos : Pos} {it acc : Value} {env : Env} {R : Result → Shared → Prop} (I : Nat → Shared → Prop)
    (turn : ∀ n s (E : Value → Shared → Prop), I n s → wpAny (model prog w) A (pyNext it) (fun r s₁ => match r with
      | none => R (.ok .next) s₁
      | some v => wpAny (model prog w) A (letOwnedTupleGo target it v) (fun _ s₀ => wpAny (model prog w) A (assign target env v) (fun _ s₂ =>
          wpAny (model prog w) A (forIn ifs true fun c r => if r = true then do let ok ← isTrue c env (eval c env); pure (ForInStep.yield ok) else pure (ForInStep.yield r)) (fun ok s₃ =>
            if ok = true then wpAny (model prog w) A (eval elt env) (fun x s₄ => wpAny (model prog w) A (call (.builtin "list.append") [acc, x]) (fun _ s₅ => ∃ m, m < n ∧ I m s₅) E s₄) E s₃
            else ∃ m, m < n ∧ I m s₃) E s₂) E s₀) E s₁) E s)
    (n : Nat) (h : I n s) : codeAny (model prog w) A (.compLoop (.ListComp elt [⟨target, iter, ifs, 0⟩] scope pos) 0 it acc env) R s := by
  refine codeAny_loop rfl I (fun n s hI => ?_) n h
  show wpAny _ A ((compTurn (.ListComp elt [⟨target, iter, ifs, 0⟩] scope pos) 0 it acc env).onRaise (fun x => do noteFrame x env; theTreesLotGoes x)) _ _ s
  refine wpAny_noted ?_
  rw [compTurn_list]
  refine wpAny_bind (wpAny_standAt (wpAny_bind (wpAny_mono (turn n s _ hI) (fun r s₁ h₁ => ?_) fun _ _ h' => h')))
  cases r with
  | none => exact wpAny_pure h₁
  | some v =>
    refine wpAny_bind (wpAny_mono h₁ (fun _ s₀ h₀' => ?_) fun _ _ h' => h')
    refine wpAny_bind (wpAny_mono h₀' (fun _ s₂ h₂ => ?_) fun _ _ h' => h')
    refine wpAny_bind (wpAny_mono h₂ (fun okb s₃ h₃ => ?_) fun _ _ h' => h')
    cases okb with
    | false => exact wpAny_pure ⟨rfl, h₃⟩
    | true => exact wpAny_bind (wpAny_bind (wpAny_mono h₃ (fun x s₄ h₄ => wpAny_bind (wpAny_mono h₄ (fun _ s₅ h₅ => wpAny_pure (wpAny_pure ⟨rfl, h₅⟩)) fun _ _ h' => h')) fun _ _ h' => h'))
end
section
variable {prog : Program} {w : World} {A : Around} {E : Value → Shared → Prop} {s s₁ : Shared} {h₀ : Heap} {L : Addr} {m : Str → Option Value} {env : Env} {elt iter target : PySem.Expr} {ifs : List PySem.Expr} {scope : Scope} {cl : List (Str × Addr)} {pos : Pos}
noncomputable def TurnG (prog : Program) (w : World) (A : Around) (h₀ : Heap) (L : Addr) (m : Str → Option Value) (env : Env) (elt : PySem.Expr) (ifs : List PySem.Expr) (scope : Scope) (cl : List (Str × Addr)) (s₁ : Shared) (n : Nat) (P : Nat → Value → Prop)
    (B : Value → List (Str × Value) → List (Addr × Obj) → List (Addr × Obj) → Prop) (src : List (Addr × Obj) → Prop) (J : Nat → List Value → List (Addr × Obj) → Prop) : Prop :=
  ∀ i v bs ys news₀ news I oI C oC D mC h tk gs (E' : Value → Shared → Prop), i < n → P i v → B v bs news₀ news → J i ys news₀ → src news₀ → AllBare gs → LCg.NsObj oC mC → (∀ z y, bs.lookup z = some y → mC z = some y) → Fr h₀ L h m → News h₀ L h ((I, oI) :: (C, oC) :: (D, lsO ys ys.length) :: news) →
    Apart I C D news → Three I C D → ys.length ≤ i →
    wpAny (model prog w) A (forIn ifs true fun c r => if r = true then do let ok ← isTrue c (compEnvC scope cl C env) (eval c (compEnvC scope cl C env)); pure (ForInStep.yield ok) else pure (ForInStep.yield r))
      (fun ok s₃ => if ok = true then wpAny (model prog w) A (eval elt (compEnvC scope cl C env)) (fun x s₄ => EndG h₀ L m I oI C oC D ys src (J (i + 1) (ys ++ [x])) { s₁ with heap := h, toks := tk, gens := gs } s₄) E' s₃
        else EndG h₀ L m I oI C oC D ys src (J (i + 1) ys) { s₁ with heap := h, toks := tk, gens := gs } s₃) E' { s₁ with heap := h, toks := tk, gens := gs }
noncomputable def FinG (h₀ : Heap) (L : Addr) (m : Str → Option Value) (s₁ : Shared) (n : Nat) (J : Nat → List Value → List (Addr × Obj) → Prop) (Q : Value → Shared → Prop) : Prop :=
  ∀ D ys news h tk gs, J n ys news → AllBare gs → Fr h₀ L h m → News h₀ L h ((D, lsO ys ys.length) :: news) → (∀ p ∈ news, @Ne Nat p.1 D) → Q (.ref D) { s₁ with heap := h, toks := tk, gens := gs }
theorem comp_core {xv : Value} {n : Nat} {P : Nat → Value → Prop} {X : List Addr} {B : Value → List (Str × Value) → List (Addr × Obj) → List (Addr × Obj) → Prop} {src : List (Addr × Obj) → Prop} {J : Nat → List Value → List (Addr × Obj) → Prop} {o : Obj} {fp : List Addr} {St : Nat → Heap → Prop} {news : List (Addr × Obj)}
    {RR : Result → Shared → Prop} {I C D : Addr} {h₁ : Heap} {tk₁ : Nat} {mC₀ : Str → Option Value} (W : SrcW prog w A h₀ L xv s₁ n P src o fp St) (hIa : s₁.heap.objs.size = I)
    (hasg : AsgX prog w A h₀ L target (compEnvC scope cl C env) X B) (hB : ∀ i v ys news, P i v → J i ys news → src news → ∃ bs news', B v bs news news') (hX : ∀ i ys news, J i ys news → ∀ x ∈ X, ∃ o, (x, o) ∈ news) (hXfp : ∀ x ∈ X, x ∉ fp)
    (hID : I ≠ D) (hIC : I ≠ C) (hCD : C ≠ D) (hI₀ : h₀.get? I = none) (hD₀ : h₀.get? D = none) (hC₀ : h₀.get? C = none) (hIL : L ≠ I) (hCL : C ≠ L) (hDL : D ≠ L) (hDf : D ∉ fp) (hCf : C ∉ fp)
    (hst₁ : St 0 h₁) (F : Fr h₀ L h₁ m) (hns₁ : h₁.Ns C mC₀) (N : News h₀ L h₁ ((D, lsO [] 0) :: news)) (off₀ : Apart I C D news) (G : AllBare s₁.gens) (hS : src news) (hJ : J 0 [] news)
    (turn : TurnG prog w A h₀ L m env elt ifs scope cl s₁ n P B src J)
    (hRR : ∀ ys news h tk gs mC, J n ys news → AllBare gs → Fr h₀ L h m → News h₀ L h ((D, lsO ys ys.length) :: news) → (∀ p ∈ news, @Ne Nat p.1 D) → h.Ns C mC → (∀ p ∈ news, p.1 ≠ C) → RR (.ok .next) { s₁ with heap := h, toks := tk, gens := gs }) :
    codeAny (model prog w) A (.compStart (.ListComp elt [⟨target, iter, ifs, 0⟩] scope pos) 0 (.ref I) (.ref D) (compEnvC scope cl C env)) RR { s₁ with heap := h₁, toks := tk₁ } := by
  have W' : Walks prog w A I fp [I] n P St := hIa ▸ W.walks
  have go' : ∀ i (s : Shared) target v {Q : Unit → Shared → Prop} {E : Value → Shared → Prop}, St i s.heap → Q () s → wpAny (model prog w) A (letOwnedTupleGo target (.ref I) v) Q E s := fun i s target v => by rw [← hIa]; exact W.go i s target v
  have loop : ∀ s₃ : Shared, s₃ = { s₁ with heap := h₁, toks := tk₁ } →
      codeAny (model prog w) A (.compLoop (.ListComp elt [⟨target, iter, ifs, 0⟩] scope pos) 0 (.ref I) (.ref D) (compEnvC scope cl C env)) RR s₃ := by
    rintro s₃ rfl
    refine comp_turns
      (fun k s' => ∃ h' tk gs i ys mC news', s' = { s₁ with heap := h', toks := tk, gens := gs } ∧ AllBare gs ∧ i ≤ n ∧ k = n + 1 - i ∧ ys.length ≤ i ∧ St i h' ∧ Fr h₀ L h' m ∧ h'.Ns C mC ∧ News h₀ L h' ((D, lsO ys ys.length) :: news') ∧
        Apart I C D news' ∧ src news' ∧ J i ys news') ?_ (n + 1)
      ⟨h₁, _, s₁.gens, 0, [], _, news, rfl, G, Nat.zero_le _, rfl, Nat.le_refl _, hst₁, F, hns₁, N, off₀, hS, hJ⟩
    rintro k s' E₁ ⟨h', tk, gs, i, ys, mC, news', rfl, G', hi, rfl, hyl, hst', F', hn', N', off', hS', J'⟩
    by_cases hlt : i < n
    · refine W'.item i { s₁ with heap := h', toks := tk, gens := gs } _ _ hlt hst' fun v h₂ tk₂ hPv hst₂ hk₂ => ?_
      have hk₂' : ∀ b o, b ≠ I → h'.get? b = some o → h₂.get? b = some o := fun b o hb e => hk₂ b o (by simpa using hb) e
      have N₂ : News h₀ L h₂ ((D, lsO ys ys.length) :: news') := fun p hp => ⟨hk₂' _ _ (by
        rcases List.mem_cons.mp hp with rfl | hp
        · exact Ne.symm hID
        · exact (off' p hp).1) (N' p hp).1, (N' p hp).2⟩
      refine go' (i + 1) _ target v hst₂ ?_
      obtain ⟨bs, news₁, hb⟩ := hB i v ys news' hPv J' hS'
      have hXn := hX i ys news' J'
      have hXoff : ∀ x ∈ X, x ≠ I ∧ x ≠ C ∧ x ≠ D ∧ x ≠ L ∧ h₀.get? x = none := fun x hx => by
        obtain ⟨ox, hox⟩ := hXn x hx
        have z := off' _ hox
        have y := (N' _ (.tail _ hox)).2
        exact ⟨z.1, z.2.1, z.2.2, y.1, y.2⟩
      refine hasg v bs news' news₁ _ mC _ _ hb (fun p hp => N₂ p (.tail _ hp)) (hn'.at' fun o e => hk₂' _ o (Ne.symm hIC) e) (fun p hp => (off' p hp).2.1) fun h₃ tk₃ mC' hn₃ hbs hk₃ hnew => ?_
      have hk₃' : ∀ c o, c ≠ C → c ∉ X → h₂.get? c = some o → h₃.get? c = some o := hk₃
      have nX : ∀ c, (c = I ∨ c = C ∨ c = D ∨ c = L ∨ (∃ o, h₀.get? c = some o)) → c ∉ X := fun c hc hx => by
        obtain ⟨z1, z2, z3, z4, z5⟩ := hXoff c hx
        rcases hc with q | q | q | q | ⟨o, q⟩
        · exact z1 q
        · exact z2 q
        · exact z3 q
        · exact z4 q
        · rw [z5] at q; cases q
      have hst₃ : St (i + 1) h₃ := W'.frame _ _ _ hst₂ fun b hb o e => hk₃' b o (fun q => hCf (by rw [← q]; exact hb)) (fun hx => hXfp b hx hb) e
      obtain ⟨oI, heI⟩ := W.io _ _ hst₃
      rw [hIa] at heI
      obtain ⟨oC, heC, hoC⟩ := LCg.ns_obj hn₃
      have F₃ : Fr h₀ L h₃ m := ⟨F'.ns.at' fun o e => hk₃' _ o (Ne.symm hCL) (nX _ (.inr (.inr (.inr (.inl rfl))))) (hk₂' _ o hIL e), fun c o e => hk₃' c o (fun q => by rw [q, hC₀] at e; cases e) (nX _ (.inr (.inr (.inr (.inr ⟨o, e⟩))))) (hk₂' c o (fun q => by rw [q, hI₀] at e; cases e) (F'.keep c o e)), F'.above⟩
      have N₃ : News h₀ L h₃ ((I, oI) :: (C, oC) :: (D, lsO ys ys.length) :: news₁) := fun p hp => by
        rcases List.mem_cons.mp hp with rfl | hp
        · exact ⟨heI, Ne.symm hIL, hI₀⟩
        · rcases List.mem_cons.mp hp with rfl | hp
          · exact ⟨heC, hCL, hC₀⟩
          · rcases List.mem_cons.mp hp with rfl | hp
            · have z := N₂ _ (.head _)
              exact ⟨hk₃' _ _ (Ne.symm hCD) (nX _ (.inr (.inr (.inl rfl)))) z.1, z.2⟩
            · rcases hnew p hp with ⟨hnx, hp'⟩ | ⟨hx, e⟩
              · have z := N₂ p (.tail _ hp')
                exact ⟨hk₃' _ _ (off' p hp').2.1 hnx z.1, z.2⟩
              · have z := hXoff _ hx
                exact ⟨e, z.2.2.2.1, z.2.2.2.2⟩
      have off₁ : Apart I C D news₁ := fun p hp => by
        rcases hnew p hp with ⟨_, hp'⟩ | ⟨hx, _⟩
        · exact off' p hp'
        · have z := hXoff _ hx
          exact ⟨z.1, z.2.1, z.2.2.1⟩
      refine wpAny_mono (turn i v bs ys news' news₁ I oI C oC D mC' h₃ _ gs _ hlt hPv hb J' hS' G' hoC hbs F₃ N₃ off₁ ⟨hIC, hID, hCD⟩ hyl) (fun ok s₄ h₄ => ?_) fun _ _ e => e
      have fin : ∀ (ys' : List Value) h₅ tk₅ gs₅ news₅, ys'.length ≤ i + 1 → AllBare gs₅ → St (i + 1) h₅ → Fr h₀ L h₅ m → (∃ mC, h₅.Ns C mC) → News h₀ L h₅ ((D, lsO ys' ys'.length) :: news₅) → Apart I C D news₅ → src news₅ → J (i + 1) ys' news₅ →
          ∃ k, k < n + 1 - i ∧ ∃ h' tk gs i ys mC news', ({ s₁ with heap := h₅, toks := tk₅, gens := gs₅ } : Shared) = { s₁ with heap := h', toks := tk, gens := gs } ∧ AllBare gs ∧ i ≤ n ∧ k = n + 1 - i ∧ ys.length ≤ i ∧ St i h' ∧ Fr h₀ L h' m ∧ h'.Ns C mC ∧ News h₀ L h' ((D, lsO ys ys.length) :: news') ∧
            Apart I C D news' ∧ src news' ∧ J i ys news' := fun ys' h₅ tk₅ gs₅ news₅ q1 q2 q3 q4 ⟨mC, q5⟩ q6 q7 q8 q9 => ⟨n + 1 - (i + 1), by omega, h₅, tk₅, gs₅, i + 1, ys', mC, news₅, rfl, q2, hlt, rfl, q1, q3, q4, q5, q6, q7, q8, q9⟩
      have ends : ∀ (Jx : List (Addr × Obj) → Prop) s₅, EndG h₀ L m I oI C oC D ys src Jx { s₁ with heap := h₃, toks := tk₃, gens := gs } s₅ →
          ∃ h₅ tk₅ gs₅ news₅, s₅ = { s₁ with heap := h₅, toks := tk₅, gens := gs₅ } ∧ AllBare gs₅ ∧ St (i + 1) h₅ ∧ Fr h₀ L h₅ m ∧ (h₅.Ns C mC') ∧ News h₀ L h₅ ((D, lsO ys ys.length) :: news₅) ∧ Apart I C D news₅ ∧ src news₅ ∧ Jx news₅ ∧ h₅.get? I = some oI := by
        rintro Jx s₅ ⟨h₅, tk₅, gs₅, news₅, rfl, G₅, F₅, N₅, off₅, hS₅, J₅⟩
        have zI := (N₅ (I, oI) (.head _)).1
        have zC := (N₅ (C, oC) (.tail _ (.head _))).1
        exact ⟨h₅, tk₅, gs₅, news₅, rfl, G₅, W.keep _ _ _ _ _ hst₃ (hIa ▸ heI) (hIa ▸ zI) (fun p hp => N₅ p (.tail _ (.tail _ (.tail _ hp)))) hS₅, F₅, hoC.ns zC, fun p hp => N₅ p (.tail _ (.tail _ hp)), off₅, hS₅, J₅, zI⟩
      cases ok with
      | false =>
        simp only [Bool.false_eq_true, if_false] at h₄ ⊢
        obtain ⟨h₅, tk₅, gs₅, news₅, rfl, G₅, st₅, F₅, n₅, N₅, off₅, hS₅, J₅, -⟩ := ends _ _ h₄
        exact fin ys h₅ tk₅ gs₅ news₅ (Nat.le_succ_of_le hyl) G₅ st₅ F₅ ⟨_, n₅⟩ N₅ off₅ hS₅ J₅
      | true =>
        simp only [if_true] at h₄ ⊢
        refine wpAny_mono h₄ (fun x s₅ h₅ => ?_) fun _ _ e => e
        obtain ⟨h₅, tk₅, gs₅, news₅, rfl, G₅, st₅, F₅, n₅, N₅, off₅, hS₅, J₅, zI⟩ := ends _ _ h₅
        have zD := (N₅ (D, lsO ys ys.length) (.head _)).1
        refine append_at (hsz := by rw [List.size_toArray]; exact Nat.le_trans hyl (Nat.le_trans (Nat.le_of_lt hlt) W.size)) zD fun h₆ hs₆ hD₆ => ?_
        refine fin (ys ++ [x]) h₆ tk₅ gs₅ news₅ (by simp; exact hyl) G₅ (W'.frame _ _ _ st₅ fun b hb o e => hs₆.extBut b o (fun q => hDf (q ▸ hb)) e) (F₅.change hs₆ hDL hD₀) ⟨_, n₅.sameBut hs₆ hCD⟩ (fun p hp => ?_) off₅ hS₅ J₅
        rcases List.mem_cons.mp hp with rfl | hp
        · exact ⟨hD₆.trans (congrArg some (LCg.lst_snoc ys x)), hDL, hD₀⟩
        · exact ⟨hs₆.extBut _ _ (off₅ p hp).2.2 (N₅ p (.tail _ hp)).1, (N₅ p (.tail _ hp)).2⟩
    · obtain rfl : i = n := Nat.le_antisymm hi (Nat.not_lt.mp hlt)
      refine W'.done { s₁ with heap := h', toks := tk, gens := gs } _ _ hst' fun h₂ tk₂ hk₂ => ?_
      have hk₂' : ∀ b o, b ≠ I → h'.get? b = some o → h₂.get? b = some o := fun b o hb e => hk₂ b o (by simpa using hb) e
      refine hRR ys news' h₂ tk₂ gs mC J' G' ⟨F'.ns.at' fun o e => hk₂' _ o hIL e, fun c o e => hk₂' c o (fun q => by rw [q, hI₀] at e; cases e) (F'.keep c o e), F'.above⟩ (fun p hp => ⟨hk₂' _ _ (by
        rcases List.mem_cons.mp hp with rfl | hp
        · exact Ne.symm hID
        · exact (off' p hp).1) (N' p hp).1, (N' p hp).2⟩) (fun p hp => (off' p hp).2.2) (hn'.at' fun o e => hk₂' _ o (Ne.symm hIC) e) fun p hp => (off' p hp).2.1
  refine codeAny_compStart_list (loop _ rfl) ?_
  exact W'.self 0 { s₁ with heap := h₁, toks := tk₁ } _ _ hst₁ (loop _ rfl)
end
end
section
theorem off_VBBq : True := by
  k_with_none
  trivial
open PySem PySem.W PyProof.Rows PySem.Calls
section
variable {prog : Program} {w : World} {A : Around} {E : Value → Shared → Prop} {s s₁ : Shared} {h₀ : Heap} {L : Addr} {m : Str → Option Value} {env : Env} {elt iter target : PySem.Expr} {ifs : List PySem.Expr} {scope : Scope} {cl : List (Str × Addr)} {pos : Pos}
theorem comp_block {xv : Value} {n : Nat} {P : Nat → Value → Prop} {B : Value → List (Str × Value) → List (Addr × Obj) → Prop} {src : List (Addr × Obj) → Prop} {J : Nat → List Value → List (Addr × Obj) → Prop} {o : Obj} {fp : List Addr} {St : Nat → Heap → Prop} {news : List (Addr × Obj)}
    {RR : Value → Addr → Result → Shared → Prop} (W : SrcW prog w A h₀ L xv s₁ n P src o fp St)
    (hcell : ∀ y ∈ scope.names, y.2 ≠ .cell) (hkind : scope.kind = .function) (hasg : ∀ C, Asg prog w A h₀ L target (compEnvC scope cl C env) B) (hB : ∀ i v ys news, P i v → J i ys news → src news → ∃ bs, B v bs news)
    (F : Fr h₀ L s₁.heap m) (N : News h₀ L s₁.heap news) (G : AllBare s₁.gens) (hS : src news) (hJ : J 0 [] news)
    (turn : TurnG prog w A h₀ L m env elt ifs scope cl s₁ n P (lift3 B) src J)
    (hRR : ∀ D C ys news h tk gs mC, J n ys news → AllBare gs → Fr h₀ L h m → News h₀ L h ((D, lsO ys ys.length) :: news) → (∀ p ∈ news, @Ne Nat p.1 D) → h.Ns C mC → h₀.get? C = none → C ≠ L → C ≠ D → (∀ p ∈ news, p.1 ≠ C) → RR (.ref D) C (.ok .next) { s₁ with heap := h, toks := tk, gens := gs }) :
    wpAny (model prog w) A (pyIter xv) (fun it s₂ => wpAny (model prog w) A (newList []) (fun acc s₃ => wpAny (model prog w) A (newFunctionEnv scope env.globals cl [] env.qual none .none (some env)) (fun cenv s₄ =>
      codeAny (model prog w) A (.compStart (.ListComp elt [⟨target, iter, ifs, 0⟩] scope pos) 0 it acc { cenv with scope := relabel scope env }) (RR acc cenv.locals) s₄) E s₃) E s₂) E s₁ := by
  refine W.it (wpAny_newObj_type (wpAny_newFunctionEnv hcell (by intro y hy; simp at hy) (fun h₁ hns₁ hsb₁ => ?_) hkind))
  dsimp only at hns₁ hsb₁ ⊢
  have z1 : (s₁.heap.push o).objs.size = s₁.heap.objs.size + 1 := Heap.size_push ..
  generalize hH2 : (s₁.heap.push o).push { cls := .type "list", dict := none, data := .seq ([] : List Value).toArray } = H2 at hns₁ hsb₁ ⊢
  have hC : H2.objs.size = s₁.heap.objs.size + 1 + 1 := by rw [← hH2, Heap.size_push, z1]
  rw [z1]
  generalize hIa : s₁.heap.objs.size = I at *
  generalize hCa : H2.objs.size = C at *
  have hfp : ∀ b ∈ fp, b < I + 1 := fun b hb => hIa ▸ W.fp b hb
  have W' : Walks prog w A I fp [I] n P St := hIa ▸ W.walks
  have hID : I ≠ I + 1 := Nat.ne_of_lt (Nat.lt_succ_self _)
  have hIC : I ≠ C := by rw [hC]; exact Nat.ne_of_lt (Nat.lt_succ_of_lt (Nat.lt_succ_self _))
  have hCD : C ≠ I + 1 := by rw [hC]; exact Nat.ne_of_gt (Nat.lt_succ_self _)
  have below : ∀ b, b < I → b ≠ I ∧ b ≠ C ∧ b ≠ I + 1 := fun b hb => ⟨Nat.ne_of_lt hb, by rw [hC]; exact Nat.ne_of_lt (Nat.lt_succ_of_lt (Nat.lt_succ_of_lt hb)), Nat.ne_of_lt (Nat.lt_succ_of_lt hb)⟩
  have lt0 : ∀ b o, s₁.heap.get? b = some o → b < I := fun b o e => hIa ▸ Heap.lt_size e
  have old1 : ∀ b o', (s₁.heap.push o).get? b = some o' → h₁.get? b = some o' := fun b o' e => by
    have hb : b < I + 1 := by have := Heap.lt_size e; rwa [z1] at this
    refine hsb₁.extBut b o' (by rw [hC]; exact Nat.ne_of_lt (Nat.lt_succ_of_lt hb)) (Heap.get?_push_of_some _ (hH2 ▸ Heap.get?_push_of_some _ e))
  have old : ∀ b o', s₁.heap.get? b = some o' → h₁.get? b = some o' := fun b o' e => old1 b o' (Heap.get?_push_of_some _ e)
  have hacc : h₁.get? (I + 1) = some (lsO [] 0) := by
    have e : H2.get? (I + 1) = some { cls := .type "list", dict := none, data := .seq ([] : List Value).toArray } := by rw [← hH2, ← z1]; exact Heap.get?_push_size _ rfl
    exact hsb₁.extBut _ _ (Ne.symm hCD) (Heap.get?_push_of_some _ e)
  have hst₁ : St 0 h₁ := W'.frame _ _ _ W.st fun b _ o' e => old1 b o' e
  have fresh₀ : ∀ a, I ≤ a → h₀.get? a = none := fun a ha => by
    cases e : h₀.get? a with
    | none => rfl
    | some o' => exact absurd (lt0 _ _ (F.keep a o' e)) (Nat.not_lt.mpr ha)
  have hLlt : L < I := hIa ▸ F.ns.lt
  have hCL : C ≠ L := Ne.symm (below L hLlt).2.1
  have hDL : I + 1 ≠ L := Ne.symm (below L hLlt).2.2
  have hC₀ := fresh₀ C (by rw [hC]; exact Nat.le_succ_of_le (Nat.le_succ _))
  refine comp_core W hIa (hasg C).lift (fun i v ys news a b c => let ⟨bs, hb⟩ := hB i v ys news a b c; ⟨bs, news, hb, rfl⟩) (fun _ _ _ _ x hx => by simp at hx) (fun x hx => by simp at hx) hID hIC hCD (fresh₀ _ (Nat.le_refl _)) (fresh₀ _ (Nat.le_succ _)) hC₀
    (below L hLlt).1 hCL hDL (fun hm => Nat.lt_irrefl _ (hfp _ hm)) (fun hm => by have := hfp _ hm; rw [hC] at this; exact Nat.lt_irrefl _ (Nat.lt_of_succ_lt this)) hst₁ (F.keeps old) hns₁ (fun p hp => ?_) (fun p hp => below _ (lt0 _ _ (N p hp).1)) G hS hJ turn
    (fun ys news h tk gs mC a b c d e f g => hRR _ _ ys news h tk gs mC a b c d e f hC₀ hCL hCD g)
  rcases List.mem_cons.mp hp with rfl | hp
  · exact ⟨hacc, hDL, fresh₀ _ (Nat.le_succ _)⟩
  · exact ⟨old _ _ (N p hp).1, (N p hp).2⟩
noncomputable abbrev cellO (v : Option Value) : Obj := { cls := .type "cell", data := .cell v }
noncomputable def BCell (K : Addr) (v : Value) (bs : List (Str × Value)) (news news' : List (Addr × Obj)) : Prop := bs = [] ∧ ∃ v₀ rest, news = (K, cellO v₀) :: rest ∧ news' = (K, cellO (some v)) :: rest ∧ ∀ p ∈ rest, p.1 ≠ K
theorem asg_cell {x : Str} {px : Pos} {K C : Addr} (hkind : scope.kind = .function) (hx : (relabel scope env).names.lookup x = some .cell) : AsgX prog w A h₀ L (.Name x px) (compEnvC scope ((x, K) :: cl) C env) [K] (BCell K) := by
  rintro v bs news news' s mC Q E ⟨rfl, v₀, rest, rfl, rfl, hK⟩ N hn off h
  have hKC : K ≠ C := off _ (.head _)
  refine wpAny_assign_Name ?_
  have hk : (compEnvC scope ((x, K) :: cl) C env).scope.kind = .function := hkind
  have hl : (compEnvC scope ((x, K) :: cl) C env).kindOf x = some .cell := hx
  unfold storeName
  rw [hl]
  show wpAny _ _ (if ((compEnvC scope ((x, K) :: cl) C env).scope.kind == .class && some NameKind.cell == some NameKind.cell) = true then localSet (compEnvC scope ((x, K) :: cl) C env) x v else cellOf (compEnvC scope ((x, K) :: cl) C env) x >>= fun c => cellSet c (some v)) _ _ _
  rw [hk, if_neg (by decide)]
  refine wpAny_bind (wpAny_cellOf (c := K) (by simp [compEnvC]) ?_)
  unfold cellSet
  have hKo := (N _ (.head _)).1
  refine wpAny_bind (wpAny_load hKo ?_)
  refine wpAny_update hKo ?_
  have hsb : Heap.SameBut K s.heap (s.heap.update K fun o => { o with data := .cell (some v) }) := Heap.SameBut.update ..
  refine h _ s.toks mC (hn.sameBut hsb (Ne.symm hKC)) (fun z y hz => by simp at hz) (fun c o hc hx e => hsb.extBut c o (by simpa using hx) e) fun p hp => ?_
  rcases List.mem_cons.mp hp with rfl | hp
  · exact .inr ⟨by simp, Heap.get?_update_self _ hKo rfl⟩
  · exact .inl ⟨by simpa using hK p hp, .tail _ hp⟩
noncomputable def EndC (h₀ : Heap) (L : Addr) (m : Str → Option Value) (led : List (Addr × Obj)) (J : Prop) (s₁ s₄ : Shared) : Prop := ∃ h' tk gs, s₄ = { s₁ with heap := h', toks := tk, gens := gs } ∧ AllBare gs ∧ Fr h₀ L h' m ∧ News h₀ L h' led ∧ J
noncomputable def SrcC (prog : Program) (w : World) (A : Around) (h₀ : Heap) (L : Addr) (m : Str → Option Value) (env : Env) (elt : PySem.Expr) (ifs : List PySem.Expr) (x : Str) (scope : Scope) (cl : List (Str × Addr)) (Q : Value → Shared → Prop) (xv : Value) (s₁ : Shared) : Prop :=
  ∃ (n : Nat) (P : Nat → Value → Prop) (J : Nat → List Value → Prop) (news : List (Addr × Obj)) (o : Obj) (fp : List Addr) (St : Nat → Heap → Prop), SrcW prog w A h₀ L xv s₁ n P (fun _ => True) o fp St ∧ Fr h₀ L s₁.heap m ∧ News h₀ L s₁.heap news ∧ AllBare s₁.gens ∧ J 0 [] ∧
    (∀ i v ys K I oI C oC D h tk gs (E' : Value → Shared → Prop), i < n → P i v → J i ys → AllBare gs → Fr h₀ L h m → News h₀ L h ((I, oI) :: (C, oC) :: (D, lsO ys ys.length) :: (K, cellO (some v)) :: news) → Apart I C D ((K, cellO (some v)) :: news) → Three I C D → (∀ p ∈ news, @Ne Nat p.1 K) → ys.length ≤ i →
      wpAny (model prog w) A (forIn ifs true fun c r => if r = true then do let ok ← isTrue c (compEnvC scope ((x, K) :: cl) C env) (eval c (compEnvC scope ((x, K) :: cl) C env)); pure (ForInStep.yield ok) else pure (ForInStep.yield r))
        (fun ok s₃ => if ok = true then wpAny (model prog w) A (eval elt (compEnvC scope ((x, K) :: cl) C env)) (fun y s₄ => EndC h₀ L m ((I, oI) :: (C, oC) :: (D, lsO ys ys.length) :: (K, cellO (some v)) :: news) (J (i + 1) (ys ++ [y])) { s₁ with heap := h, toks := tk, gens := gs } s₄) E' s₃
          else EndC h₀ L m ((I, oI) :: (C, oC) :: (D, lsO ys ys.length) :: (K, cellO (some v)) :: news) (J (i + 1) ys) { s₁ with heap := h, toks := tk, gens := gs } s₃) E' { s₁ with heap := h, toks := tk, gens := gs }) ∧
    ∀ D ys h tk gs, J n ys → AllBare gs → Fr h₀ L h m → News h₀ L h ((D, lsO ys ys.length) :: news) → (∀ p ∈ news, @Ne Nat p.1 D) → Q (.ref D) { s₁ with heap := h, toks := tk, gens := gs }
theorem SrcC.of {x : Str} {Q : Value → Shared → Prop} {xv : Value} {n : Nat} {P : Nat → Value → Prop} {news : List (Addr × Obj)} {o : Obj} {fp : List Addr} {St : Nat → Heap → Prop} (J : Nat → List Value → Prop)
    (W : SrcW prog w A h₀ L xv s₁ n P (fun _ => True) o fp St) (F : Fr h₀ L s₁.heap m) (N : News h₀ L s₁.heap news) (G : AllBare s₁.gens) (hJ : J 0 [])
    (turn : ∀ i v ys K I oI C oC D h tk gs (E' : Value → Shared → Prop), i < n → P i v → J i ys → AllBare gs → Fr h₀ L h m → News h₀ L h ((I, oI) :: (C, oC) :: (D, lsO ys ys.length) :: (K, cellO (some v)) :: news) → Apart I C D ((K, cellO (some v)) :: news) → Three I C D → (∀ p ∈ news, @Ne Nat p.1 K) → ys.length ≤ i →
      wpAny (model prog w) A (forIn ifs true fun c r => if r = true then do let ok ← isTrue c (compEnvC scope ((x, K) :: cl) C env) (eval c (compEnvC scope ((x, K) :: cl) C env)); pure (ForInStep.yield ok) else pure (ForInStep.yield r))
        (fun ok s₃ => if ok = true then wpAny (model prog w) A (eval elt (compEnvC scope ((x, K) :: cl) C env)) (fun y s₄ => EndC h₀ L m ((I, oI) :: (C, oC) :: (D, lsO ys ys.length) :: (K, cellO (some v)) :: news) (J (i + 1) (ys ++ [y])) { s₁ with heap := h, toks := tk, gens := gs } s₄) E' s₃
          else EndC h₀ L m ((I, oI) :: (C, oC) :: (D, lsO ys ys.length) :: (K, cellO (some v)) :: news) (J (i + 1) ys) { s₁ with heap := h, toks := tk, gens := gs } s₃) E' { s₁ with heap := h, toks := tk, gens := gs })
    (fin : ∀ D ys h tk gs, J n ys → AllBare gs → Fr h₀ L h m → News h₀ L h ((D, lsO ys ys.length) :: news) → (∀ p ∈ news, @Ne Nat p.1 D) → Q (.ref D) { s₁ with heap := h, toks := tk, gens := gs }) :
    SrcC prog w A h₀ L m env elt ifs x scope cl Q xv s₁ := ⟨n, P, J, news, o, fp, St, W, F, N, G, hJ, turn, fin⟩
end
end
section
theorem off_VCq : True := by
  k_with_none
  trivial
open PySem PySem.W PyProof.Rows PySem.Calls
section
variable {prog : Program} {w : World} {A : Around} {E : Value → Shared → Prop} {s : Shared} {h₀ : Heap} {L : Addr} {m : Str → Option Value} {env : Env} {elt iter target : PySem.Expr} {ifs : List PySem.Expr} {scope : Scope} {cl : List (Str × Addr)} {pos : Pos}
noncomputable def SrcG (prog : Program) (w : World) (A : Around) (h₀ : Heap) (L : Addr) (m : Str → Option Value) (env : Env) (elt : PySem.Expr) (ifs : List PySem.Expr) (scope : Scope) (cl : List (Str × Addr)) (B : Value → List (Str × Value) → List (Addr × Obj) → Prop)
    (Fin : Shared → Nat → (Nat → List Value → List (Addr × Obj) → Prop) → Prop) (xv : Value) (s₁ : Shared) : Prop :=
  ∃ n P src J news o fp St, SrcW prog w A h₀ L xv s₁ n P src o fp St ∧ Fr h₀ L s₁.heap m ∧ News h₀ L s₁.heap news ∧ AllBare s₁.gens ∧ src news ∧ J 0 [] news ∧ (∀ i v ys news, P i v → J i ys news → src news → ∃ bs, B v bs news) ∧
    TurnG prog w A h₀ L m env elt ifs scope cl s₁ n P (lift3 B) src J ∧ Fin s₁ n J
theorem SrcG.of {B : Value → List (Str × Value) → List (Addr × Obj) → Prop} {Fin : Shared → Nat → (Nat → List Value → List (Addr × Obj) → Prop) → Prop} {xv : Value} {s₁ : Shared} {n : Nat} {P : Nat → Value → Prop} {src : List (Addr × Obj) → Prop} {news : List (Addr × Obj)} {o : Obj} {fp : List Addr} {St : Nat → Heap → Prop}
    (J : Nat → List Value → List (Addr × Obj) → Prop) (W : SrcW prog w A h₀ L xv s₁ n P src o fp St) (F : Fr h₀ L s₁.heap m) (N : News h₀ L s₁.heap news) (G : AllBare s₁.gens) (hS : src news) (hJ : J 0 [] news) (hB : ∀ i v ys news, P i v → J i ys news → src news → ∃ bs, B v bs news)
    (turn : TurnG prog w A h₀ L m env elt ifs scope cl s₁ n P (lift3 B) src J) (fin : Fin s₁ n J) : SrcG prog w A h₀ L m env elt ifs scope cl B Fin xv s₁ := ⟨n, P, src, J, news, o, fp, St, W, F, N, G, hS, hJ, hB, turn, fin⟩
theorem comp_gen {B : Value → List (Str × Value) → List (Addr × Obj) → Prop} {Q : Value → Shared → Prop} (_F₀ : Fr h₀ L s.heap m) (hclos : closureFor scope env = pure cl) (hcell : ∀ y ∈ scope.names, y.2 ≠ .cell) (hkind : scope.kind = .function)
    (hnames : ∀ y ∈ scope.names, y.2 = .local → scope.names.lookup y.1 = some .local) (hasg : ∀ C, Asg prog w A h₀ L target (compEnvC scope cl C env) B)
    (h : wpAny (model prog w) A (eval iter env) (SrcG prog w A h₀ L m env elt ifs scope cl B fun s₁ n J => FinG h₀ L m s₁ n J Q) E s)
    (hs : ∀ x, foldedSetIterable iter env x = pure x := by intro _; rfl) :
    wpAny (model prog w) A (eval (.ListComp elt [⟨target, iter, ifs, 0⟩] scope pos) env) Q E s := by
  rw [eval_ListComp]
  refine wpAny_comprehension_free (use := none) rfl hs hclos hkind hnames (wpAny_mono h (fun xv s₁ h₁ => ?_) fun _ _ e => e)
  obtain ⟨n, P, src, J, news, o, fp, St, W, F, N, G, hS, hJ, hB, turn, fin⟩ := h₁
  refine comp_block W hcell hkind hasg hB F N G hS hJ turn fun D C ys news' h' tk gs mC J' G' F' N' offD hn hC₀ hCL hCD offC => ?_
  refine ⟨mC, hn, fun h'' hs'' => fin D ys news' h'' tk gs J' G' (F'.change hs'' hCL hC₀) (fun p hp => ?_) offD⟩
  refine ⟨hs''.extBut _ _ ?_ (N' p hp).1, (N' p hp).2⟩
  rcases List.mem_cons.mp hp with rfl | hp
  · exact Ne.symm hCD
  · exact offC p hp
noncomputable def FinN (h₀ : Heap) (L : Addr) (m : Str → Option Value) (y : Str) (s₁ : Shared) (n : Nat) (J : Nat → List Value → List (Addr × Obj) → Prop) (Q : Flow → Shared → Prop) : Prop :=
  ∀ D ys news h tk gs, J n ys news → AllBare gs → Fr h₀ L h (fun z => if z = y then some (.ref D) else m z) → News h₀ L h ((D, lsO ys ys.length) :: news) → (∀ p ∈ news, @Ne Nat p.1 D) → Q .next { s₁ with heap := h, toks := tk, gens := gs }
theorem comp_assign {B : Value → List (Str × Value) → List (Addr × Obj) → Prop} {Q : Flow → Shared → Prop} {y : Str} {py spos : Pos} (_F₀ : Fr h₀ L s.heap m) (hLe : env.locals = L) (hsw : swapsWith (.ListComp elt [⟨target, iter, ifs, 0⟩] scope pos) (some (.Name y py)) spos.line env = pure true)
    (hclos : closureFor scope env = pure cl) (hcell : ∀ y ∈ scope.names, y.2 ≠ .cell) (hkind : scope.kind = .function)
    (hnames : ∀ y ∈ scope.names, y.2 = .local → scope.names.lookup y.1 = some .local) (hasg : ∀ C, Asg prog w A h₀ L target (compEnvC scope cl C env) B)
    (hy : env.kindOf y = some .local) (hp : (env.scope.kind == .class || (env.scope.kind == .module && env.locals != env.globals)) = false)
    (h : wpAny (model prog w) A (eval iter env) (SrcG prog w A h₀ L m env elt ifs scope cl B fun s₁ n J => FinN h₀ L m y s₁ n J Q) E s)
    (hs : ∀ x, foldedSetIterable iter env x = pure x := by intro _; rfl) :
    wpAny (model prog w) A (exec (.Assign [.Name y py] (.ListComp elt [⟨target, iter, ifs, 0⟩] scope pos) spos) env) Q E s := by
  subst hLe
  rw [exec_Assign_Name_used _ _ _ _ hsw]
  refine wpAny_bind (wpAny_standAt (wpAny_bind ?_))
  show wpAny _ A (do let _ ← comprehension (.ListComp elt [⟨target, iter, ifs, 0⟩] scope pos) scope env _ (newList []) false (eval iter env) (some (assign (.Name y py) env))) _ _ s
  refine wpAny_bind (wpAny_mono (wpAny_comprehension_free (use := some (assign (.Name y py) env)) (Q := fun _ s' => Q .next s') rfl hs hclos hkind hnames
    (wpAny_mono h (fun xv s₁ h₁ => ?_) fun _ _ e => e)) (fun _ s' hq => wpAny_pure (wpAny_pure hq)) fun _ _ e => e)
  obtain ⟨n, P, src, J, news, o, fp, St, W, F, N, G, hS, hJ, hB, turn, fin⟩ := h₁
  refine comp_block W hcell hkind hasg hB F N G hS hJ turn fun D C ys news' h' tk gs mC J' G' F' N' offD hn hC₀ hCL hCD offC => ?_
  show wpAny _ A (assign (.Name y py) env (.ref D)) _ _ _
  refine wpAny_assign_Name (wpAny_storeName_local hy F'.ns (fun h₂ hn₂ hs₂ => ?_) hp)
  have F₂ : Fr h₀ env.locals h₂ (fun z => if z = y then some (.ref D) else m z) := F'.set hn₂ hs₂
  have N₂ := N'.set hs₂
  refine ⟨mC, hn.sameBut hs₂ hCL, fun h'' hs'' => fin D ys news' h'' _ gs J' G' (F₂.change hs'' hCL hC₀) (fun p hp => ?_) offD⟩
  refine ⟨hs''.extBut _ _ ?_ (N₂ p hp).1, (N₂ p hp).2⟩
  rcases List.mem_cons.mp hp with rfl | hp
  · exact Ne.symm hCD
  · exact offC p hp
theorem turn_plain {s₁ : Shared} {n : Nat} {P : Nat → Value → Prop} {B : Value → List (Str × Value) → List (Addr × Obj) → Prop} {src : List (Addr × Obj) → Prop} {J : Nat → List Value → List (Addr × Obj) → Prop}
    (h : ∀ i v bs ys news I oI C oC D mC h tk gs (E' : Value → Shared → Prop), i < n → P i v → B v bs news → J i ys news → src news → AllBare gs → LCg.NsObj oC mC → (∀ z y, bs.lookup z = some y → mC z = some y) → Fr h₀ L h m → News h₀ L h ((I, oI) :: (C, oC) :: (D, lsO ys ys.length) :: news) →
      Apart I C D news → Three I C D → ys.length ≤ i →
      wpAny (model prog w) A (eval elt (compEnvC scope cl C env)) (fun x s₄ => EndG h₀ L m I oI C oC D ys src (J (i + 1) (ys ++ [x])) { s₁ with heap := h, toks := tk, gens := gs } s₄) E' { s₁ with heap := h, toks := tk, gens := gs }) :
    TurnG prog w A h₀ L m env elt [] scope cl s₁ n P (lift3 B) src J := by
  rintro i v bs ys news _ I oI C oC D mC hq tk gs E' a1 a2 ⟨a3, rfl⟩ a4 a5 a6 a7 a8 a9 a10 a11 a12 a13
  exact wpAny_tests_nil (by simpa using h i v bs ys _ I oI C oC D mC hq tk gs E' a1 a2 a3 a4 a5 a6 a7 a8 a9 a10 a11 a12 a13)
theorem turn_test {c : PySem.Expr} {s₁ : Shared} {n : Nat} {P : Nat → Value → Prop} {B : Value → List (Str × Value) → List (Addr × Obj) → Prop} {src : List (Addr × Obj) → Prop} {J : Nat → List Value → List (Addr × Obj) → Prop}
    (h : ∀ i v bs ys news I oI C oC D mC h tk gs (E' : Value → Shared → Prop), i < n → P i v → B v bs news → J i ys news → src news → AllBare gs → LCg.NsObj oC mC → (∀ z y, bs.lookup z = some y → mC z = some y) → Fr h₀ L h m → News h₀ L h ((I, oI) :: (C, oC) :: (D, lsO ys ys.length) :: news) →
      Apart I C D news → Three I C D → ys.length ≤ i →
      wpAny (model prog w) A (isTrue c (compEnvC scope cl C env) (eval c (compEnvC scope cl C env))) (fun ok s₃ => if ok = true then wpAny (model prog w) A (eval elt (compEnvC scope cl C env)) (fun x s₄ => EndG h₀ L m I oI C oC D ys src (J (i + 1) (ys ++ [x])) { s₁ with heap := h, toks := tk, gens := gs } s₄) E' s₃
        else EndG h₀ L m I oI C oC D ys src (J (i + 1) ys) { s₁ with heap := h, toks := tk, gens := gs } s₃) E' { s₁ with heap := h, toks := tk, gens := gs }) :
    TurnG prog w A h₀ L m env elt [c] scope cl s₁ n P (lift3 B) src J := by
  rintro i v bs ys news _ I oI C oC D mC hq tk gs E' a1 a2 ⟨a3, rfl⟩ a4 a5 a6 a7 a8 a9 a10 a11 a12 a13
  exact wpAny_tests_one (h i v bs ys _ I oI C oC D mC hq tk gs E' a1 a2 a3 a4 a5 a6 a7 a8 a9 a10 a11 a12 a13)
theorem EndG.of {I C D : Addr} {oI oC : Obj} {ys : List Value} {src J : List (Addr × Obj) → Prop} {s₁ : Shared} {h' : Heap} {tk : Nat} {gs : Array GenState} {all : List (Addr × Obj)} (news' : List (Addr × Obj)) (G : AllBare gs) (F : Fr h₀ L h' m) (N : News h₀ L h' all)
    (sub : ∀ p ∈ (I, oI) :: (C, oC) :: (D, lsO ys ys.length) :: news', p ∈ all) (off : Apart I C D news') (hS : src news') (hJ : J news') : EndG h₀ L m I oI C oC D ys src J s₁ { s₁ with heap := h', toks := tk, gens := gs } :=
  ⟨h', tk, gs, news', rfl, G, F, subN N sub, off, hS, hJ⟩
theorem EndG.same {I C D : Addr} {oI oC : Obj} {ys : List Value} {src J : List (Addr × Obj) → Prop} {s₁ : Shared} {h h' : Heap} {tk : Nat} {gs : Array GenState} {news : List (Addr × Obj)} (G : AllBare gs) (F : Fr h₀ L h m) (N : News h₀ L h ((I, oI) :: (C, oC) :: (D, lsO ys ys.length) :: news))
    (hk : ∀ b o, h.get? b = some o → h'.get? b = some o) (off : Apart I C D news) (hS : src news) (hJ : J news) : EndG h₀ L m I oI C oC D ys src J s₁ { s₁ with heap := h', toks := tk, gens := gs } :=
  ⟨h', tk, gs, news, rfl, G, F.keeps hk, N.grown hk, off, hS, hJ⟩
theorem src_list {ax : Addr} {vs : List Value} {k : Nat} {news : List (Addr × Obj)} (hh : A.handled = none) (N : News h₀ L s.heap news) (hm : (ax, lsO vs k) ∈ news) (hz : vs.length ≤ 100000) :
    SrcW prog w A h₀ L (.ref ax) s vs.length (fun i v => vs[i]? = some v) (fun nw => (ax, lsO vs k) ∈ nw) { cls := .type "list_iterator", data := .fields #[.ref ax, .int 0 0] } [s.heap.objs.size, ax] (fun i h => h.IsListIter s.heap.objs.size ax i ∧ h.IsList ax vs.toArray) := by
  have hl : s.heap.IsList ax vs.toArray := ⟨_, (N _ hm).1, rfl, k, rfl⟩
  have hlt : ax < s.heap.objs.size := Heap.lt_size (N _ hm).1
  refine ⟨by simpa using Walks.list hh s.heap.objs.size ax (Nat.ne_of_lt hlt) vs.toArray, fun hq => wpAny_pyIter_list hl hq, ⟨⟨_, Heap.get?_push_size _ rfl, rfl, rfl⟩, hl.push _⟩, fun b hb => ?_, fun i h st => ?_, fun i h h' o nw st e e' N' hS => ?_, by rw [sizeLine_eq]; omega, fun i s target v Q E st hq => by obtain ⟨o, e, c, _⟩ := st.1; exact letgo_ok e c (by decide) hq⟩
  · rcases List.mem_cons.mp hb with rfl | hb
    · exact Nat.lt_succ_self _
    · rw [List.mem_singleton.mp hb]; exact Nat.lt_succ_of_lt hlt
  · obtain ⟨o, e, _⟩ := st.1; exact ⟨o, e⟩
  · obtain ⟨o', q, r⟩ := st.1
    rw [e] at q; cases q
    exact ⟨⟨o, e', r⟩, ⟨_, (N' _ hS).1, rfl, k, rfl⟩⟩
theorem src_tuple {ax : Addr} {vs : List Value} {news : List (Addr × Obj)} (hh : A.handled = none) (N : News h₀ L s.heap news) (hm : (ax, tupL vs) ∈ news) (hz : vs.length ≤ 100000) :
    SrcW prog w A h₀ L (.ref ax) s vs.length (fun i v => vs[i]? = some v) (fun nw => (ax, tupL vs) ∈ nw) { cls := .type "tuple_iterator", data := .fields #[.ref ax, .int 0 0] } [s.heap.objs.size, ax] (fun i h => h.IsTupleIter s.heap.objs.size ax i ∧ h.IsTuple ax vs.toArray) := by
  have hl : s.heap.IsTuple ax vs.toArray := ⟨_, (N _ hm).1, rfl, _, rfl⟩
  have hlt : ax < s.heap.objs.size := Heap.lt_size (N _ hm).1
  refine ⟨by simpa using Walks.tuple hh s.heap.objs.size ax (Nat.ne_of_lt hlt) vs.toArray, fun hq => wpAny_pyIter_tuple hl hq, ⟨⟨_, Heap.get?_push_size _ rfl, rfl, rfl⟩, ⟨_, Heap.get?_push_of_some _ (N _ hm).1, rfl, _, rfl⟩⟩, fun b hb => ?_, fun i h st => ?_, fun i h h' o nw st e e' N' hS => ?_, by rw [sizeLine_eq]; omega, fun i s target v Q E st hq => by obtain ⟨o, e, c, _⟩ := st.1; exact letgo_ok e c (by decide) hq⟩
  · rcases List.mem_cons.mp hb with rfl | hb
    · exact Nat.lt_succ_self _
    · rw [List.mem_singleton.mp hb]; exact Nat.lt_succ_of_lt hlt
  · obtain ⟨o, e, _⟩ := st.1; exact ⟨o, e⟩
  · obtain ⟨o', q, r⟩ := st.1
    rw [e] at q; cases q
    exact ⟨⟨o, e', r⟩, ⟨_, (N' _ hS).1, rfl, _, rfl⟩⟩
theorem src_range {r : Addr} {a b c : Int} {t u v : Tok} {n : Nat} (hh : A.handled = none) (hr : IsRange s.heap r a b c t u v) (hsm : Builtin.Range.small a b c = true) (hn : Builtin.Range.rangeSize a b c = ((n : Nat) : Int)) (hz : n ≤ 100000) :
    SrcW prog w A h₀ L (.ref r) s n (fun i v => ∃ t, v = .int (a + i * c) t) (fun _ => True) { cls := .type "range_iterator", data := .fields #[rawInt a, rawInt (Builtin.Range.rangeSize a b c), rawInt c] } [s.heap.objs.size] (fun i h => IsRangeIter h s.heap.objs.size (a + (i : Nat) * c) ((n : Int) - (i : Nat)) c) := by
  refine ⟨Walks.range hh s.heap.objs.size a c n, fun hq => wpAny_pyIter_range hr hsm hq, by show IsRangeIter _ _ _ _ _; rw [hn]; simpa using Heap.get?_push_size _ rfl, fun b hb => ?_, fun i h st => ⟨_, st⟩, fun i h h' o nw st e e' _ _ => ?_, by rw [sizeLine_eq]; omega, fun i s target v Q E st hq => letgo_ok st rfl (by decide) hq⟩
  · rw [List.mem_singleton.mp hb]; exact Nat.lt_succ_self _
  · have st' : h.get? s.heap.objs.size = some _ := st
    show h'.get? s.heap.objs.size = some _
    rw [e', ← e]; exact st'
end
end
section
theorem off_UDq : True := by
  k_with_none
  trivial
open PySem PySem.W PyProof.Rows PySem.Calls
section
variable {prog : Program} {w : World} {A : Around} {E : Value → Shared → Prop} {env : Env} {target : PySem.Expr} {body orelse : List Stmt} {Q : Flow → Shared → Prop} {it : Value} {s : Shared}
end
section
variable {prog : Program} {w : World} {A : Around} {E : Value → Shared → Prop} {s : Shared} {h₀ : Heap} {env : Env} {m0 : Str → Option Value} {news0 : List (Addr × Obj)} {wl : Addr} {wvs : List Value} {n : Nat} {x : Str} {px pos : Pos} {iter : PySem.Expr} {body : List Stmt} {Q : Flow → Shared → Prop}
end
end
section
theorem off_VDq : True := by
  k_with_none
  trivial
open PySem PySem.W PyProof.Rows PySem.Calls
section
variable {prog : Program} {w : World} {A : Around} {E : Value → Shared → Prop} {env : Env} {target : PySem.Expr} {body orelse : List Stmt} {Q : Flow → Shared → Prop} {it : Value} {s : Shared}
theorem for_turnG (hE : PassesOwn (model prog w) A env E) (h : wpAny (model prog w) A (pyNext it) (fun r s₁ => match r with
      | none => wpAny (model prog w) A (execs orelse env) Q E s₁
      | some v => wpAny (model prog w) A (letOwnedTupleGo target it v) (fun _ s₀ => wpAny (model prog w) A (assign target env v) (fun _ s₂ => wpAny (model prog w) A (execs body env) (ForPost prog w A E env target body orelse Q it) E s₂) E s₀) E s₁) E s) :
    ForRest prog w A E env target body orelse Q it s := by
  refine codeAny_of_tree ?_
  show wpAny _ A ((forTurn target it body orelse env).onRaise (fun x => do noteFrame x env; theTreesLotGoes x)) _ _ s
  refine wpAny_noted ?_
  simp only [forTurn]
  refine wpAny_bind (wpAny_standAt (wpAny_bind (wpAny_onRaise (wpAny_mono h (fun r s₁ h₁ => ?_) fun e s' h' => wpAny_standAt (hE e s' h')))))
  cases r with
  | none => exact wpAny_pure ⟨rfl, codeAny_block (wpAny_mono h₁ (fun _ _ x => x) hE)⟩
  | some v =>
    refine wpAny_bind (wpAny_mono h₁ (fun _ s₀ h₀ => ?_) hE)
    refine wpAny_bind (wpAny_mono h₀ (fun _ s₂ h₂ => wpAny_bind (wpAny_mono h₂ (fun f s₃ h₃ => ?_) hE)) hE)
    cases f with
    | next => exact wpAny_pure ⟨rfl, h₃⟩
    | cont => exact wpAny_pure ⟨rfl, h₃⟩
    | brk => exact wpAny_pure h₃
    | ret v => exact wpAny_pure h₃
theorem for_indG (Inv : Nat → Shared → Prop) (n : Nat) (hE : PassesOwn (model prog w) A env E)
    (turn : ∀ i s, i < n → Inv i s → wpAny (model prog w) A (pyNext it) (fun r s₁ => ∃ v, r = some v ∧ wpAny (model prog w) A (letOwnedTupleGo target it v) (fun _ s₀ => wpAny (model prog w) A (assign target env v) (fun _ s₂ => wpAny (model prog w) A (execs body env) (fun f s₃ => f = .next ∧ Inv (i + 1) s₃) E s₂) E s₀) E s₁) E s)
    (done : ∀ s, Inv n s → wpAny (model prog w) A (pyNext it) (fun r s₁ => r = none ∧ wpAny (model prog w) A (execs orelse env) Q E s₁) E s) :
    ∀ k i s, i + k = n → Inv i s → ForRest prog w A E env target body orelse Q it s := by
  intro k
  induction k with
  | zero =>
    intro i s e hI
    obtain rfl : i = n := e
    exact for_turnG hE (wpAny_mono (done s hI) (fun r s₁ h => by obtain ⟨rfl, h⟩ := h; exact h) fun _ _ z => z)
  | succ k ih =>
    intro i s e hI
    refine for_turnG hE (wpAny_mono (turn i s (bi1 e) hI) (fun r s₁ h => ?_) fun _ _ z => z)
    obtain ⟨v, rfl, h⟩ := h
    refine wpAny_mono h (fun _ s₀ h₀ => wpAny_mono h₀ (fun _ s₂ h₂ => wpAny_mono h₂ (fun f s₃ h₃ => ?_) fun _ _ z => z) fun _ _ z => z) fun _ _ z => z
    obtain ⟨rfl, hI'⟩ := h₃
    exact ih (i + 1) s₃ (bi2 e) hI'
end
section
variable {prog : Program} {w : World} {A : Around} {E : Value → Shared → Prop} {s : Shared} {h₀ : Heap} {L : Addr} {env : Env} {iter target : PySem.Expr} {body : List Stmt} {pos : Pos} {Q : Flow → Shared → Prop}
noncomputable def EndF (h₀ : Heap) (L : Addr) (PM : (Str → Option Value) → Prop) (I : Addr) (oI : Obj) (src J : List (Addr × Obj) → Prop) (s₁ : Shared) (f : Flow) (s₃ : Shared) : Prop :=
  f = .next ∧ ∃ h' tk gs news' m', s₃ = { s₁ with heap := h', toks := tk, gens := gs } ∧ AllBare gs ∧ PM m' ∧ Fr h₀ L h' m' ∧ News h₀ L h' ((I, oI) :: news') ∧ (∀ p ∈ news', @Ne Nat p.1 I) ∧ src news' ∧ J news'
noncomputable def SrcF (prog : Program) (w : World) (A : Around) (E : Value → Shared → Prop) (h₀ : Heap) (L : Addr) (env : Env) (target : PySem.Expr) (body : List Stmt) (Q : Flow → Shared → Prop) (xv : Value) (s₁ : Shared) : Prop :=
  ∃ (n : Nat) (P : Nat → Value → Prop) (src : List (Addr × Obj) → Prop) (J : Nat → List (Addr × Obj) → Prop) (PM : (Str → Option Value) → Prop) (news : List (Addr × Obj)) (o : Obj) (fp : List Addr) (St : Nat → Heap → Prop), SrcW prog w A h₀ L xv s₁ n P src o fp St ∧ (∃ m', PM m' ∧ Fr h₀ L s₁.heap m') ∧ News h₀ L s₁.heap news ∧ AllBare s₁.gens ∧ src news ∧ J 0 news ∧
    (∀ i v news I oI m' h tk gs, i < n → P i v → PM m' → J i news → src news → (∀ p ∈ news, @Ne Nat p.1 I) → AllBare gs → Fr h₀ L h m' → News h₀ L h ((I, oI) :: news) →
      wpAny (model prog w) A (assign target env v) (fun _ s₂ => wpAny (model prog w) A (execs body env) (EndF h₀ L PM I oI src (J (i + 1)) s₁) E s₂) E { s₁ with heap := h, toks := tk, gens := gs }) ∧
    ∀ news m' h tk gs, PM m' → J n news → AllBare gs → Fr h₀ L h m' → News h₀ L h news → Q .next { s₁ with heap := h, toks := tk, gens := gs }
theorem SrcF.of {xv : Value} {s₁ : Shared} {n : Nat} {P : Nat → Value → Prop} {src : List (Addr × Obj) → Prop} {news : List (Addr × Obj)} {o : Obj} {fp : List Addr} {St : Nat → Heap → Prop} {m₁ : Str → Option Value} (J : Nat → List (Addr × Obj) → Prop) (PM : (Str → Option Value) → Prop)
    (W : SrcW prog w A h₀ L xv s₁ n P src o fp St) (F : Fr h₀ L s₁.heap m₁) (hPM : PM m₁) (N : News h₀ L s₁.heap news) (G : AllBare s₁.gens) (hS : src news) (hJ : J 0 news)
    (turn : ∀ i v news I oI m' h tk gs, i < n → P i v → PM m' → J i news → src news → (∀ p ∈ news, @Ne Nat p.1 I) → AllBare gs → Fr h₀ L h m' → News h₀ L h ((I, oI) :: news) →
      wpAny (model prog w) A (assign target env v) (fun _ s₂ => wpAny (model prog w) A (execs body env) (EndF h₀ L PM I oI src (J (i + 1)) s₁) E s₂) E { s₁ with heap := h, toks := tk, gens := gs })
    (fin : ∀ news m' h tk gs, PM m' → J n news → AllBare gs → Fr h₀ L h m' → News h₀ L h news → Q .next { s₁ with heap := h, toks := tk, gens := gs }) :
    SrcF prog w A E h₀ L env target body Q xv s₁ := ⟨n, P, src, J, PM, news, o, fp, St, W, ⟨m₁, hPM, F⟩, N, G, hS, hJ, turn, fin⟩
theorem EndF.of {PM : (Str → Option Value) → Prop} {I : Addr} {oI : Obj} {src J : List (Addr × Obj) → Prop} {s₁ : Shared} {h' : Heap} {tk : Nat} {gs : Array GenState} {m' : Str → Option Value} {all : List (Addr × Obj)} (news' : List (Addr × Obj)) (G : AllBare gs) (F : Fr h₀ L h' m') (hPM : PM m') (N : News h₀ L h' all)
    (sub : ∀ p ∈ (I, oI) :: news', p ∈ all) (off : ∀ p ∈ news', @Ne Nat p.1 I) (hS : src news') (hJ : J news') : EndF h₀ L PM I oI src J s₁ .next { s₁ with heap := h', toks := tk, gens := gs } :=
  ⟨rfl, h', tk, gs, news', m', rfl, G, hPM, F, subN N sub, off, hS, hJ⟩
theorem for_gen {m₀ : Str → Option Value} (_F₀ : Fr h₀ L s.heap m₀) (hE : PassesOwn (model prog w) A env E) (hs : ∀ x, foldedSetIterable iter env x = pure x)
    (h : wpAny (model prog w) A (eval iter env) (SrcF prog w A E h₀ L env target body Q) E s) :
    wpAny (model prog w) A (exec (.For target iter body [] pos) env) Q E s := by
  refine for_start (wpAny_mono h (fun xv s₁ h₁ => ?_) fun _ _ z => z) hs
  obtain ⟨n, P, src, J, PM, news, o, fp, St, W, ⟨m', hPM, F⟩, N, G, hS, hJ, turn, fin⟩ := h₁
  refine W.it ?_
  have hI₀ : h₀.get? s₁.heap.objs.size = none := by
    cases e : h₀.get? s₁.heap.objs.size with
    | none => rfl
    | some o' => exact absurd (Heap.lt_size (F.keep _ _ e)) (Nat.lt_irrefl _)
  have hIL : L ≠ s₁.heap.objs.size := Nat.ne_of_lt F.ns.lt
  have up : ∀ b o', s₁.heap.get? b = some o' → (s₁.heap.push o).get? b = some o' := fun b o' e => Heap.get?_push_of_some _ e
  let Inv : Nat → Shared → Prop := fun i s' => ∃ h tk gs news m', s' = { s₁ with heap := h, toks := tk, gens := gs } ∧ St i h ∧ PM m' ∧ Fr h₀ L h m' ∧ News h₀ L h news ∧ (∀ p ∈ news, @Ne Nat p.1 s₁.heap.objs.size) ∧ AllBare gs ∧ src news ∧ J i news
  refine for_indG Inv n hE ?_ ?_ n 0 _ (Nat.zero_add _) ⟨_, s₁.toks, s₁.gens, news, m', rfl, W.st, hPM, F.keeps up, N.grown up, fun p hp => Nat.ne_of_lt (Heap.lt_size (N p hp).1), G, hS, hJ⟩
  · rintro i s' hi ⟨h, tk, gs, news, m', rfl, hst, hPM, F', N', off, G', hS', hJ'⟩
    refine W.walks.item i { s₁ with heap := h, toks := tk, gens := gs } _ _ hi hst fun v h₂ tk₂ hPv hst₂ hk₂ => ⟨v, rfl, W.go _ _ _ _ hst₂ ?_⟩
    have hk : ∀ b o, b ≠ s₁.heap.objs.size → h.get? b = some o → h₂.get? b = some o := fun b o hb e => hk₂ b o (by simpa using hb) e
    obtain ⟨oI, heI⟩ := W.io _ _ hst₂
    have F₂ : Fr h₀ L h₂ m' := ⟨F'.ns.at' fun o e => hk _ o hIL e, fun c o e => hk c o (fun q => by rw [q, hI₀] at e; cases e) (F'.keep c o e), F'.above⟩
    have N₂ : News h₀ L h₂ ((s₁.heap.objs.size, oI) :: news) := fun p hp => by
      rcases List.mem_cons.mp hp with rfl | hp
      · exact ⟨heI, Ne.symm hIL, hI₀⟩
      · exact ⟨hk _ _ (off p hp) (N' p hp).1, (N' p hp).2⟩
    refine wpAny_mono (turn i v news _ oI m' h₂ tk₂ gs hi hPv hPM hJ' hS' off G' F₂ N₂) (fun _ s₂ h₂ => wpAny_mono h₂ (fun f s₃ h₃ => ?_) fun _ _ z => z) fun _ _ z => z
    obtain ⟨rfl, h₅, tk₅, gs₅, news₅, m₅, rfl, G₅, hPM₅, F₅, N₅, off₅, hS₅, J₅⟩ := h₃
    have N₅' : News h₀ L h₅ news₅ := fun p hp => N₅ p (.tail _ hp)
    exact ⟨rfl, h₅, tk₅, gs₅, news₅, m₅, rfl, W.keep _ _ _ _ _ hst₂ heI (N₅ _ (.head _)).1 N₅' hS₅, hPM₅, F₅, N₅', off₅, G₅, hS₅, J₅⟩
  · rintro s' ⟨h, tk, gs, news, m', rfl, hst, hPM, F', N', off, G', hS', hJ'⟩
    refine W.walks.done { s₁ with heap := h, toks := tk, gens := gs } _ _ hst fun h₂ tk₂ hk₂ => ⟨rfl, wpAny_execs_nil ?_⟩
    have hk : ∀ b o, b ≠ s₁.heap.objs.size → h.get? b = some o → h₂.get? b = some o := fun b o hb e => hk₂ b o (by simpa using hb) e
    exact fin news m' h₂ tk₂ gs hPM hJ' G' ⟨F'.ns.at' fun o e => hk _ o hIL e, fun c o e => hk c o (fun q => by rw [q, hI₀] at e; cases e) (F'.keep c o e), F'.above⟩ fun p hp => ⟨hk _ _ (off p hp) (N' p hp).1, (N' p hp).2⟩
theorem ex_head {C : Prop} {h : Heap} {D : Addr} {o : Obj} {r : List (Addr × Obj)} (_N : News h₀ L h ((D, o) :: r)) (k : ∀ D', D' = D → C) : C := k D rfl
theorem ex_led {C : Prop} {h : Heap} {led : List (Addr × Obj)} (N : News h₀ L h led) (k : ∀ l, l = led → News h₀ L h l → C) : C := k led rfl N
end
end
section
theorem off_UEq : True := by
  k_with_none
  trivial
open PySem PySem.W PyProof.Rows PySem.Calls
noncomputable def OkTexts (ts : List Str) : Prop := ∀ x ∈ ts, PyData.strOk x = true
theorem canLay_texts : ∀ {ts : List Str}, OkTexts ts → PyData.canLayAll0 (ts.map PyData.str) = true
  | [], _ => rfl
  | x :: r, h => by simp [PyData.canLayAll0, PyData.canLay0, canLay_texts (ts := r) fun y hy => h y (.tail _ hy), h x (.head _)]
theorem depth_texts : ∀ ts : List Str, PyData.depthAll (ts.map PyData.str) = 0
  | [] => rfl
  | _ :: r => by simp [PyData.depthAll, PyData.depth, depth_texts r]
theorem shaped_texts {ts : List Str} (h : OkTexts ts) : SeqAt.shaped (.list (ts.map PyData.str)) = true := by
  simp [SeqAt.shaped, PyData.canLay0, PyData.depth, canLay_texts h, depth_texts]
theorem sameAll_texts : ∀ ts us : List Str, PySem.Spec.sameAll (ts.map PyData.str) (us.map PyData.str) = decide (ts = us)
  | [], [] => by simp [PySem.Spec.sameAll]
  | [], _ :: _ => by simp [PySem.Spec.sameAll]
  | _ :: _, [] => by simp [PySem.Spec.sameAll]
  | a :: r, b :: t => by
    simp only [List.map_cons, PySem.Spec.sameAll, PySem.Spec.same, sameAll_texts r t]
    by_cases h : a = b <;> by_cases h' : r = t <;> simp [h, h']
theorem same_texts (ts us : List Str) : PySem.Spec.same (.list (ts.map PyData.str)) (.list (us.map PyData.str)) = decide (ts = us) := by
  simp only [PySem.Spec.same]; exact sameAll_texts ts us
theorem carried_texts {vs : List Value} {ts : List Str} (h : TextsAre vs ts) : CarriedAll vs (ts.map PyData.str) := by
  obtain ⟨l, rfl, rfl⟩ := h
  induction l with
  | nil => exact .nil
  | cons p r ih => exact .cons (.str p.1 p.2) ih
section
variable {prog : Program} {w : World} {A : Around} {E : Value → Shared → Prop} {s : Shared} {a b : Addr} {xs ys : List Value} {ts us : List Str} {Q : Value → Shared → Prop} {h₀ : Heap} {L : Addr} {news : List (Addr × Obj)} {n k : Nat}
theorem ne_texts (N : News h₀ L s.heap news) (ha : (a, lsO xs n) ∈ news) (hb : (b, lsO ys k) ∈ news) (hi : TextsAre xs ts) (hj : TextsAre ys us) (ho1 : OkTexts ts) (ho2 : OkTexts us) (hu : A.units + 64 < cLine) (h : Q (.bool (!decide (ts = us))) s) :
    wpAny (model prog w) A (compareOp .NotEq (.ref a) (.ref b)) Q E s :=
  ne_dataH_same (reads_newData ⟨_, (N _ ha).1, rfl, n, rfl⟩ (carried_texts hi)) (reads_newData ⟨_, (N _ hb).1, rfl, k, rfl⟩ (carried_texts hj)) (shaped_texts ho1) (shaped_texts ho2) hu (SeqAt.noMix_of_shape (.list .str) rfl _ _ (list_map_has fun _ => rfl) (list_map_has fun _ => rfl)) (by rw [same_texts]; exact h)
end
end
section
theorem off_UFq : True := by
  k_with_none
  trivial
open PySem PySem.W PyProof.Rows PySem.Calls
theorem TextsAre.take {vs : List Value} {ts : List Str} (h : TextsAre vs ts) (k : Nat) : TextsAre (vs.take k) (ts.take k) := by
  obtain ⟨l, rfl, rfl⟩ := h
  exact ⟨l.take k, by simp [strValues, List.map_take], by simp [List.map_take]⟩
theorem slicePick_past (items : Array Value) (a b : Nat) (ha : a ≤ items.size) (hb : items.size ≤ b) : slicePick items (some a) (some b) none = (items.toList.drop a).toArray := by
  rw [← slicePick_from items a ha]
  have e : sliceBounds (some (a : Int)) (some (b : Int)) none items.size = sliceBounds (some (a : Int)) none none items.size := by
    simp only [sliceBounds, Option.getD_none]
    have h2 : ¬ ((b : Int) < 0) := Int.not_lt.mpr (Int.natCast_nonneg b)
    simp [h2]
    omega
  unfold slicePick
  rw [e]
section
variable {prog : Program} {w : World} {A : Around} {E : Value → Shared → Prop} {s : Shared} {h₀ : Heap} {L l : Addr} {m : Str → Option Value} {news : List (Addr × Obj)} {Q : Value → Shared → Prop}
theorem slice_upto_T {value slice : PySem.Expr} {vs : List Value} {ts : List Str} {n : Nat} {b : Int} {tk : Tok} (F : Fr h₀ L s.heap m) (N : News h₀ L s.heap news) (hl : (l, lsO vs n) ∈ news) (hT : TextsAre vs ts) (h0 : 0 ≤ b) (h1 : b ≤ ts.length) (h2 : ts.length ≤ 1000)
    (h : ∀ D vs' h', Fr h₀ L h' m → News h₀ L h' ((D, lsO vs' 0) :: news) → (∀ p ∈ news, p.1 < D) → TextsAre vs' (ts.take b.toNat) → Q (.ref D) { s with heap := h' })
    (hs : subscripted slice false (.ref l) (.ref s.heap.objs.size) = operate [.ref s.heap.objs.size, .ref l] (getItem (.ref l) (.ref s.heap.objs.size))) (ht : ∀ r, letTemporaryGo value (.ref l) r = pure ()) :
    wpAny (model prog w) A (subscriptTail value slice (.ref l) (.ref s.heap.objs.size)) Q E { s with heap := s.heap.push { cls := .type "slice", data := .fields #[.none, .int b tk, .none] } } := by
  obtain ⟨b, rfl⟩ := Int.eq_ofNat_of_zero_le h0
  refine kmk_slice F N ⟨_, (N _ hl).1, rfl, n, rfl⟩ .none (.int _ _) (fun D h' F' N' l1 => h D (vs.take b) h' F' ?_ l1 (by simpa using hT.take b)) hs ht (by rw [List.size_toArray, sizeLine_eq, hT.length]; omega)
  rw [slicePick_upto vs.toArray b (by rw [List.size_toArray, hT.length]; omega)] at N'
  exact N'
theorem len_T {vs : List Value} {ts : List Str} {n : Nat} {k : Int} (N : News h₀ L s.heap news) (hl : (l, lsO vs n) ∈ news) (hT : TextsAre vs ts) (hk : (ts.length : Int) = k) (hz : ts.length ≤ 1000) (h : ∀ t tk, Q (.int k t) { s with toks := tk }) :
    wpAny (model prog w) A (call (.builtin "len") [.ref l]) Q E s := by
  refine call_len_list (items := vs.toArray) ⟨_, (N _ hl).1, rfl, n, rfl⟩ (by rw [List.size_toArray, hT.length]; omega) ?_
  rw [List.size_toArray, hT.length, hk]
  exact h _ _
end
structure PartsIn (news : List (Addr × Obj)) (vs : List Value) (ps : List (List Str)) : Prop where
  len : vs.length = ps.length
  get : ∀ (i : Nat) p, ps[i]? = some p → ∃ a ws n, vs[i]? = some (Value.ref a) ∧ (a, lsO ws n) ∈ news ∧ TextsAre ws p
theorem PartsIn.nil {news : List (Addr × Obj)} : PartsIn news [] [] := ⟨rfl, fun i f h => by simp at h⟩
theorem PartsIn.mono {news news' : List (Addr × Obj)} {vs : List Value} {ps : List (List Str)} (H : PartsIn news vs ps) (h : ∀ p ∈ news, p ∈ news') : PartsIn news' vs ps :=
  ⟨H.len, fun i f e => let ⟨T, t, u, h1, h2, h3⟩ := H.get i f e; ⟨T, t, u, h1, h _ h2, h3⟩⟩
theorem PartsIn.append {news : List (Addr × Obj)} {vs us : List Value} {ps qs : List (List Str)} (H : PartsIn news vs ps) (K : PartsIn news us qs) : PartsIn news (vs ++ us) (ps ++ qs) := by
  refine ⟨by simp [H.len, K.len], fun i g e => ?_⟩
  rcases Nat.lt_or_ge i ps.length with q | q
  · rw [List.getElem?_append_left q] at e
    obtain ⟨T, t, u, h1, h2⟩ := H.get i g e
    exact ⟨T, t, u, by rw [List.getElem?_append_left (by rw [H.len]; exact q)]; exact h1, h2⟩
  · rw [List.getElem?_append_right q] at e
    obtain ⟨T, t, u, h1, h2⟩ := K.get _ g e
    exact ⟨T, t, u, by rw [List.getElem?_append_right (by rw [H.len]; exact q), H.len]; exact h1, h2⟩
theorem PartsIn.one {news : List (Addr × Obj)} {a : Addr} {ws : List Value} {n : Nat} {p : List Str} (h : (a, lsO ws n) ∈ news) (ht : TextsAre ws p) : PartsIn news [.ref a] [p] :=
  ⟨rfl, fun i f e => by
    cases i with
    | zero => cases e; exact ⟨a, ws, n, rfl, h, ht⟩
    | succ j => simp at e⟩
section
variable {prog : Program} {w : World} {A : Around} {E : Value → Shared → Prop} {s : Shared} {h₀ : Heap} {L : Addr} {m : Str → Option Value} {news : List (Addr × Obj)}
end
noncomputable def PMl (xs : List Str) (m0 m' : Str → Option Value) : Prop := ∀ y, y ∉ xs → m' y = m0 y
theorem PMl.refl {xs : List Str} {m0 : Str → Option Value} : PMl xs m0 m0 := fun _ _ => rfl
theorem PMl.set {xs : List Str} {x : Str} {o : Option Value} {m0 m' : Str → Option Value} (h : PMl xs m0 m') (hx : x ∈ xs) : PMl xs m0 (fun y => if y = x then o else m' y) := fun y hy => by
  by_cases q : y = x
  · subst q; exact absurd hx hy
  · simp only [q, if_false]; exact h y hy
theorem PMl.three {a b c : Str} {m0 m' : Str → Option Value} (h : PMl [a, b, c] m0 m') : ∃ o p q, m' = fun y => if y = a then o else if y = b then p else if y = c then q else m0 y :=
  ⟨m' a, m' b, m' c, by
    funext y
    by_cases q1 : y = a
    · simp [q1]
    · by_cases q2 : y = b
      · subst q2; simp [q1]
      · by_cases q3 : y = c
        · subst q3; simp [q1, q2]
        · simp only [q1, q2, q3, if_false]; exact h y (by simp [q1, q2, q3])⟩
theorem PMl.one {a : Str} {m0 m' : Str → Option Value} (h : PMl [a] m0 m') : ∃ o, m' = fun y => if y = a then o else m0 y :=
  ⟨m' a, by
    funext y
    by_cases q1 : y = a
    · simp [q1]
    · simp only [q1, if_false]; exact h y (by simp [q1])⟩
end
section
theorem off_VEq : True := by
  k_with_none
  trivial
open PySem PySem.W PyProof.Rows PySem.Calls
noncomputable def Still (o : Obj) : Prop := (∀ v, o.data ≠ .cell v) ∧ o.cls ≠ .none
noncomputable def Moves (o : Obj) : Prop := (∃ v, o.data = .cell v) ∨ o.cls = .none
theorem Still.ne {o o' : Obj} (h : Still o) (h' : Moves o') : o ≠ o' := fun e => by
  subst e
  rcases h' with ⟨v, e⟩ | e
  · exact h.1 v e
  · exact h.2 e
section
variable {h₀ : Heap} {L : Addr}
end
theorem still_list {vs : List Value} {n : Nat} : Still (lsO vs n) := ⟨fun v => by simp [lsO], by simp [lsO]⟩
end
section
theorem off_PJ : True := by
  k_with_none
  trivial
open PySem
noncomputable def Free (c : Nat) (x : Str) : Prop := c ∉ x.cps.toList
theorem free_cut {c : Nat} : ∀ {p q r t : List Nat}, c ∉ p → c ∉ q → p ++ c :: r = q ++ c :: t → p = q ∧ r = t
  | [], [], _, _, _, _, h => ⟨rfl, by simpa using h⟩
  | [], b :: q, _, _, _, hq, h => by
    simp only [List.nil_append, List.cons_append, List.cons.injEq] at h
    exact absurd (h.1 ▸ .head _) hq
  | a :: p, [], _, _, hp, _, h => by
    simp only [List.nil_append, List.cons_append, List.cons.injEq] at h
    exact absurd (h.1 ▸ .head _) hp
  | a :: p, b :: q, _, _, hp, hq, h => by
    simp only [List.cons_append, List.cons.injEq] at h
    have := free_cut (fun z => hp (.tail _ z)) (fun z => hq (.tail _ z)) h.2
    exact ⟨by rw [h.1, this.1], this.2⟩
theorem cat_list (x y : Str) : (x ++ y).cps.toList = x.cps.toList ++ y.cps.toList := by rw [Str.cps_append, Array.toList_append]
theorem str_eq {x y : Str} (h : x.cps.toList = y.cps.toList) : x = y := Str.ext' (Array.toList_inj.mp h)
theorem join_one {c : Nat} : ∀ {l k : List Str}, l ≠ [] → k ≠ [] → (∀ x ∈ l, Free c x) → (∀ x ∈ k, Free c x) → Str.join ⟨#[c]⟩ l = Str.join ⟨#[c]⟩ k → l = k
  | [], _, h, _, _, _, _ => absurd rfl h
  | _, [], _, h, _, _, _ => absurd rfl h
  | [x], [y], _, _, _, _, h => by
    have h' : x = y := h
    rw [h']
  | [x], y :: z :: r, _, _, hl, _, h => by
    have h' : x = y ++ ⟨#[c]⟩ ++ Str.join ⟨#[c]⟩ (z :: r) := h
    refine absurd ?_ (hl x (.head _))
    rw [h', cat_list, cat_list]
    simp
  | x :: z :: r, [y], _, _, _, hk, h => by
    have h' : x ++ ⟨#[c]⟩ ++ Str.join ⟨#[c]⟩ (z :: r) = y := h
    refine absurd ?_ (hk y (.head _))
    rw [← h', cat_list, cat_list]
    simp
  | x :: z :: r, y :: w :: t, _, _, hl, hk, h => by
    have h' : x ++ ⟨#[c]⟩ ++ Str.join ⟨#[c]⟩ (z :: r) = y ++ ⟨#[c]⟩ ++ Str.join ⟨#[c]⟩ (w :: t) := h
    have h2 := congrArg (fun s => s.cps.toList) h'
    simp only [cat_list, List.append_assoc] at h2
    have h3 := free_cut (hl x (.head _)) (hk y (.head _)) h2
    have h4 := join_one (l := z :: r) (k := w :: t) (by simp) (by simp) (fun a ha => hl a (.tail _ ha)) (fun a ha => hk a (.tail _ ha)) (str_eq h3.2)
    rw [str_eq h3.1, h4]
theorem split_join {c : Nat} {l : List Str} (h : l ≠ []) (hl : ∀ x ∈ l, Free c x) : Txt.split (Txt.join ⟨#[c]⟩ l) ⟨#[c]⟩ = l := by
  have e : Txt.join ⟨#[c]⟩ l = Str.join ⟨#[c]⟩ l := StrLaws.glued_eq_join _ _
  refine join_one (c := c) ?_ h (StrLaws.split_free _ c) hl ?_
  · intro q
    have := PyProof.Rows.split_pos (Txt.join ⟨#[c]⟩ l) ⟨#[c]⟩
    rw [q] at this
    exact absurd this (by decide)
  · rw [StrLaws.join_split, e]
theorem empty_cat (x : Str) : Str.empty ++ x = x := str_eq (by rw [cat_list]; rfl)
theorem cat_empty (x : Str) : x ++ Str.empty = x := str_eq (by rw [cat_list]; show x.cps.toList ++ [] = _; rw [List.append_nil])
theorem cat_assoc (x y z : Str) : x ++ y ++ z = x ++ (y ++ z) := str_eq (by simp only [cat_list, List.append_assoc])
theorem cat_nil_join : ∀ l : List Str, Str.join Str.empty (l) = l.foldr (· ++ ·) Str.empty
  | [] => rfl
  | [x] => (cat_empty x).symm
  | x :: y :: r => by
    show x ++ Str.empty ++ Str.join Str.empty (y :: r) = x ++ (y :: r).foldr (· ++ ·) Str.empty
    rw [cat_empty, cat_nil_join (y :: r)]
theorem row_join : ∀ p : List Str, (p.map fun w => Str.ofString " " ++ w).foldr (· ++ ·) Str.empty = Str.join ⟨#[32]⟩ (Str.empty :: p)
  | [] => rfl
  | [w] => by
    show Str.ofString " " ++ w ++ Str.empty = Str.empty ++ ⟨#[32]⟩ ++ w
    rw [cat_empty, empty_cat]; rfl
  | w :: v :: r => by
    have ih := row_join (v :: r)
    show Str.ofString " " ++ w ++ ((v :: r).map fun w => Str.ofString " " ++ w).foldr (· ++ ·) Str.empty = Str.empty ++ ⟨#[32]⟩ ++ (w ++ ⟨#[32]⟩ ++ Str.join ⟨#[32]⟩ (v :: r))
    rw [ih, empty_cat]
    show Str.ofString " " ++ w ++ (Str.empty ++ ⟨#[32]⟩ ++ Str.join ⟨#[32]⟩ (v :: r)) = _
    rw [empty_cat]
    have e : Str.ofString " " = ⟨#[32]⟩ := by decide
    rw [e]
    simp only [cat_assoc]
theorem row_split {p : List Str} (h : ∀ w ∈ p, Free 32 w) : Txt.split (Txt.join "" (p.map fun w => Str.ofString " " ++ w)) " " = Str.empty :: p := by
  have e1 : (("" : String) : Str) = Str.empty := rfl
  have e2 : ((" " : String) : Str) = ⟨#[32]⟩ := by decide
  have e : Txt.join "" (p.map fun w => Str.ofString " " ++ w) = Txt.join ⟨#[32]⟩ (Str.empty :: p) := by
    show Builtin.Str.glued _ _ = Builtin.Str.glued _ _
    rw [StrLaws.glued_eq_join, StrLaws.glued_eq_join, ← row_join, ← cat_nil_join, e1]
  rw [e, e2]
  exact split_join (by simp) fun x hx => by
    rcases List.mem_cons.mp hx with rfl | hx
    · show (32 : Nat) ∉ ([] : List Nat)
      simp
    · exact h x hx
end
section
theorem off_DPA : True := by
  k_with_none
  trivial
open PySem
noncomputable def flags (M : Nat) : Nat → Bool → List Nat → List Bool
  | _, _, [] => []
  | r, e, s :: l => if r + s ≤ M then false :: flags M (r + s) true l else e :: flags M s true l
theorem flags_cons (M r : Nat) (e : Bool) (s : Nat) (l : List Nat) : flags M r e (s :: l) = if r + s ≤ M then false :: flags M (r + s) true l else e :: flags M s true l := rfl
theorem flags_len (M : Nat) : ∀ (l : List Nat) (r : Nat) (e : Bool), (flags M r e l).length = l.length
  | [], _, _ => rfl
  | s :: l, r, e => by
    unfold flags
    split <;> simp [flags_len M l]
noncomputable def seamsFrom : Nat → List Bool → List Nat
  | _, [] => []
  | j, b :: l => if b then j :: seamsFrom (j + 1) l else seamsFrom (j + 1) l
noncomputable def at_ (l : List Bool) (k : Nat) : Bool := l.getD k false
theorem seamsFrom_is : ∀ (l : List Bool) (j : Nat), seamsFrom j l = ((List.range l.length).filter (at_ l)).map (· + j)
  | [], _ => rfl
  | b :: l, j => by
    have ih := seamsFrom_is l (j + 1)
    rw [List.length_cons, List.range_succ_eq_map, List.filter_cons, List.filter_map]
    have e : (at_ (b :: l) ∘ Nat.succ) = at_ l := rfl
    rw [e]
    have e2 : at_ (b :: l) 0 = b := rfl
    rw [e2]
    unfold seamsFrom
    rw [ih]
    have e3 : ∀ q : List Nat, (q.map Nat.succ).map (· + j) = q.map (· + (j + 1)) := fun q => by
      rw [List.map_map]; exact List.map_congr_left fun x _ => by show Nat.succ x + j = x + (j + 1); omega
    cases b
    · simp only [Bool.false_eq_true, if_false]; exact (e3 _).symm
    · simp only [if_true, List.map_cons]
      rw [e3, Nat.zero_add]
inductive Md where
  | o | t | f | m
noncomputable def Md.isF : Md → Bool
  | .f => true
  | _ => false
noncomputable def Md.step : Md → Bool → Bool → Md
  | _, true, true => .m
  | .o, false, false => .o
  | .o, true, false => .t
  | .o, false, true => .f
  | .t, false, true => .f
  | .t, _, false => .t
  | .f, true, false => .t
  | .f, false, _ => .f
  | .m, _, _ => .m
noncomputable def Md.ok : Md → Bool → Bool → Bool
  | .t, true, false => false
  | .f, false, true => false
  | .m, true, false => false
  | .m, false, true => false
  | _, _, _ => true
noncomputable def mdF (md : Md) (f g : Nat → Bool) : Nat → Md
  | 0 => md
  | k + 1 => (mdF md f g k).step (f k) (g k)
theorem mdF_shift (md : Md) (f g : Nat → Bool) : ∀ k, mdF md f g (k + 1) = mdF (md.step (f 0) (g 0)) (fun j => f (j + 1)) (fun j => g (j + 1)) k
  | 0 => rfl
  | k + 1 => by
    show (mdF md f g (k + 1)).step (f (k + 1)) (g (k + 1)) = _
    rw [mdF_shift md f g k]
    rfl
noncomputable def Md.inv : Md → Nat → Bool → Nat → Bool → Prop
  | .o, _, _, _, _ => True
  | .t, r, e, q, k => e = true ∧ k = true ∧ r ≤ q
  | .f, r, e, q, k => e = true ∧ k = true ∧ q ≤ r
  | .m, r, e, q, k => e = true ∧ k = true ∧ r = q
theorem md_nil : ∀ (md : Md) (k : Nat), (mdF md (at_ []) (at_ []) k).ok false false = true
  | md, k => by
    generalize mdF md (at_ []) (at_ []) k = x
    cases x <;> rfl
theorem turns_ok (M : Nat) : ∀ (l : List Nat) (md : Md) (r : Nat) (e : Bool) (q : Nat) (k : Bool), md.inv r e q k → ∀ j, (mdF md (at_ (flags M r e l)) (at_ (flags M q k l)) j).ok (at_ (flags M r e l) j) (at_ (flags M q k l) j) = true
  | [], md, _, _, _, _, _, j => md_nil md j
  | s :: l, md, r, e, q, k, h, j => by
    have ih := turns_ok M l
    have key : ∀ (a b : Bool) (r' q' : Nat), flags M r e (s :: l) = a :: flags M r' true l → flags M q k (s :: l) = b :: flags M q' true l → md.ok a b = true → (md.step a b).inv r' true q' true → (mdF md (at_ (flags M r e (s :: l))) (at_ (flags M q k (s :: l))) j).ok (at_ (flags M r e (s :: l)) j) (at_ (flags M q k (s :: l)) j) = true := by
      intro a b r' q' h1 h2 h3 h4
      rw [h1, h2]
      cases j with
      | zero => exact h3
      | succ j =>
        rw [mdF_shift]
        exact ih _ _ _ _ _ h4 j
    have hf : ∀ (r : Nat) (e : Bool), (r + s ≤ M ∧ flags M r e (s :: l) = false :: flags M (r + s) true l) ∨ (¬ r + s ≤ M ∧ flags M r e (s :: l) = e :: flags M s true l) := fun r e => by
      have e1 := flags_cons M r e s l
      by_cases h : r + s ≤ M
      · rw [if_pos h] at e1; exact .inl ⟨h, e1⟩
      · rw [if_neg h] at e1; exact .inr ⟨h, e1⟩
    rcases hf r e with ⟨a1, a2⟩ | ⟨a1, a2⟩ <;> rcases hf q k with ⟨b1, b2⟩ | ⟨b1, b2⟩
    · cases md with
      | o => exact key _ _ _ _ a2 b2 rfl trivial
      | t => exact key _ _ _ _ a2 b2 rfl ⟨rfl, rfl, by have := h.2.2; omega⟩
      | f => exact key _ _ _ _ a2 b2 rfl ⟨rfl, rfl, by have := h.2.2; omega⟩
      | m => exact key _ _ _ _ a2 b2 rfl ⟨rfl, rfl, by have := h.2.2; omega⟩
    · cases md with
      | o =>
        cases k with
        | true => exact key _ _ _ _ a2 b2 rfl ⟨rfl, rfl, by omega⟩
        | false => exact key _ _ _ _ a2 b2 rfl trivial
      | t =>
        obtain ⟨rfl, rfl, h3⟩ := h
        exact key _ _ _ _ a2 b2 rfl ⟨rfl, rfl, by omega⟩
      | f => obtain ⟨rfl, rfl, h3⟩ := h; omega
      | m => obtain ⟨rfl, rfl, h3⟩ := h; omega
    · cases md with
      | o =>
        cases e with
        | true => exact key _ _ _ _ a2 b2 rfl ⟨rfl, rfl, by omega⟩
        | false => exact key _ _ _ _ a2 b2 rfl trivial
      | t => obtain ⟨rfl, rfl, h3⟩ := h; omega
      | f =>
        obtain ⟨rfl, rfl, h3⟩ := h
        exact key _ _ _ _ a2 b2 rfl ⟨rfl, rfl, by omega⟩
      | m => obtain ⟨rfl, rfl, h3⟩ := h; omega
    · cases md with
      | o =>
        cases e with
        | true =>
          cases k with
          | true => exact key _ _ _ _ a2 b2 rfl ⟨rfl, rfl, rfl⟩
          | false => exact key _ _ _ _ a2 b2 rfl ⟨rfl, rfl, Nat.le_refl _⟩
        | false =>
          cases k with
          | true => exact key _ _ _ _ a2 b2 rfl ⟨rfl, rfl, Nat.le_refl _⟩
          | false => exact key _ _ _ _ a2 b2 rfl trivial
      | t => obtain ⟨rfl, rfl, h3⟩ := h; exact key _ _ _ _ a2 b2 rfl ⟨rfl, rfl, rfl⟩
      | f => obtain ⟨rfl, rfl, h3⟩ := h; exact key _ _ _ _ a2 b2 rfl ⟨rfl, rfl, rfl⟩
      | m => obtain ⟨rfl, rfl, h3⟩ := h; exact key _ _ _ _ a2 b2 rfl ⟨rfl, rfl, rfl⟩
noncomputable def lastF (f : Nat → Bool) : Nat → Nat
  | 0 => if f 0 then 1 else 0
  | k + 1 => if f (k + 1) then k + 2 else lastF f k
theorem lastF_le (f : Nat → Bool) : ∀ k, lastF f k ≤ k + 1
  | 0 => by unfold lastF; split <;> omega
  | k + 1 => by
    have := lastF_le f k
    unfold lastF; split <;> omega
noncomputable def Md.says : Md → Nat → Nat → Prop
  | .o, a, b => a = 0 ∧ b = 0
  | .t, a, b => b < a
  | .f, a, b => a < b
  | .m, a, b => a = b
theorem says_step {md : Md} {a b k : Nat} {x y : Bool} (ha : a ≤ k) (hb : b ≤ k) (hs : md.says a b) (hok : md.ok x y = true) : (md.step x y).says (if x then k + 1 else a) (if y then k + 1 else b) := by
  cases md <;> cases x <;> cases y <;> first | exact absurd hok (by decide) | exact rfl | exact hs | exact Nat.lt_succ_of_le hb | exact Nat.lt_succ_of_le ha
section
variable {f g : Nat → Bool} (H : ∀ k, (mdF .o f g k).ok (f k) (g k) = true)
include H
theorem says_at : ∀ k, (mdF .o f g (k + 1)).says (lastF f k) (lastF g k)
  | 0 => says_step (k := 0) (Nat.le_refl 0) (Nat.le_refl 0) (md := .o) ⟨rfl, rfl⟩ (H 0)
  | k + 1 => says_step (lastF_le f k) (lastF_le g k) (says_at k) (H (k + 1))
theorem told_md (k : Nat) : Nat.ble (lastF g k) (lastF f k) = !((mdF .o f g (k + 1)).isF) := by
  have h := says_at H k
  generalize mdF Md.o f g (k + 1) = x at h
  cases x <;> simp only [Md.says] at h
  · rw [h.1, h.2]; rfl
  · rw [Nat.ble_eq_true_of_le (Nat.le_of_lt h)]; rfl
  · have : Nat.ble (lastF g k) (lastF f k) = false := Bool.eq_false_iff.mpr fun q => absurd (Nat.le_of_ble_eq_true q) (Nat.not_le.mpr h)
    rw [this]; rfl
  · rw [h, Nat.ble_eq_true_of_le (Nat.le_refl _)]; rfl
theorem turn_is (k : Nat) : (!(Nat.ble (lastF g k) (lastF f k)) && (Nat.beq k 0 || Nat.ble (lastF g (k - 1)) (lastF f (k - 1)))) = (g k && !(f k)) := by
  have key : ∀ (md : Md) (x y : Bool), md.ok x y = true → ((!(!((md.step x y).isF))) && !(md.isF)) = (y && !x) := by
    intro md x y
    cases md <;> cases x <;> cases y <;> first | exact fun _ => rfl | exact fun h => nomatch h
  have h2 := key _ _ _ (H k)
  rw [← h2, told_md H]
  congr 1
  cases k with
  | zero => rfl
  | succ k =>
    show (Nat.beq (k + 1) 0 || Nat.ble (lastF g k) (lastF f k)) = _
    rw [told_md H k]
    rfl
theorem md_m {i : Nat} (h : mdF .o f g i = .m) : ∀ d, mdF .o f g (i + d) = .m
  | 0 => h
  | d + 1 => by
    show (mdF .o f g (i + d)).step (f (i + d)) (g (i + d)) = .m
    have hok := H (i + d)
    rw [md_m h d] at hok ⊢
    revert hok
    cases f (i + d) <;> cases g (i + d) <;> first | exact fun _ => rfl | exact fun h => nomatch h
theorem met_same {i j : Nat} (h1 : f i = true) (h2 : g i = true) (hj : i < j) : f j = g j := by
  have e : mdF .o f g (i + 1) = .m := by
    show (mdF .o f g i).step (f i) (g i) = .m
    rw [h1, h2]
    cases mdF Md.o f g i <;> rfl
  obtain ⟨d, rfl⟩ := Nat.exists_eq_add_of_le hj
  have hok := H (i + 1 + d)
  rw [md_m H e d] at hok
  revert hok
  cases f (i + 1 + d) <;> cases g (i + 1 + d) <;> decide
end
theorem filter_drop {f g : Nat → Bool} : ∀ (l : List Nat), l.Pairwise (· < ·) → (∀ i j, i ∈ l → j ∈ l → f i = true → g i = true → i < j → f j = g j) →
    (l.filter f).drop ((l.filter f).length - (l.filter fun k => f k && g k).length) = l.filter fun k => f k && g k
  | [], _, _ => rfl
  | x :: l, hp, h => by
    have hp2 := (List.pairwise_cons.mp hp).2
    have hx := (List.pairwise_cons.mp hp).1
    have ih := filter_drop l hp2 fun i j hi hj => h i j (.tail _ hi) (.tail _ hj)
    have hle : (l.filter fun k => f k && g k).length ≤ (l.filter f).length := by
      rw [← List.countP_eq_length_filter, ← List.countP_eq_length_filter]
      exact List.countP_mono_left fun y _ hy => by rw [Bool.and_eq_true] at hy; exact hy.1
    by_cases h1 : f x = true
    · by_cases h2 : g x = true
      · have e : (l.filter fun k => f k && g k) = l.filter f := List.filter_congr fun y hy => by
          have := h x y (.head _) (.tail _ hy) h1 h2 (hx y hy)
          rw [← this, Bool.and_self]
        rw [List.filter_cons_of_pos h1, List.filter_cons_of_pos (by rw [h1, h2]; rfl), e, Nat.sub_self]
        rfl
      · rw [List.filter_cons_of_pos h1, List.filter_cons_of_neg (by rw [Bool.and_eq_true]; exact fun q => h2 q.2), List.length_cons, Nat.succ_sub hle, List.drop_succ_cons]
        exact ih
    · rw [List.filter_cons_of_neg h1, List.filter_cons_of_neg (by rw [Bool.and_eq_true]; exact fun q => h1 q.1)]
      exact ih
theorem filter_count (f g : Nat → Bool) : ∀ l : List Nat, (l.filter fun k => g k && !(f k)).length + (l.filter fun k => f k && g k).length = (l.filter g).length
  | [] => rfl
  | x :: l => by
    have ih := filter_count f g l
    rw [List.filter_cons, List.filter_cons, List.filter_cons]
    cases f x <;> cases g x <;> simp <;> omega
theorem filter_and (f g : Nat → Bool) (n : Nat) : ((List.range n).filter f).filter (fun p => ((List.range n).filter g).any (· == p)) = (List.range n).filter fun k => f k && g k := by
  rw [List.filter_filter]
  refine List.filter_congr fun x hx => ?_
  have : ((List.range n).filter g).any (· == x) = g x := by
    rw [Bool.eq_iff_iff, List.any_eq_true]
    constructor
    · rintro ⟨y, hy, e⟩
      rw [← eq_of_beq e]
      exact (List.mem_filter.mp hy).2
    · intro h
      exact ⟨x, List.mem_filter.mpr ⟨hx, h⟩, beq_self_eq_true x⟩
  rw [this, Bool.and_comm]
theorem range_lt (n : Nat) : (List.range n).Pairwise (· < ·) := List.pairwise_lt_range
end
section
theorem off_DPB : True := by
  k_with_none
  trivial
open PySem PySem.W PyProof.Rows PySem.Calls
theorem join_foldr (l : List Str) : Txt.join "" l = l.foldr (· ++ ·) Str.empty := by
  have e1 : (("" : String) : Str) = Str.empty := rfl
  show Builtin.Str.glued _ _ = _
  rw [StrLaws.glued_eq_join, e1, cat_nil_join]
theorem foldr_app : ∀ l k : List Str, (l ++ k).foldr (· ++ ·) Str.empty = l.foldr (· ++ ·) Str.empty ++ k.foldr (· ++ ·) Str.empty
  | [], k => (empty_cat _).symm
  | x :: l, k => by
    show x ++ (l ++ k).foldr (· ++ ·) Str.empty = x ++ l.foldr (· ++ ·) Str.empty ++ _
    rw [foldr_app l k, cat_assoc]
theorem mem_foldr {c : Nat} {x : Str} : ∀ {l : List Str}, x ∈ l → c ∈ x.cps.toList → c ∈ (l.foldr (· ++ ·) Str.empty).cps.toList
  | y :: r, h, hc => by
    show c ∈ (y ++ r.foldr (· ++ ·) Str.empty).cps.toList
    rw [cat_list, List.mem_append]
    rcases List.mem_cons.mp h with rfl | h
    · exact .inl hc
    · exact .inr (mem_foldr h hc)
theorem of_foldr {c : Nat} : ∀ {l : List Str}, c ∈ (l.foldr (· ++ ·) Str.empty).cps.toList → ∃ x ∈ l, c ∈ x.cps.toList
  | [], h => absurd h (by show ¬ c ∈ ([] : List Nat); simp)
  | y :: r, h => by
    have h' : c ∈ (y ++ r.foldr (· ++ ·) Str.empty).cps.toList := h
    rw [cat_list, List.mem_append] at h'
    rcases h' with h' | h'
    · exact ⟨y, .head _, h'⟩
    · obtain ⟨x, hx, hc⟩ := of_foldr h'
      exact ⟨x, .tail _ hx, hc⟩
noncomputable def rowTxt (p : List Str) : Str := Txt.join "" (p.map fun w => Str.ofString " " ++ w)
theorem rowTxt_app (p q : List Str) : rowTxt (p ++ q) = rowTxt p ++ rowTxt q := by
  unfold rowTxt
  rw [join_foldr, join_foldr, join_foldr, List.map_append, foldr_app]
theorem fwStr_is (p : List Str) : fwStr (p.map bl) = rowTxt p := by
  unfold fwStr rowTxt
  rw [List.map_map]
  refine congrArg (Txt.join "") (List.map_congr_left fun w _ => ?_)
  show Txt.join "" [Str.ofString " ", w] = _
  rw [join_foldr]
  show Str.ofString " " ++ (w ++ Str.empty) = _
  rw [cat_empty]
theorem rowTxt_join : ∀ L : List (List Str), Txt.join "" (L.map rowTxt) = rowTxt L.flatten
  | [] => by rw [join_foldr]; unfold rowTxt; rw [join_foldr]; rfl
  | p :: L => by
    have ih := rowTxt_join L
    rw [join_foldr] at ih ⊢
    show rowTxt p ++ (L.map rowTxt).foldr (· ++ ·) Str.empty = _
    rw [ih, List.flatten_cons, rowTxt_app]
theorem rowTxt_free {c : Nat} (hc : c ≠ 32) {p : List Str} (h : ∀ w ∈ p, Free c w) : Free c (rowTxt p) := by
  intro hm
  unfold rowTxt at hm
  rw [join_foldr] at hm
  obtain ⟨x, hx, hcx⟩ := of_foldr hm
  obtain ⟨w, hw, rfl⟩ := List.mem_map.mp hx
  rw [cat_list, List.mem_append] at hcx
  rcases hcx with q | q
  · have e : (Str.ofString " ").cps.toList = [32] := by decide
    rw [e, List.mem_singleton] at q
    exact hc q
  · exact h w hw q
theorem cat_length (x y : Str) : (x ++ y).length = x.length + y.length := by
  show (x ++ y).cps.size = x.cps.size + y.cps.size
  rw [← Array.length_toList, cat_list, List.length_append, Array.length_toList, Array.length_toList]
theorem rowTxt_len : ∀ p : List Str, (rowTxt p).length = (p.map fun w => w.length + 1).sum
  | [] => by unfold rowTxt; rw [join_foldr]; rfl
  | w :: p => by
    have e : rowTxt (w :: p) = rowTxt [w] ++ rowTxt p := rowTxt_app [w] p
    rw [e, cat_length, rowTxt_len p, List.map_cons, List.sum_cons]
    congr 1
    unfold rowTxt
    rw [join_foldr]
    show (Str.ofString " " ++ w ++ Str.empty).length = _
    rw [cat_empty, cat_length, bl_len, Nat.add_comm]
noncomputable def cut : List Str → List Bool → List Str → List (List Str)
  | cur, b :: bs, w :: ws => if b then cur :: cut [w] bs ws else cut (cur ++ [w]) bs ws
  | cur, _, _ => [cur]
theorem cut_t (cur : List Str) (bs : List Bool) (w : Str) (ws : List Str) : cut cur (true :: bs) (w :: ws) = cur :: cut [w] bs ws := rfl
theorem cut_f (cur : List Str) (bs : List Bool) (w : Str) (ws : List Str) : cut cur (false :: bs) (w :: ws) = cut (cur ++ [w]) bs ws := rfl
theorem seams_shift : ∀ (bs : List Bool) (j : Nat), seamsFrom (j + 1) bs = (seamsFrom j bs).map (· + 1)
  | [], _ => rfl
  | b :: bs, j => by
    cases b
    · exact seams_shift bs (j + 1)
    · show (j + 1) :: seamsFrom (j + 1 + 1) bs = (j + 1) :: (seamsFrom (j + 1) bs).map (· + 1)
      rw [seams_shift bs (j + 1)]
theorem cut_is : ∀ (bs : List Bool) (ws cur : List Str), bs.length = ws.length → ∃ t rest, cut cur bs ws = (cur ++ t) :: rest ∧ rest.map (fun p => p.head?) = (seamsFrom 0 bs).map (fun k => ws[k]?) ∧
     ((List.range rest.length).map fun k => ((cut cur bs ws).take (k + 1)).flatten) = (seamsFrom 0 bs).map (fun k => cur ++ ws.take k) ∧ (∀ p ∈ cut cur bs ws, ∀ w ∈ p, w ∈ cur ∨ w ∈ ws)
  | [], _ :: _, _, h => absurd h (by simp)
  | [], [], cur, _ => ⟨[], [], by rw [List.append_nil]; rfl, rfl, rfl, fun p hp w hw => .inl (List.mem_singleton.mp hp ▸ hw)⟩
  | _ :: _, [], _, h => absurd h (by simp)
  | false :: bs, w :: ws, cur, h => by
    obtain ⟨t, rest, h1, h2, h3, h4⟩ := cut_is bs ws (cur ++ [w]) (by simpa using h)
    rw [cut_f]
    refine ⟨w :: t, rest, by rw [h1]; simp, ?_, ?_, fun p hp x hx => ?_⟩
    · show _ = (seamsFrom (0 + 1) bs).map _
      rw [seams_shift, h2, List.map_map]
      rfl
    · show _ = (seamsFrom (0 + 1) bs).map _
      rw [h3, seams_shift, List.map_map]
      refine List.map_congr_left fun k _ => ?_
      show cur ++ [w] ++ ws.take k = cur ++ (w :: ws.take k)
      simp
    · rcases h4 p hp x hx with q | q
      · rcases List.mem_append.mp q with q | q
        · exact .inl q
        · rw [List.mem_singleton.mp q]; exact .inr (.head _)
      · exact .inr (.tail _ q)
  | true :: bs, w :: ws, cur, h => by
    obtain ⟨t, rest, h1, h2, h3, h4⟩ := cut_is bs ws [w] (by simpa using h)
    rw [cut_t]
    refine ⟨[], cut [w] bs ws, by rw [List.append_nil], ?_, ?_, fun p hp x hx => ?_⟩
    · show _ = some w :: (seamsFrom (0 + 1) bs).map _
      rw [seams_shift, h1, List.map_cons, h2, List.map_map]
      rfl
    · show _ = (cur ++ []) :: (seamsFrom (0 + 1) bs).map _
      rw [seams_shift, List.map_map]
      have e : (cut [w] bs ws).length = rest.length + 1 := by rw [h1]; rfl
      rw [e, List.range_succ_eq_map, List.map_cons, List.map_map]
      have e2 := congrArg (fun l => l.map (cur ++ ·)) h3
      simp only [List.map_map] at e2
      refine List.cons_eq_cons.mpr ⟨by simp, Eq.trans ?_ (e2.trans ?_)⟩
      · refine List.map_congr_left fun k _ => ?_
        simp [Function.comp]
      · refine List.map_congr_left fun k _ => ?_
        simp [Function.comp]
    · rcases List.mem_cons.mp hp with rfl | hp
      · exact .inl hx
      · rcases h4 p hp x hx with q | q
        · rw [List.mem_singleton.mp q]; exact .inr (.head _)
        · exact .inr (.tail _ q)
theorem fwLen_app (a b : List (Str × Str)) : fwLen (a ++ b) = fwLen a + fwLen b := by simp [fwLen]
theorem fwLen_one (w : Str) : fwLen [bl w] = w.length + 1 := by
  show (Str.ofString " ").length + w.length + 0 = _
  rw [bl_len]; omega
noncomputable def szs (ws : List Str) : List Nat := ws.map fun w => w.length + 1
theorem run_cut (M : Nat) : ∀ (ws cur ts : List Str) (i : Nat) , (FS.run M ⟨ts, cur.map bl, i⟩ ws).ts ++ [fwStr (FS.run M ⟨ts, cur.map bl, i⟩ ws).fs] = ts ++ (cut cur (flags M (i + fwLen (cur.map bl)) (!cur.isEmpty || decide (0 < i)) (szs ws)) ws).map rowTxt
  | [], cur, ts, i => by
    show ts ++ [fwStr (cur.map bl)] = ts ++ [rowTxt cur]
    rw [fwStr_is]
  | w :: ws, cur, ts, i => by
    have ih := run_cut M ws
    show (FS.run M (FS.step M ⟨ts, cur.map bl, i⟩ w) ws).ts ++ [fwStr (FS.run M (FS.step M ⟨ts, cur.map bl, i⟩ w) ws).fs] = _
    have e0 : szs (w :: ws) = (w.length + 1) :: szs ws := rfl
    have e1 : cur.map bl ++ [bl w] = (cur ++ [w]).map bl := by simp
    have e2 : fwLen ((cur ++ [w]).map bl) = fwLen (cur.map bl) + (w.length + 1) := by rw [← e1, fwLen_app, fwLen_one]
    have e3 : [bl w] = ([w] : List Str).map bl := rfl
    rw [e0, flags_cons]
    by_cases h : i + fwLen (cur.map bl) + (w.length + 1) ≤ M
    · have hs : FS.step M ⟨ts, cur.map bl, i⟩ w = ⟨ts, (cur ++ [w]).map bl, i⟩ := by
        unfold FS.step
        dsimp only
        rw [e1, e2, if_pos (by omega)]
      have ei : (!(cur ++ [w]).isEmpty || decide (0 < i)) = true := by cases cur <;> rfl
      rw [hs, if_pos h, cut_f, ih, e2, ei, ← Nat.add_assoc]
    · rw [if_neg h]
      have hn : ¬ ((i : Int) + (fwLen (cur.map bl ++ [bl w]) : Nat) ≤ (M : Int)) := by rw [e1, e2]; omega
      have e5 : (0 : Nat) + fwLen (([w] : List Str).map bl) = w.length + 1 := by rw [← e3, fwLen_one, Nat.zero_add]
      by_cases hc : cur = []
      · subst hc
        by_cases hi : 0 < i
        · have hs : FS.step M ⟨ts, ([] : List Str).map bl, i⟩ w = ⟨ts ++ [Str.ofString ""], ([w] : List Str).map bl, ((0 : Nat) : Int)⟩ := by
            unfold FS.step
            dsimp only
            rw [if_neg hn, if_neg (by simp), if_pos (by omega)]
            rfl
          rw [hs, ih, e5]
          have ei : (!([] : List Str).isEmpty || decide (0 < i)) = true := by simp [hi]
          have er : rowTxt [] = Str.ofString "" := by unfold rowTxt; rw [join_foldr]; rfl
          rw [ei, cut_t, List.map_cons, er, List.append_assoc]
          rfl
        · obtain rfl : i = 0 := by omega
          have hs : FS.step M ⟨ts, ([] : List Str).map bl, ((0 : Nat) : Int)⟩ w = ⟨ts, ([w] : List Str).map bl, ((0 : Nat) : Int)⟩ := by
            unfold FS.step
            dsimp only
            rw [if_neg hn, if_neg (by simp), if_neg (by omega)]
            rfl
          rw [hs, ih, e5]
          rfl
      · have hs : FS.step M ⟨ts, cur.map bl, i⟩ w = ⟨ts ++ [fwStr (cur.map bl)], ([w] : List Str).map bl, ((0 : Nat) : Int)⟩ := by
          unfold FS.step
          dsimp only
          rw [if_neg hn, if_pos (by simpa using hc)]
          rfl
        have ei : (!cur.isEmpty || decide (0 < i)) = true := by cases cur <;> first | exact absurd rfl hc | rfl
        rw [hs, ih, e5, ei, cut_t, List.map_cons, fwStr_is, List.append_assoc]
        rfl
noncomputable def flg (M H : Nat) (ws : List Str) : List Bool := flags M H (decide (0 < H)) (szs ws)
theorem rows_cut (M H : Nat) (ws : List Str) : rowsOf M H ws = (cut [] (flg M H ws) ws).map rowTxt := by
  have h := run_cut M ws [] [] H
  rw [List.nil_append] at h
  exact h
theorem flg_len (M H : Nat) (ws : List Str) : (flg M H ws).length = ws.length := by
  unfold flg
  rw [flags_len]
  unfold szs
  rw [List.length_map]
noncomputable def seams (M H : Nat) (ws : List Str) : List Nat := seamsFrom 0 (flg M H ws)
noncomputable def pathsOf (rows : List Str) : List Str := (List.range (rows.length - 1)).map fun k => Txt.join "" (rows.take (k + 1))
theorem paths_is (M H : Nat) (ws : List Str) : pathsOf (rowsOf M H ws) = (seams M H ws).map fun p => rowTxt (ws.take p) := by
  obtain ⟨t, rest, h1, h2, h3, h4⟩ := cut_is (flg M H ws) ws [] (flg_len M H ws)
  unfold pathsOf
  rw [rows_cut, List.length_map, h1, List.length_cons, Nat.add_sub_cancel, ← h1]
  have e := congrArg (fun l => l.map rowTxt) h3
  simp only [List.map_map] at e
  refine Eq.trans ?_ (e.trans ?_)
  · refine List.map_congr_left fun k _ => ?_
    rw [← List.map_take, rowTxt_join]
    rfl
  · refine List.map_congr_left fun k _ => ?_
    rfl
theorem seams_lt {M H : Nat} {ws : List Str} {p : Nat} (h : p ∈ seams M H ws) : p < ws.length ∧ at_ (flg M H ws) p = true := by
  unfold seams at h
  rw [seamsFrom_is] at h
  obtain ⟨k, hk, rfl⟩ := List.mem_map.mp h
  obtain ⟨h1, h2⟩ := List.mem_filter.mp hk
  rw [List.mem_range, flg_len] at h1
  exact ⟨h1, h2⟩
theorem seams_is (M H : Nat) (ws : List Str) : seams M H ws = (List.range ws.length).filter (at_ (flg M H ws)) := by
  unfold seams
  rw [seamsFrom_is, flg_len]
  simp
noncomputable def agOfRow (r : Str) : Option Str := (Txt.split r " ")[1]?
theorem ags_is (M H : Nat) {ws : List Str} (hf : ∀ w ∈ ws, Free 32 w) : ((rowsOf M H ws).drop 1).map agOfRow = (seams M H ws).map fun p => ws[p]? := by
  obtain ⟨t, rest, h1, h2, h3, h4⟩ := cut_is (flg M H ws) ws [] (flg_len M H ws)
  unfold seams
  rw [rows_cut, h1, List.map_cons, List.drop_succ_cons, List.drop_zero, List.map_map, ← h2]
  refine List.map_congr_left fun p hp => ?_
  have hp' : p ∈ cut [] (flg M H ws) ws := by rw [h1]; exact .tail _ hp
  show (Txt.split (rowTxt p) " ")[1]? = _
  unfold rowTxt
  rw [row_split fun w hw => hf w ((h4 p hp' w hw).resolve_left (fun q => nomatch q))]
  cases p <;> rfl
theorem rows_free {M H : Nat} {ws : List Str} {c : Nat} (hc : c ≠ 32) (hf : ∀ w ∈ ws, Free c w) : ∀ r ∈ rowsOf M H ws, Free c r := by
  obtain ⟨t, rest, h1, h2, h3, h4⟩ := cut_is (flg M H ws) ws [] (flg_len M H ws)
  intro r hr
  rw [rows_cut] at hr
  obtain ⟨p, hp, rfl⟩ := List.mem_map.mp hr
  exact rowTxt_free hc fun w hw => hf w ((h4 p hp w hw).resolve_left (fun q => nomatch q))
theorem rows_split {M H : Nat} {ws : List Str} (hf : ∀ w ∈ ws, Free 124 w) : Txt.split (Txt.join "|" (rowsOf M H ws)) "|" = rowsOf M H ws := by
  have e2 : (("|" : String) : Str) = ⟨#[124]⟩ := by decide
  rw [e2]
  refine split_join ?_ (rows_free (by decide) hf)
  unfold rowsOf
  simp
end
section
theorem off_DPC : True := by
  k_with_none
  trivial
open PySem PySem.W PyProof.Rows PySem.Calls
noncomputable def fit : Nat → List Nat → Nat
  | _, [] => 0
  | r, s :: l => if s ≤ r then fit (r - s) l + 1 else 0
theorem fit_cons (r s : Nat) (l : List Nat) : fit r (s :: l) = if s ≤ r then fit (r - s) l + 1 else 0 := rfl
theorem fit_le : ∀ (l : List Nat) (r : Nat), fit r l ≤ l.length
  | [], _ => Nat.le_refl 0
  | s :: l, r => by
    rw [fit_cons, List.length_cons]
    split
    · have := fit_le l (r - s); omega
    · omega
theorem fit_spec : ∀ (l : List Nat) (r i : Nat), i ≤ l.length → ((l.take i).sum ≤ r ↔ i ≤ fit r l)
  | [], r, i, h => by
    have : i = 0 := by simpa using h
    subst this
    simp [fit]
  | s :: l, r, 0, _ => by simp
  | s :: l, r, i + 1, h => by
    have ih := fit_spec l (r - s) i (by simpa using h)
    rw [List.take_succ_cons, List.sum_cons, fit_cons]
    by_cases hs : s ≤ r
    · rw [if_pos hs]
      constructor
      · intro q; have := ih.mp (by omega); omega
      · intro q; have := ih.mpr (by omega); omega
    · rw [if_neg hs]; omega
theorem seams_tail (M j s : Nat) (l : List Nat) : seamsFrom j (flags M 0 false (s :: l)) = seamsFrom (j + 1) (flags M s true l) := by
  rw [flags_cons, Nat.zero_add]
  split <;> rfl
theorem seams_next (M : Nat) : ∀ (l : List Nat) (j r : Nat) (e : Bool), r ≤ M → (e = false → r = 0) →
    seamsFrom j (flags M r e l) = (if max (if e then 0 else 1) (fit (M - r) l) < l.length then (j + max (if e then 0 else 1) (fit (M - r) l)) :: seamsFrom (j + max (if e then 0 else 1) (fit (M - r) l)) (flags M 0 false (l.drop (max (if e then 0 else 1) (fit (M - r) l)))) else [])
  | [], j, r, e, _, _ => by rw [if_neg (by simp)]; rfl
  | s :: l, j, r, e, hr, he => by
    rw [flags_cons, fit_cons]
    by_cases h : r + s ≤ M
    · rw [if_pos h, if_pos (show s ≤ M - r by omega)]
      have ih := seams_next M l (j + 1) (r + s) true h (fun q => nomatch q)
      simp only [if_true, Nat.zero_max] at ih
      have e1 : M - r - s = M - (r + s) := by omega
      have e2 : max (if e = true then 0 else 1) (fit (M - r - s) l + 1) = fit (M - (r + s)) l + 1 := by
        rw [e1]; split <;> omega
      rw [e2]
      show seamsFrom (j + 1) _ = _
      rw [ih, List.length_cons, List.drop_succ_cons]
      by_cases h2 : fit (M - (r + s)) l < l.length
      · rw [if_pos h2, if_pos (by omega), show j + 1 + fit (M - (r + s)) l = j + (fit (M - (r + s)) l + 1) by omega]
      · rw [if_neg h2, if_neg (by omega)]
    · rw [if_neg h, if_neg (show ¬ s ≤ M - r by omega)]
      cases e with
      | true =>
        show j :: seamsFrom (j + 1) (flags M s true l) = _
        simp only [if_true, Nat.max_self, List.length_cons, Nat.add_zero, List.drop_zero]
        rw [if_pos (by omega), seams_tail]
      | false =>
        obtain rfl := he rfl
        show seamsFrom (j + 1) (flags M s true l) = _
        simp only [Bool.false_eq_true, if_false, List.length_cons, Nat.max_zero, List.drop_succ_cons, List.drop_zero]
        cases l with
        | nil => rfl
        | cons s2 l =>
          rw [if_pos (by simp), flags_cons, if_neg (by omega), seams_tail]
          rfl
theorem next_place {sz : List Nat} {p lst room : Nat} {x : Int}
    (h1 : x = ((p + lst : Nat) : Int) ∨ ∃ i : Nat, i ≤ sz.length - p ∧ ((sz.drop p).take i).sum ≤ room ∧ x = ((p + i : Nat) : Int))
    (h2 : ((p + lst : Nat) : Int) ≤ x) (h3 : ∀ i : Nat, i ≤ sz.length - p → ((sz.drop p).take i).sum ≤ room → ((p + i : Nat) : Int) ≤ x) : x = ((p + max lst (fit room (sz.drop p)) : Nat) : Int) := by
  have hf := fit_le (sz.drop p) room
  have hd : (sz.drop p).length = sz.length - p := List.length_drop
  have h4 := h3 (fit room (sz.drop p)) (by omega) ((fit_spec _ _ _ hf).mpr (Nat.le_refl _))
  rcases h1 with rfl | ⟨i, hi, hs, rfl⟩
  · omega
  · have := (fit_spec _ _ _ (by omega)).mp hs
    omega
noncomputable def wN (n k : Nat) : Str := ⟨(List.replicate n (97 + k)).toArray⟩
structure Words8 (ws : List Str) : Prop where
  len : ws.length = 8
  get : ∀ k, k < 8 → ∃ n, 1 ≤ n ∧ n ≤ 4 ∧ ws[k]? = some (wN n k)
theorem wN_list (n k : Nat) : (wN n k).cps.toList = List.replicate n (97 + k) := by simp [wN]
theorem wN_len (n k : Nat) : (wN n k).length = n := by
  show (wN n k).cps.size = n
  rw [← Array.length_toList, wN_list, List.length_replicate]
theorem strOk_of {x : Str} (h : ∀ c ∈ x.cps.toList, c < 1114112) : PyData.strOk x = true := by
  unfold PyData.strOk
  rw [Array.all_eq_true']
  intro c hc
  exact decide_eq_true (h c (by simpa using hc))
section
variable {ws : List Str} (W : Words8 ws)
include W
theorem Words8.mem {w : Str} (h : w ∈ ws) : ∃ n k, k < 8 ∧ 1 ≤ n ∧ n ≤ 4 ∧ w = wN n k := by
  obtain ⟨k, hk⟩ := List.mem_iff_getElem?.mp h
  have hk8 : k < 8 := by rw [← W.len]; exact (List.getElem?_eq_some_iff.mp hk).1
  obtain ⟨n, h1, h2, h3⟩ := W.get k hk8
  exact ⟨n, k, hk8, h1, h2, Option.some.inj (hk.symm.trans h3)⟩
theorem Words8.low {w : Str} (h : w ∈ ws) : ∀ c ∈ w.cps.toList, 97 ≤ c ∧ c < 105 := by
  obtain ⟨n, k, hk, h1, h2, rfl⟩ := W.mem h
  intro c hc
  rw [wN_list] at hc
  have := (List.mem_replicate.mp hc).2
  omega
theorem Words8.free {c : Nat} (hc : c < 97 ∨ 105 ≤ c) : ∀ w ∈ ws, Free c w := fun w hw h => by
  have := W.low hw c h
  omega
theorem Words8.short : ∀ w ∈ ws, w.length ≤ 30 := fun w hw => by
  obtain ⟨n, k, hk, h1, h2, rfl⟩ := W.mem hw
  rw [wN_len]; omega
theorem Words8.ok : ∀ w ∈ ws, PyData.strOk w = true := fun w hw => strOk_of fun c hc => by
  have := W.low hw c hc
  omega
theorem Words8.wp : ∀ w ∈ ws, w ≠ Str.ofString "" ∧ PyData.strOk w = true ∧ ∀ fs, Txt.isspace (fwStr (fs ++ [bl w])) = false := fun w hw => by
  obtain ⟨n, k, hk, h1, h2, hwn⟩ := W.mem hw
  refine ⟨?_, W.ok w hw, fun fs => ?_⟩
  · intro h
    have e := congrArg Str.length h
    rw [hwn, wN_len] at e
    have : (Str.ofString "").length = 0 := by decide
    omega
  · have hc : 97 + k ∈ w.cps.toList := by
      rw [hwn, wN_list]
      exact List.mem_replicate.mpr ⟨by omega, rfl⟩
    have hb : Unicode.isSpace (97 + k) = false := by
      have h3 : ((List.range 8).all fun i => !Unicode.isSpace (97 + i)) = true := by decide +kernel
      simpa using List.all_eq_true.mp h3 k (List.mem_range.mpr hk)
    have hm : 97 + k ∈ (fwStr (fs ++ [bl w])).cps.toList := by
      unfold fwStr
      rw [join_foldr]
      refine mem_foldr (x := Txt.join "" [Str.ofString " ", w]) (by simp [bl]) ?_
      rw [join_foldr]
      exact mem_foldr (x := w) (by simp) hc
    unfold Txt.isspace
    rw [Bool.and_eq_false_iff]
    refine .inr ?_
    rw [Bool.eq_false_iff]
    intro ha
    rw [Array.all_eq_true'] at ha
    rw [ha _ (by simpa using hm)] at hb
    exact absurd hb (by decide)
theorem Words8.inj {i j : Nat} (hi : i < 8) (hj : j < 8) (h : ws[i]? = ws[j]?) : i = j := by
  obtain ⟨n, h1, h2, h3⟩ := W.get i hi
  obtain ⟨k, h4, h5, h6⟩ := W.get j hj
  rw [h3, h6] at h
  have e := congrArg (fun s => s.cps.toList) (Option.some.inj h)
  simp only [wN_list] at e
  have hm : 97 + i ∈ List.replicate k (97 + j) := by rw [← e]; exact List.mem_replicate.mpr ⟨by omega, rfl⟩
  have := (List.mem_replicate.mp hm).2
  omega
theorem Words8.name_cut {p k : Nat} (h : p ≤ k) : rowTxt (ws.take k) = rowTxt (ws.take p) ++ rowTxt ((ws.take k).drop p) := by
  rw [← rowTxt_app]
  congr 1
  have := (List.take_append_drop p (ws.take k)).symm
  rw [List.take_take, Nat.min_eq_left h] at this
  exact this
theorem Words8.name_lt {p k : Nat} (h : p < k) (hk : k ≤ 8) : (rowTxt (ws.take p)).length < (rowTxt (ws.take k)).length := by
  rw [W.name_cut (Nat.le_of_lt h), cat_length]
  have hl : ((ws.take k).drop p).length = k - p := by rw [List.length_drop, List.length_take, W.len, Nat.min_eq_left hk]
  have : 1 ≤ (rowTxt ((ws.take k).drop p)).length := by
    rw [rowTxt_len]
    cases hx : (ws.take k).drop p with
    | nil => rw [hx] at hl; simp at hl; omega
    | cons a b => simp; omega
  omega
theorem Words8.name_le {k : Nat} : (rowTxt (ws.take k)).length ≤ 40 := by
  rw [rowTxt_len]
  have h1 : ∀ l : List Str, (∀ w ∈ l, w.length ≤ 4) → (l.map fun w => w.length + 1).sum ≤ 5 * l.length := by
    intro l
    induction l with
    | nil => intro _; simp
    | cons a l ih =>
      intro h
      have := ih fun w hw => h w (.tail _ hw)
      have := h a (.head _)
      simp only [List.map_cons, List.sum_cons, List.length_cons]
      omega
  have h2 := h1 (ws.take k) fun w hw => by
    obtain ⟨n, k, hk, h1, h2, rfl⟩ := W.mem (List.mem_of_mem_take hw)
    rw [wN_len]; omega
  have h3 : (ws.take k).length ≤ 8 := by rw [List.length_take, W.len]; omega
  omega
theorem Words8.starts {p k : Nat} (hp : p ≤ 8) (hk : k ≤ 8) : Txt.startswith (rowTxt (ws.take k)) (rowTxt (ws.take p)) = decide (p ≤ k) := by
  by_cases h : p ≤ k
  · rw [decide_eq_true h, W.name_cut h]
    exact KT.starts_app _ _
  · rw [decide_eq_false h]
    have := W.name_lt (Nat.not_le.mp h) hp
    unfold Txt.startswith
    rw [Bool.and_eq_false_iff]
    exact .inl (decide_eq_false (by omega))
end
noncomputable def ruleStep (name : Str) (a : Int × Bool) (r : Str × Bool) : Int × Bool :=
  if Txt.startswith name r.1 = true then (if a.1 < (r.1.length : Int) + 1 then ((r.1.length : Int) + 1, r.2) else if (r.1.length : Int) + 1 = a.1 ∧ a.2 = false then (a.1, r.2) else a) else a
noncomputable def allowOf (name : Str) (rs : List (Str × Bool)) : Bool := (rs.foldl (ruleStep name) (-1, true)).2
noncomputable def accN (k : Nat) (v : Bool) (a : Nat) (rs : List (Nat × Bool)) : Nat := rs.foldl (fun a r => if r.2 = v ∧ r.1 ≤ k then Nat.max a (r.1 + 1) else a) a
noncomputable def posX (ws : List Str) : Nat → Int
  | 0 => -1
  | q + 1 => ((rowTxt (ws.take q)).length : Int) + 1
theorem posX_step {ws : List Str} (W : Words8 ws) {p : Nat} (hp : p ≤ 8) : ∀ m, m ≤ 9 → (posX ws m < posX ws (p + 1) ↔ m < p + 1)
  | 0, _ => ⟨fun _ => Nat.succ_pos p, fun _ => by show (-1 : Int) < ((rowTxt (ws.take p)).length : Int) + 1; omega⟩
  | q + 1, hq => by
    show ((rowTxt (ws.take q)).length : Int) + 1 < ((rowTxt (ws.take p)).length : Int) + 1 ↔ q + 1 < p + 1
    rcases Nat.lt_trichotomy q p with h | h | h
    · exact ⟨fun _ => Nat.succ_lt_succ h, fun _ => Int.add_lt_add_right (Int.ofNat_lt.mpr (W.name_lt h hp)) 1⟩
    · rw [h]; exact ⟨fun z => absurd z (Int.lt_irrefl _), fun z => absurd z (Nat.lt_irrefl _)⟩
    · exact ⟨fun z => absurd z (Int.not_lt.mpr (Int.add_le_add_right (Int.ofNat_le.mpr (Nat.le_of_lt (W.name_lt h (Nat.le_of_succ_le_succ hq)))) 1)), fun z => absurd (Nat.lt_of_succ_lt_succ z) (Nat.not_lt.mpr (Nat.le_of_lt h))⟩
theorem posX_same {ws : List Str} (W : Words8 ws) {p : Nat} (hp : p ≤ 8) : ∀ m, m ≤ 9 → (posX ws (p + 1) = posX ws m ↔ p + 1 = m)
  | 0, _ => ⟨fun z => by have z2 : ((rowTxt (ws.take p)).length : Int) + 1 = -1 := z; omega, fun z => nomatch z⟩
  | q + 1, hq => ⟨fun z => by
      rcases Nat.lt_trichotomy (q + 1) (p + 1) with h | h | h
      · exact absurd (z ▸ (posX_step W hp (q + 1) hq).mpr h) (Int.lt_irrefl _)
      · exact h.symm
      · exact absurd (z ▸ (posX_step W (Nat.le_of_succ_le_succ hq) (p + 1) (Nat.succ_le_succ hp)).mpr h) (Int.lt_irrefl _), fun z => by rw [z]⟩
noncomputable def stepM (c : Bool) (m : Nat) (v : Bool) (p : Nat) (w : Bool) : Nat × Bool :=
  if c = true then (if m < p + 1 then (p + 1, w) else if p + 1 = m ∧ v = false then (m, w) else (m, v)) else (m, v)
theorem ruleStep_is {ws : List Str} (W : Words8 ws) {k p m : Nat} (hk : k ≤ 8) (hp : p ≤ 8) (hm : m ≤ 9) (v w : Bool) : ruleStep (rowTxt (ws.take k)) (posX ws m, v) (rowTxt (ws.take p), w) = (posX ws (stepM (decide (p ≤ k)) m v p w).1, (stepM (decide (p ≤ k)) m v p w).2) := by
  unfold ruleStep stepM
  dsimp only
  rw [W.starts hp hk]
  show (if decide (p ≤ k) = true then (if posX ws m < posX ws (p + 1) then (posX ws (p + 1), w) else if posX ws (p + 1) = posX ws m ∧ v = false then (posX ws m, w) else (posX ws m, v)) else (posX ws m, v)) = _
  by_cases h0 : decide (p ≤ k) = true
  · rw [if_pos h0, if_pos h0]
    by_cases h1 : m < p + 1
    · rw [if_pos h1, if_pos ((posX_step W hp m hm).mpr h1)]
    · rw [if_neg h1, if_neg (fun z => h1 ((posX_step W hp m hm).mp z))]
      by_cases h2 : p + 1 = m ∧ v = false
      · rw [if_pos h2, if_pos ⟨(posX_same W hp m hm).mpr h2.1, h2.2⟩]
      · rw [if_neg h2, if_neg (fun z => h2 ⟨(posX_same W hp m hm).mp z.1, z.2⟩)]
  · rw [if_neg h0, if_neg h0]
theorem step_fin : ((List.range 10).all fun a => (List.range 10).all fun b => (List.range 9).all fun p => [true, false].all fun w => [true, false].all fun c =>
    decide (stepM c (max a b) (Nat.ble b a) p w = (max (if w = true ∧ c = true then Nat.max a (p + 1) else a) (if w = false ∧ c = true then Nat.max b (p + 1) else b), Nat.ble (if w = false ∧ c = true then Nat.max b (p + 1) else b) (if w = true ∧ c = true then Nat.max a (p + 1) else a)))) = true := by decide +kernel
theorem step_at {a b p : Nat} {w c : Bool} (ha : a ≤ 9) (hb : b ≤ 9) (hp : p ≤ 8) : stepM c (max a b) (Nat.ble b a) p w = (max (if w = true ∧ c = true then Nat.max a (p + 1) else a) (if w = false ∧ c = true then Nat.max b (p + 1) else b), Nat.ble (if w = false ∧ c = true then Nat.max b (p + 1) else b) (if w = true ∧ c = true then Nat.max a (p + 1) else a)) := by
  have h := List.all_eq_true.mp (List.all_eq_true.mp (List.all_eq_true.mp step_fin a (List.mem_range.mpr (Nat.lt_succ_of_le ha))) b (List.mem_range.mpr (Nat.lt_succ_of_le hb))) p (List.mem_range.mpr (Nat.lt_succ_of_le hp))
  exact of_decide_eq_true (List.all_eq_true.mp (List.all_eq_true.mp h w (by cases w <;> decide)) c (by cases c <;> decide))
theorem acc_le {a p : Nat} (ha : a ≤ 9) (hp : p ≤ 8) {c : Prop} [Decidable c] : (if c then Nat.max a (p + 1) else a) ≤ 9 := by
  split
  · exact Nat.max_le.mpr ⟨ha, Nat.succ_le_succ hp⟩
  · exact ha
theorem allow_go {ws : List Str} (W : Words8 ws) {k : Nat} (hk : k ≤ 8) : ∀ (rs : List (Nat × Bool)) (a b : Nat), (∀ r ∈ rs, r.1 ≤ 8) → a ≤ 9 → b ≤ 9 →
    ((rs.map fun r => (rowTxt (ws.take r.1), r.2)).foldl (ruleStep (rowTxt (ws.take k))) (posX ws (max a b), Nat.ble b a)).2 = Nat.ble (accN k false b rs) (accN k true a rs)
  | [], _, _, _, _, _ => rfl
  | (p, w) :: rs, a, b, hr, ha, hb => by
    have hp : p ≤ 8 := hr _ (.head _)
    rw [List.map_cons, List.foldl_cons]
    show (List.foldl _ (ruleStep (rowTxt (ws.take k)) (posX ws (max a b), Nat.ble b a) (rowTxt (ws.take p), w)) _).2 = Nat.ble (accN k false (if w = false ∧ p ≤ k then Nat.max b (p + 1) else b) rs) (accN k true (if w = true ∧ p ≤ k then Nat.max a (p + 1) else a) rs)
    rw [ruleStep_is W hk hp (Nat.max_le.mpr ⟨ha, hb⟩), step_at ha hb hp]
    have e : ∀ (x y : Nat) (v : Bool), (if w = v ∧ decide (p ≤ k) = true then x else y) = if w = v ∧ p ≤ k then x else y := fun x y v => by
      by_cases h : p ≤ k
      · rw [decide_eq_true h]
        by_cases h2 : w = v
        · rw [if_pos ⟨h2, rfl⟩, if_pos ⟨h2, h⟩]
        · rw [if_neg fun z => h2 z.1, if_neg fun z => h2 z.1]
      · rw [if_neg fun z => h (of_decide_eq_true z.2), if_neg fun z => h z.2]
    rw [e, e]
    exact allow_go W hk rs _ _ (fun r hq => hr r (.tail _ hq)) (acc_le ha hp) (acc_le hb hp)
theorem allow_is {ws : List Str} (W : Words8 ws) {k : Nat} (hk : k ≤ 8) {rs : List (Nat × Bool)} (hr : ∀ r ∈ rs, r.1 ≤ 8) : allowOf (rowTxt (ws.take k)) (rs.map fun r => (rowTxt (ws.take r.1), r.2)) = Nat.ble (accN k false 0 rs) (accN k true 0 rs) :=
  allow_go W hk rs 0 0 hr (Nat.zero_le _) (Nat.zero_le _)
theorem acc_other (k : Nat) (v : Bool) : ∀ (S : List Nat) (a : Nat), accN k v a (S.map fun p => (p, !v)) = a
  | [], _ => rfl
  | p :: S, a => by
    show accN k v (if (!v) = v ∧ p ≤ k then _ else a) _ = a
    rw [if_neg (by cases v <;> simp)]
    exact acc_other k v S a
theorem acc_app (k : Nat) (v : Bool) (a : Nat) (r q : List (Nat × Bool)) : accN k v a (r ++ q) = accN k v (accN k v a r) q := by
  unfold accN
  rw [List.foldl_append]
theorem acc_range (f : Nat → Bool) (k : Nat) (v : Bool) : ∀ n, accN k v 0 (((List.range n).filter f).map fun p => (p, v)) = if n = 0 then 0 else lastF f (min (n - 1) k)
  | 0 => rfl
  | n + 1 => by
    have ih := acc_range f k v n
    rw [List.range_succ, List.filter_append, List.map_append, acc_app, ih, if_neg (show ¬ n + 1 = 0 by omega), Nat.add_sub_cancel]
    have e : ∀ a, accN k v a (([n].filter f).map fun p => (p, v)) = if f n = true ∧ n ≤ k then Nat.max a (n + 1) else a := fun a => by
      rw [List.filter_cons]
      cases hf : f n
      · rw [if_neg (by simp), if_neg (by simp)]; rfl
      · rw [if_pos rfl]
        show (if v = v ∧ n ≤ k then Nat.max a (n + 1) else a) = _
        simp
    rw [e]
    by_cases hk : n ≤ k
    · rw [Nat.min_eq_left hk]
      cases n with
      | zero =>
        show (if f 0 = true ∧ 0 ≤ k then Nat.max 0 1 else 0) = if f 0 then 1 else 0
        cases f 0
        · rw [if_neg (by simp)]; rfl
        · rw [if_pos ⟨rfl, hk⟩]; rfl
      | succ n =>
        rw [if_neg (show ¬ n + 1 = 0 by omega), Nat.add_sub_cancel, Nat.min_eq_left (show n ≤ k by omega)]
        show _ = if f (n + 1) then n + 2 else lastF f n
        have := lastF_le f n
        cases f (n + 1)
        · rw [if_neg (show ¬ (false = true ∧ n + 1 ≤ k) by simp)]; rfl
        · rw [if_pos (show true = true ∧ n + 1 ≤ k from ⟨rfl, hk⟩)]
          exact Nat.max_eq_right (by omega)
    · rw [if_neg (show ¬ (f n = true ∧ n ≤ k) from fun q => hk q.2), Nat.min_eq_right (show k ≤ n by omega), if_neg (show ¬ n = 0 by omega), Nat.min_eq_right (show k ≤ n - 1 by omega)]
end
section
theorem off_DA : True := by
  k_with_none
  trivial
open PySem PySem.W PyProof.Rows PySem.Calls
theorem on_DA0 : True := by
 k_with_none
 k_with "ax" => first | assumption | exact ja0 ‹_› | exact ja1 ‹_› | exact je1 ‹_› | exact ja2 ‹_› | exact ja3 ‹_› | exact ja4 ‹_› | exact ja5 ‹_› | exact je5 ‹_› | exact ja6 ‹_› | exact ja7 ‹_› | exact je7 ‹_› | exact ja8 ‹_› | exact ja9 ‹_› | exact je13 ‹_› | exact je14 ‹_›
 k_with "nx" => with_reducible (first | (refine Nat.ne_of_lt ?_; (repeat (first | exact js | refine jl ?_)); all_goals k_extra "ax") | (refine Nat.ne_of_gt ?_; (repeat (first | exact js | refine jl ?_)); all_goals k_extra "ax") | k_extra "ax" | (refine Ne.symm ?_; k_extra "ax"))
 k_with "rm" => ((with_reducible first | exact room0 ‹_› | refine room1 ‹_› ?_ | refine room2 ‹_› ?_ | refine room3 ‹_› ?_ | refine room4 ‹_› ?_); all_goals exact rfl)
 k_with "om" => first | (with_reducible first | k_extra "ax" | exact jn ‹_› | exact jn (ja0 ‹_›) | (refine Nat.lt_trans ?_ ‹_›; k_extra "ax")) | decide | omega
 k_with "hk" => (with_reducible first | (refine hKq _ _ ?_; clear hKq; (try clear Kq)) | (refine hKt _ _ ?_; clear hKt; (try clear Kt)) | (refine hK0 _ _ ?_; clear hK0; (try clear K0)))
 k_with "q:execs cons" => (k_here; (with_reducible refine execs_consK ?_); intro Kq tkq hKq)
 k_with "q:k_ne" => (refine neN ?_; (try dsimp only); first | k_extra "nx" | omega)
 k_with "q:sub9" => row_timed "f" (fail; (repeat' (first | (refine fm (by k_mem) ?_) | exact List.forall_mem_nil _ | (intro pZ hpZ; (repeat (first | with_reducible_and_instances exact hpZ | with_reducible_and_instances exact List.mem_append_right _ hpZ | refine List.Mem.tail _ ?_)); done) | exact fun _ hpZ => hpZ | (intro pZ hpZ; (repeat (first | exact hpZ | exact List.mem_append_right _ hpZ | refine List.Mem.tail _ ?_))))))
 trivial
noncomputable def PM1 (x : Str) (m0 m' : Str → Option Value) : Prop := ∃ o, m' = fun y => if y = x then o else m0 y
theorem PM1.refl {x : Str} {m0 : Str → Option Value} : PM1 x m0 m0 := ⟨m0 x, by funext y; by_cases q : y = x <;> simp [q]⟩
theorem PM1.set {x : Str} {o : Option Value} {m0 m' : Str → Option Value} (h : PM1 x m0 m') : PM1 x m0 (fun y => if y = x then o else m' y) := by
  obtain ⟨o', rfl⟩ := h
  exact ⟨o, by funext y; by_cases q : y = x <;> simp [q]⟩
theorem PM1.now {x : Str} {o : Option Value} {m0 : Str → Option Value} : PM1 x m0 (fun y => if y = x then o else m0 y) := ⟨o, rfl⟩
theorem fmod0 (a : Int) {b : Int} (h : 0 < b) : 0 ≤ a.fmod b := by rw [Int.fmod_eq_emod_of_nonneg _ (Int.le_of_lt h)]; exact Int.emod_nonneg _ (Int.ne_of_gt h)
theorem bd_set {ns : List Int} {i : Nat} {j : Nat} {x : Int} (h : ∀ y ∈ ns, 0 ≤ y ∧ y ≤ 100 + (i : Int) * 2000000) (hj : j < ns.length) (h0 : 0 ≤ x) (h1 : x ≤ 2000000) : ∀ y ∈ ns.set j (ns.getD j 0 + x), 0 ≤ y ∧ y ≤ 100 + ((i + 1 : Nat) : Int) * 2000000 := by
  intro y hy
  have hg : ns.getD j 0 ∈ ns := by rw [List.getD_eq_getElem?_getD, List.getElem?_eq_getElem hj]; exact List.getElem_mem hj
  rcases List.mem_or_eq_of_mem_set hy with q | rfl
  · have := h y q; k_extra "om"
  · have := h _ hg; k_extra "om"
theorem on_DA1 : True := by
 k_with "q:k_room" => row_timed "f" (fail; ((try simp only [depth_under_make, depth_under_kw, depth_in1, depth_deeper]); (try dsimp only); first | k_extra "rm" | omega))
 k_with "q:k_units" => row_timed "f" (fail; ((try simp only [Around.deeper_units, Around.in1_units, Around.mark_units]); (try dsimp only); first | k_extra "rm" | omega))
 k_with "q:k_mem" => row_timed "f" (fail; (with_reducible_and_instances (repeat (first | exact List.Mem.head _ | refine List.Mem.tail _ ?_)); done))
 k_with "q:exec For Name Call cons nil" => row_timed "f" (fail; (k_here; (refine hold ?_)))
 trivial
section
variable {w : World} {A₀ : Around} {base h₀ : Heap} {env : Env} {outer : List Env} {dd uu : Nat} {gs : Option (List Code)} {L : Addr} {m mg mb : Str → Option Value} {s : Shared} {own : List (Addr × Obj)} {p : Program} {loose : List Str} {mean : ExcName → Option Value} {Q : Value → Shared → Prop} {E : Value → Shared → Prop}
  (B : Below A₀ base outer h₀) (F : Fr h₀ L s.heap m) (KX : (Mine.hd.heap_1 w.params).In h₀) (T : Top p loose mean mg mb h₀) (hf : env.frame = some L) (hke : env.scope.kind = .function)
include B F KX T hf hke
variable {sa : Addr} {vs : List Value} {xs : List Int}
theorem numbers_in (N : News h₀ L s.heap own) (hS : base.IsList sa vs.toArray) (hxs : IntsAre vs xs) (hz : xs.length ≤ 63) (G : AllBare s.gens)
   (hd : dd + 20 < recursionLimit) (hu : uu + 200 < cLine)
   (h : ∀ h' tk gs D ws ns c, Fr h₀ L h' m → AllBare gs → News h₀ L h' ((D, lsO ws c) :: own) → IntsAre ws ns → ns.length = 11 → (∀ x ∈ ns, 0 ≤ x ∧ x ≤ 200000000) → (∀ p ∈ own, @LT.lt Nat _ p.1 D) → Q (.ref D) { s with heap := h', toks := tk, gens := gs }) :
   wpAny (model rw_wn0107_02.row.toRowW.prog w) ⟨none, dd, some (env :: outer), gs, uu⟩ (call (.ref 238) [.ref sa]) Q E s := by
  revert KX; k_fill; intro KX
  refine wpAny_call ?_
  refine' code_def ?k1 ?k2 ?k3 ?k4 ?k5 ?kA ?kF ?kK ?k6 ?k7 ?k8 ?k9 ?kB ?_ ?c2 ?c3 ?c4 ?c5
  case kA => exact rfl
  case kF => exact hf
  case kK => exact hke
  case k1 => k_asm
  case k2 => k_asm
  case k3 => k_asm
  case k4 => k_asm
  case k5 => k_asm
  case k6 => k_is
  case k7 => k_is
  case k8 => show dd < recursionLimit; first | exact room0 (by assumption) | k_extra "om"
  case k9 => first | exact BindsTo.of_eq rfl | exact binds_K (by k_in) rfl (by k_is) rfl rfl rfl
  case c5 => decide
  case kB => exact locs rfl
  case c2 => exact rfl
  case c3 => exact rfl
  case c4 => exact rfl
  k_whole; intro g' L' h' FG' F' N' B' X' T'; (try dsimp only); (try k_lift B'); (try k_fold); clear B F KX N T FG'
  k_steps
  show wpAny _ _ _ _ _ _
  refine for_gen (by k_asm) (by passes_own) (by intro _; rfl) ?_
  k_steps
  rename News _ _ _ _ => N9
  refine ex_head N9 ?_
  rintro D9 rfl
  have hb22 : 0 ≤ (if (22 : Int) < xs.length then (22 : Int) else xs.length) ∧ (if (22 : Int) < xs.length then (22 : Int) else xs.length) ≤ xs.length ∧ (if (22 : Int) < xs.length then (22 : Int) else xs.length) ≤ 22 := by split <;> k_extra "om"
  refine' SrcF.of (fun i news => ∃ ws ns c, (D9, lsO ws c) ∈ news ∧ IntsAre ws ns ∧ ns.length = 11 ∧ (∀ x ∈ ns, 0 ≤ x ∧ x ≤ 100 + i * 2000000) ∧ ∀ p ∈ own, p ∈ news) (PM1 "k" _) ?W ?F ?PM ?N ?G ?S ?J0 ?turn ?fin
  case W => exact src_range (by rfl) (by assumption) (small_one (by k_extra "om") (by k_extra "om") (by k_extra "om") (by k_extra "om")) (rangeSize_nat _ _) (by k_extra "om")
  case F => k_asm
  case PM => exact PM1.refl
  case N => exact N9
  case G => exact G
  case S => trivial
  case J0 => exact ⟨_, _, _, .head _, .cons _ _ (.cons _ _ (.cons _ _ (.cons _ _ (.cons _ _ (.cons _ _ (.cons _ _ (.cons _ _ (.cons _ _ (.cons _ _ (.cons _ _ .nil)))))))))), rfl, by simp, fun p hp => .tail _ hp⟩
  case turn =>
    rintro i v news I oI m' h9 tk9 gs9 hi ⟨t, rfl⟩ ⟨o, rfl⟩ hJ9 - hoff G9 F9 N10
    refine wp_gen ?_
    intro Kt Et hKt hEt
    obtain ⟨ws, ns, c, hl, hns, hlen, hbd, hkeep⟩ := hJ9
    have hapI : @Ne Nat D9 I := hoff _ hl
    have N11 := subN (b := (D9, lsO ws c) :: (I, oI) :: own) N10 (fm (.tail _ hl) (fm (.head _) (fun p hp => .tail _ (hkeep p hp))))
    clear N9 N10
    k_steps
    (try refine hKt _ _ ?_)
    refine' EndF.of ((D9, _) :: own) G9 ?F ?PM ?N ?sub ?off trivial ⟨_, _, _, .head _, ?ia, ?il, ?bd, fun p hp => .tail _ hp⟩
    case F => k_asm
    case PM => (first | exact PM1.now | exact PM1.set PM1.now | exact PM1.set (PM1.set PM1.now))
    case N => k_asm
    case ia => assumption
    case il => rw [List.length_set]; exact hlen
    case sub => walk_at "sub9"
    case off => exact fm hapI (fun p hp => hoff p (hkeep p hp))
    case bd => exact bd_set hbd (by rw [hlen]; have := Int.fmod_lt_of_pos (0 + (i : Int) * 1) (b := 11) (by decide); have := fmod0 (0 + (i : Int) * 1) (b := 11) (by decide); k_extra "om") (fmod0 _ (by decide)) (Int.le_of_lt (Int.lt_of_lt_of_le (Int.fmod_lt_of_pos _ (by decide)) (by decide)))
  case fin =>
    rintro news m' h9 tk9 gs9 ⟨o, rfl⟩ ⟨ws, ns, c, hl, hns, hlen, hbd, hkeep⟩ G9 F9 N10
    have N11 := subN (b := (D9, lsO ws c) :: own) N10 (fm hl (fun p hp => hkeep p hp))
    clear N9 N10
    dsimp only
    k_steps
    show LeaveK _ _ _ _ _ _ _
    refine leaveK_ (by k_asm) (by k_asm) fun kF kN => ?_
    exact h _ _ _ _ _ _ _ kF G9 (subN kN (by walk_at "sub9")) hns hlen (fun x hx => ⟨(hbd x hx).1, by have := (hbd x hx).2; k_extra "om"⟩) (by assumption)
end
end
section
theorem off_DB : True := by
  k_with_none
  trivial
open PySem PySem.W PyProof.Rows PySem.Calls
noncomputable def lamIn (K : Frag) (f : Addr) : Option (Arguments × PySem.Expr × Scope) := match K.lookup f with
  | some ⟨_, _, .func fd, _⟩ => (match fd.body with
    | .stmts (_ :: .Assign _ (.Lambda a b s _) _ :: _) => some (a, b, s)
    | _ => none)
  | _ => none
noncomputable abbrev lamQ : Str := Str.ofString "_law_rule.<locals>.<lambda>"
noncomputable abbrev ruleD (P : Params) (t1 t2 t3 t4 t5 t6 : Tok) (ua ru f : Addr) (v : Bool) : Obj :=
  dictOf [⟨PyData.keyHash P "useragents", .str "useragents" t1, .ref ua⟩, ⟨PyData.keyHash P "rulelines", .str "rulelines" t2, .ref ru⟩,
    ⟨PyData.keyHash P "delay", .str "delay" t3, .none⟩, ⟨PyData.keyHash P "req_rate", .str "req_rate" t4, .none⟩, ⟨PyData.keyHash P "applies_to", .str "applies_to" t5, .ref f⟩, ⟨PyData.keyHash P "allowance", .str "allowance" t6, .bool v⟩] 6
noncomputable def LamTab (news : List (Addr × Obj)) (ps : Array Value) : Prop :=
  ps = #[] ∨ ∃ c' oc vs tq, ps = #[rawInt 173, rawInt 22, .ref c'] ∧ (c', oc) ∈ news ∧ oc.data = .fields vs ∧ (vs[1]? : Option Value) = some (.str lamQ tq)
theorem LamTab.mono {a b : List (Addr × Obj)} {ps : Array Value} (h : LamTab a ps) (hs : ∀ p ∈ a, p ∈ b) : LamTab b ps := by
  rcases h with h | ⟨c', oc, vs, tq, h1, h2, h3, h4⟩
  · exact .inl h
  · exact .inr ⟨c', oc, vs, tq, h1, hs _ h2, h3, h4⟩
noncomputable def RuleIn (P : Params) (pm : Value) (news : List (Addr × Obj)) (r : Addr) (path : Str) (v : Bool) : Prop :=
  ∃ d t1 t2 t3 t4 t5 t6 ua ru f a b sc K oK tp c' ctv oc vs tq, lamIn (Mine.hd.heap_1 P) 245 = some (a, b, sc) ∧ (r, instObj 59 d) ∈ news ∧ (d, ruleD P t1 t2 t3 t4 t5 t6 ua ru f v) ∈ news ∧
    (f, kla_obj "<lambda>" lamQ a b sc [(Str.ofString "path", K)] pm c' ctv) ∈ news ∧ (K, oK) ∈ news ∧ oK.data = .cell (some (.str path tp)) ∧ (c', oc) ∈ news ∧ oc.data = .fields vs ∧ (vs[1]? : Option Value) = some (.str lamQ tq)
theorem RuleIn.mono {P : Params} {pm : Value} {a b : List (Addr × Obj)} {r : Addr} {path : Str} {v : Bool} (h : RuleIn P pm a r path v) (hs : ∀ p ∈ a, p ∈ b) : RuleIn P pm b r path v := by
  obtain ⟨d, t1, t2, t3, t4, t5, t6, ua, ru, f, x, y, sc, K, oK, tp, c', ctv, oc, vs, tq, h1, h2, h3, h4, h5, h6, h7, h8, h9⟩ := h
  exact ⟨d, t1, t2, t3, t4, t5, t6, ua, ru, f, x, y, sc, K, oK, tp, c', ctv, oc, vs, tq, h1, hs _ h2, hs _ h3, hs _ h4, hs _ h5, h6, hs _ h7, h8, h9⟩
theorem RuleIn.elim {C : Prop} {P : Params} {pm : Value} {news : List (Addr × Obj)} {r : Addr} {path : Str} {v : Bool} (h : RuleIn P pm news r path v)
    (k : ∀ d t1 t2 t3 t4 t5 t6 ua ru f a b sc K oK tp c' ctv oc vs tq, lamIn (Mine.hd.heap_1 P) 245 = some (a, b, sc) → (r, instObj 59 d) ∈ news → (d, ruleD P t1 t2 t3 t4 t5 t6 ua ru f v) ∈ news →
      (f, kla_obj "<lambda>" lamQ a b sc [(Str.ofString "path", K)] pm c' ctv) ∈ news → (K, oK) ∈ news → oK.data = .cell (some (.str path tp)) → (c', oc) ∈ news → oc.data = .fields vs → (vs[1]? : Option Value) = some (.str lamQ tq) → C) : C := by
  obtain ⟨d, t1, t2, t3, t4, t5, t6, ua, ru, f, x, y, sc, K, oK, tp, c', ctv, oc, vs, tq, h1, h2, h3, h4, h5, h6, h7, h8, h9⟩ := h
  exact k d t1 t2 t3 t4 t5 t6 ua ru f x y sc K oK tp c' ctv oc vs tq h1 h2 h3 h4 h5 h6 h7 h8 h9
theorem rule_end {P : Params} {pm : Value} {h₀ h : Heap} {L f c' l1 l2 x d K ua ru : Addr} {q path : Str} {a : Arguments} {b : PySem.Expr} {sc : Scope} {ctv : Value} {oc o1 o2 oK : Obj} {vs ps : Array Value} {t1 t2 t3 t4 t5 t6 tp tq : Tok} {v : Bool} {own kw : List (Addr × Obj)} {G : Prop}
   (g : ∀ ps' fresh r, News h₀ L h ((240, tabObj ps') :: (fresh ++ own)) → RuleIn P pm (fresh ++ kw) r path v → LamTab (fresh ++ kw) ps' → (∀ p ∈ fresh, @LT.lt Nat _ 240 p.1 ∧ ∀ q ∈ own, @LT.lt Nat _ q.1 p.1) → r = x → G)
   (N : News h₀ L h ((f, kla_obj "<lambda>" q a b sc [(Str.ofString "path", K)] pm c' ctv) :: (c', oc) :: (l1, o1) :: (l2, o2) :: (x, instObj 59 d) :: (d, ruleD P t1 t2 t3 t4 t5 t6 ua ru f v) :: (K, oK) :: (240, tabObj ps) :: own))
   (hb : ∀ y ∈ [f, c', x, d, K], @LT.lt Nat _ 240 y ∧ ∀ q ∈ own, @LT.lt Nat _ q.1 y) (hq : q = lamQ) (hl : lamIn (Mine.hd.heap_1 P) 245 = some (a, b, sc)) (d1 : oK.data = .cell (some (.str path tp))) (d2 : oc.data = .fields vs) (d3 : (vs[1]? : Option Value) = some (.str q tq)) (hps : ps = #[rawInt 173, rawInt 22, .ref c']) : G := by
  subst hq
  refine g ps [(f, kla_obj "<lambda>" lamQ a b sc [(Str.ofString "path", K)] pm c' ctv), (c', oc), (x, instObj 59 d), (d, ruleD P t1 t2 t3 t4 t5 t6 ua ru f v), (K, oK)] x (subN N ?_) ⟨d, t1, t2, t3, t4, t5, t6, ua, ru, f, a, b, sc, K, oK, tp, c', ctv, oc, vs, tq, hl, .tail _ (.tail _ (.head _)), .tail _ (.tail _ (.tail _ (.head _))), .head _, .tail _ (.tail _ (.tail _ (.tail _ (.head _)))), d1, .tail _ (.head _), d2, d3⟩ (.inr ⟨c', oc, vs, tq, hps, .tail _ (.head _), d2, d3⟩) (fun p hp => ?_) rfl
  · exact fm (.tail _ (.tail _ (.tail _ (.tail _ (.tail _ (.tail _ (.tail _ (.head _)))))))) (fm (.head _) (fm (.tail _ (.head _)) (fm (.tail _ (.tail _ (.tail _ (.tail _ (.head _))))) (fm (.tail _ (.tail _ (.tail _ (.tail _ (.tail _ (.head _)))))) (fm (.tail _ (.tail _ (.tail _ (.tail _ (.tail _ (.tail _ (.head _))))))) fun p hp => .tail _ (.tail _ (.tail _ (.tail _ (.tail _ (.tail _ (.tail _ (.tail _ hp))))))))))))
  · exact hb p.1 (List.mem_map_of_mem (f := Prod.fst) hp)
theorem rule_end2 {P : Params} {pm : Value} {h₀ h : Heap} {L f c' l1 l2 x d K ua ru : Addr} {path q : Str} {a : Arguments} {b : PySem.Expr} {sc : Scope} {ctv : Value} {oc o1 o2 oK : Obj} {vs : Array Value} {t1 t2 t3 t4 t5 t6 tp tq : Tok} {v : Bool} {own kw : List (Addr × Obj)} {G : Prop}
   (g : ∀ ps' fresh r, News h₀ L h ((240, tabObj ps') :: (fresh ++ own)) → RuleIn P pm (fresh ++ kw) r path v → LamTab (fresh ++ kw) ps' → (∀ p ∈ fresh, @LT.lt Nat _ 240 p.1 ∧ ∀ q ∈ own, @LT.lt Nat _ q.1 p.1) → r = x → G)
   (N : News h₀ L h ((f, kla_obj "<lambda>" q a b sc [(Str.ofString "path", K)] pm c' ctv) :: (l1, o1) :: (l2, o2) :: (x, instObj 59 d) :: (d, ruleD P t1 t2 t3 t4 t5 t6 ua ru f v) :: (K, oK) :: (240, tabObj #[rawInt 173, rawInt 22, .ref c']) :: own))
   (hb : ∀ y ∈ [f, x, d, K], @LT.lt Nat _ 240 y ∧ ∀ q ∈ own, @LT.lt Nat _ q.1 y) (hq : q = lamQ) (hl : lamIn (Mine.hd.heap_1 P) 245 = some (a, b, sc)) (d1 : oK.data = .cell (some (.str path tp))) (hc : (c', oc) ∈ kw) (d2 : oc.data = .fields vs) (d3 : (vs[1]? : Option Value) = some (.str lamQ tq)) : G := by
  subst hq
  refine g #[rawInt 173, rawInt 22, .ref c'] [(f, kla_obj "<lambda>" lamQ a b sc [(Str.ofString "path", K)] pm c' ctv), (x, instObj 59 d), (d, ruleD P t1 t2 t3 t4 t5 t6 ua ru f v), (K, oK)] x (subN N ?_) ⟨d, t1, t2, t3, t4, t5, t6, ua, ru, f, a, b, sc, K, oK, tp, c', ctv, oc, vs, tq, hl, .tail _ (.head _), .tail _ (.tail _ (.head _)), .head _, .tail _ (.tail _ (.tail _ (.head _))), d1, List.mem_append_right _ hc, d2, d3⟩ (.inr ⟨c', oc, vs, tq, rfl, List.mem_append_right _ hc, d2, d3⟩) (fun p hp => ?_) rfl
  · exact fm (.tail _ (.tail _ (.tail _ (.tail _ (.tail _ (.tail _ (.head _))))))) (fm (.head _) (fm (.tail _ (.tail _ (.tail _ (.head _)))) (fm (.tail _ (.tail _ (.tail _ (.tail _ (.head _))))) (fm (.tail _ (.tail _ (.tail _ (.tail _ (.tail _ (.head _)))))) fun p hp => .tail _ (.tail _ (.tail _ (.tail _ (.tail _ (.tail _ (.tail _ hp))))))))))
  · exact hb p.1 (List.mem_map_of_mem (f := Prod.fst) hp)
theorem on_DB0 : True := by
 k_with_none
 k_with "ax" => first | assumption | exact ja0 ‹_› | exact ja1 ‹_› | exact je1 ‹_› | exact ja2 ‹_› | exact ja3 ‹_› | exact ja4 ‹_› | exact ja5 ‹_› | exact je5 ‹_› | exact ja6 ‹_› | exact ja7 ‹_› | exact je7 ‹_› | exact ja8 ‹_› | exact ja9 ‹_› | exact je13 ‹_› | exact je14 ‹_›
 k_with "nx" => with_reducible (first | (refine Nat.ne_of_lt ?_; (repeat (first | exact js | refine jl ?_)); all_goals k_extra "ax") | (refine Nat.ne_of_gt ?_; (repeat (first | exact js | refine jl ?_)); all_goals k_extra "ax") | k_extra "ax" | (refine Ne.symm ?_; k_extra "ax"))
 k_with "rm" => ((with_reducible first | exact room0 ‹_› | refine room1 ‹_› ?_ | refine room2 ‹_› ?_ | refine room3 ‹_› ?_ | refine room4 ‹_› ?_); all_goals exact rfl)
 k_with "om" => first | (with_reducible first | k_extra "ax" | exact jn ‹_› | exact jn (ja0 ‹_›) | (refine Nat.lt_trans ?_ ‹_›; k_extra "ax")) | decide | omega
 k_with "hk" => (with_reducible first | (refine hKq _ _ ?_; clear hKq; (try clear Kq)))
 k_with "q:execs cons" => (k_here; (with_reducible refine execs_consK ?_); intro Kq tkq hKq)
 k_with "q:k_ne" => (refine neN ?_; (try dsimp only); first | k_extra "nx" | omega)
 k_with "q:k_room" => row_timed "f" (fail; ((try simp only [depth_under_make, depth_under_kw, depth_in1, depth_deeper]); (try dsimp only); first | k_extra "rm" | omega))
 k_with "q:k_units" => row_timed "f" (fail; ((try simp only [Around.deeper_units, Around.in1_units, Around.mark_units]); (try dsimp only); first | k_extra "rm" | omega))
 k_with "q:k_mem" => row_timed "f" (fail; (with_reducible_and_instances (repeat (first | exact List.Mem.head _ | refine List.Mem.tail _ ?_)); done))
 trivial
section
variable {w : World} {A₀ : Around} {base h₀ : Heap} {env : Env} {outer : List Env} {dd uu : Nat} {gs : Option (List Code)} {L : Addr} {m mg mb : Str → Option Value} {s : Shared} {own : List (Addr × Obj)} {p : Program} {loose : List Str} {mean : ExcName → Option Value} {Q : Value → Shared → Prop} {E : Value → Shared → Prop}
  (B : Below A₀ base outer h₀) (F : Fr h₀ L s.heap m) (KX : (Mine.hd.heap_1 w.params).In h₀) (T : Top p loose mean mg mb h₀) (hf : env.frame = some L) (hke : env.scope.kind = .function)
include B F KX T hf hke
variable {t1 : Tok} {path : Str} {v : Bool} {o : Obj} {kw : List (Addr × Obj)}
theorem rule_miss (N : News h₀ L s.heap ((240, tabObj #[]) :: own)) (ho : OwnOff own [240])
   (hd : dd + 20 < recursionLimit) (hu : uu + 200 < cLine)
   (h : ∀ h' tk ps' fresh r, Fr h₀ L h' m → News h₀ L h' ((240, tabObj ps') :: (fresh ++ own)) → RuleIn w.params ((mg (Str.ofString "__name__")).getD .none) (fresh ++ kw) r path v → LamTab (fresh ++ kw) ps' → (∀ p ∈ fresh, @LT.lt Nat _ 240 p.1 ∧ ∀ q ∈ own, @LT.lt Nat _ q.1 p.1) → Q (.ref r) { s with heap := h', toks := tk }) :
   wpAny (model rw_wn0107_02.row.toRowW.prog w) ⟨none, dd, some (env :: outer), gs, uu⟩ (call (.ref 245) [.str path t1, .bool v]) Q E s := by
  revert KX; k_fill; intro KX
  refine wpAny_call ?_
  refine' code_defC ?k1 ?k2 ?k3 ?k4 ?k5 ?kA ?kF ?kK ?k6 ?k7 ?k8 ?k9 ?kB ?kD ?_ ?c2 ?c3 ?c4
  case kA => exact rfl
  case kF => exact hf
  case kK => exact hke
  case k1 => k_asm
  case k2 => k_asm
  case k3 => k_asm
  case k4 => k_asm
  case k5 => k_asm
  case k6 => k_is
  case k7 => k_is
  case k8 => show dd < recursionLimit; first | exact room0 (by assumption) | k_extra "om"
  case k9 => first | exact BindsTo.of_eq rfl | exact binds_K (by k_in) rfl (by k_is) rfl rfl rfl
  case kB => exact rfl
  case kD => decide +kernel
  case c2 => exact rfl
  case c3 => exact rfl
  case c4 => exact rfl
  k_whole; intro g' L' h' tk' cells' FG' F' N' Y' B' X' T' l1; (try k_lt l1); k_cells Y'; (try simp only [List.cons_append, List.nil_append] at N'); (try dsimp only); (try k_lift B'); (try k_fold); clear B F KX N T FG'
  have hLo := allLt_all l1.2
  have hC : CodeHd g' 244 240 := codeHd_of_K X' (by kernel_rfl)
  rename Obj => oK
  rename oK.data = _ => dx1
  have d1 : oK.data = .cell (some (.str path t1)) := dx1
  clear dx1
  k_steps
  show LeaveK _ _ _ _ _ _ _
  refine leaveK_ (by k_asm) (by k_asm) fun kF kN => ?_
  refine' rule_end (fun ps' fresh r N9 a1 a2 a3 e9 => ?gg) kN ?hb ?hq ?hl d1 (by assumption) (by assumption) ?hps
  case gg => exact (e9 ▸ h _ _ ps' fresh r kF N9 a1 a2 a3 : _)
  case hq => kernel_rfl
  case hl => kernel_rfl
  case hps => rfl
  case hb =>
    refine fm ?_ (fm ?_ (fm ?_ (fm ?_ (fm ?_ fun _ h => nomatch h))))
    all_goals (refine And.intro ?_ ?_)
    all_goals first
      | with_reducible k_extra "ax"
      | exact allLt_all (by with_reducible k_extra "ax")
      | (intro p hp; refine Nat.lt_trans (allLt_all ?_ p hp) ‹_›; with_reducible k_extra "ax")
      | (intro p hp; have hlo : @LT.lt Nat _ p.1 L' := hLo p hp; (show @LT.lt Nat _ _ _); k_extra "om")
      | (show @LT.lt Nat _ _ _; k_extra "om")
variable {c' : Addr} {oc : Obj} {vs : Array Value} {tq : Tok}
theorem rule_hit (N : News h₀ L s.heap ((240, tabObj #[rawInt 173, rawInt 22, .ref c']) :: own)) (ho : OwnOff own [240]) (hc : (c', oc) ∈ kw) (e2 : oc.data = .fields vs) (e3 : (vs[1]? : Option Value) = some (.str lamQ tq))
   (hd : dd + 20 < recursionLimit) (hu : uu + 200 < cLine)
   (h : ∀ h' tk ps' fresh r, Fr h₀ L h' m → News h₀ L h' ((240, tabObj ps') :: (fresh ++ own)) → RuleIn w.params ((mg (Str.ofString "__name__")).getD .none) (fresh ++ kw) r path v → LamTab (fresh ++ kw) ps' → (∀ p ∈ fresh, @LT.lt Nat _ 240 p.1 ∧ ∀ q ∈ own, @LT.lt Nat _ q.1 p.1) → Q (.ref r) { s with heap := h', toks := tk }) :
   wpAny (model rw_wn0107_02.row.toRowW.prog w) ⟨none, dd, some (env :: outer), gs, uu⟩ (call (.ref 245) [.str path t1, .bool v]) Q E s := by
  revert KX; k_fill; intro KX
  refine wpAny_call ?_
  refine' code_defC ?k1 ?k2 ?k3 ?k4 ?k5 ?kA ?kF ?kK ?k6 ?k7 ?k8 ?k9 ?kB ?kD ?_ ?c2 ?c3 ?c4
  case kA => exact rfl
  case kF => exact hf
  case kK => exact hke
  case k1 => k_asm
  case k2 => k_asm
  case k3 => k_asm
  case k4 => k_asm
  case k5 => k_asm
  case k6 => k_is
  case k7 => k_is
  case k8 => show dd < recursionLimit; first | exact room0 (by assumption) | k_extra "om"
  case k9 => first | exact BindsTo.of_eq rfl | exact binds_K (by k_in) rfl (by k_is) rfl rfl rfl
  case kB => exact rfl
  case kD => decide +kernel
  case c2 => exact rfl
  case c3 => exact rfl
  case c4 => exact rfl
  k_whole; intro g' L' h' tk' cells' FG' F' N' Y' B' X' T' l1; (try k_lt l1); k_cells Y'; (try simp only [List.cons_append, List.nil_append] at N'); (try dsimp only); (try k_lift B'); (try k_fold); clear B F KX N T FG'
  have hLo := allLt_all l1.2
  have hC : CodeHd g' 244 240 := codeHd_of_K X' (by kernel_rfl)
  rename Obj => oK
  rename oK.data = _ => dx1
  have d1 : oK.data = .cell (some (.str path t1)) := dx1
  clear dx1
  k_steps
  show LeaveK _ _ _ _ _ _ _
  refine leaveK_ (by k_asm) (by k_asm) fun kF kN => ?_
  refine' rule_end2 (fun ps' fresh r N9 a1 a2 a3 e9 => ?gg) kN ?hb ?hq ?hl d1 hc e2 e3
  case gg => exact (e9 ▸ h _ _ ps' fresh r kF N9 a1 a2 a3 : _)
  case hq => kernel_rfl
  case hl => kernel_rfl
  case hb =>
    refine fm ?_ (fm ?_ (fm ?_ (fm ?_ fun _ h => nomatch h)))
    all_goals (refine And.intro ?_ ?_)
    all_goals first
      | with_reducible k_extra "ax"
      | exact allLt_all (by with_reducible k_extra "ax")
      | (intro p hp; refine Nat.lt_trans (allLt_all ?_ p hp) ‹_›; with_reducible k_extra "ax")
      | (intro p hp; have hlo : @LT.lt Nat _ p.1 L' := hLo p hp; (show @LT.lt Nat _ _ _); k_extra "om")
      | (show @LT.lt Nat _ _ _; k_extra "om")
theorem rule_J {ps : Array Value} (N : News h₀ L s.heap ((240, tabObj ps) :: own)) (hL : LamTab kw ps) (ho : OwnOff own [240])
   (hd : dd + 20 < recursionLimit) (hu : uu + 200 < cLine)
   (h : ∀ h' tk ps' fresh r, Fr h₀ L h' m → News h₀ L h' ((240, tabObj ps') :: (fresh ++ own)) → RuleIn w.params ((mg (Str.ofString "__name__")).getD .none) (fresh ++ kw) r path v → LamTab (fresh ++ kw) ps' → (∀ p ∈ fresh, @LT.lt Nat _ 240 p.1 ∧ ∀ q ∈ own, @LT.lt Nat _ q.1 p.1) → Q (.ref r) { s with heap := h', toks := tk }) :
   wpAny (model rw_wn0107_02.row.toRowW.prog w) ⟨none, dd, some (env :: outer), gs, uu⟩ (call (.ref 245) [.str path t1, .bool v]) Q E s := by
  rcases hL with rfl | ⟨c', oc, vs, tq, rfl, h2, h3, h4⟩
  · exact rule_miss B F KX T hf hke N ho hd hu h
  · exact rule_hit B F KX T hf hke N ho h2 h3 h4 hd hu h
end
end
section
theorem off_DC : True := by
  k_with_none
  trivial
open PySem PySem.W PyProof.Rows PySem.Calls
noncomputable def lamObj (o : Obj) : Option (Arguments × PySem.Expr × Scope) := match o with
  | ⟨_, _, .func fd, _⟩ => (match fd.body with
    | .stmts (_ :: .Assign _ (.Lambda a b s _) _ :: _) => some (a, b, s)
    | _ => none)
  | _ => none
theorem lam_lit {K : Frag} {f : Addr} {o : Obj} {a a' : Arguments} {b b' : PySem.Expr} {sc sc' : Scope} {G : Prop} (hl : lamIn K f = some (a, b, sc)) (hk : K.lookup f = some o) (he : lamObj o = some (a', b', sc')) (h : a = a' → b = b' → sc = sc' → G) : G := by
  have e : lamIn K f = lamObj o := by
    obtain ⟨c, d, dt, sl⟩ := o
    unfold lamIn lamObj
    rw [hk]
    cases dt <;> rfl
  rw [e, he] at hl
  cases hl
  exact h rfl rfl rfl
theorem on_DC0 : True := by
 k_with_none
 k_with "ax" => first | assumption | exact ja0 ‹_› | exact ja1 ‹_› | exact je1 ‹_› | exact ja2 ‹_› | exact ja3 ‹_› | exact ja4 ‹_› | exact ja5 ‹_› | exact je5 ‹_› | exact ja6 ‹_› | exact ja7 ‹_› | exact je7 ‹_› | exact ja8 ‹_› | exact ja9 ‹_› | exact je13 ‹_› | exact je14 ‹_›
 k_with "nx" => with_reducible (first | (refine Nat.ne_of_lt ?_; (repeat (first | exact js | refine jl ?_)); all_goals k_extra "ax") | (refine Nat.ne_of_gt ?_; (repeat (first | exact js | refine jl ?_)); all_goals k_extra "ax") | k_extra "ax" | (refine Ne.symm ?_; k_extra "ax"))
 k_with "rm" => ((with_reducible first | exact room0 ‹_› | refine room1 ‹_› ?_ | refine room2 ‹_› ?_ | refine room3 ‹_› ?_ | refine room4 ‹_› ?_); all_goals exact rfl)
 k_with "om" => first | (with_reducible first | k_extra "ax" | exact jn ‹_› | exact jn (ja0 ‹_›) | (refine Nat.lt_trans ?_ ‹_›; k_extra "ax")) | decide | omega
 k_with "hk" => (with_reducible first | (refine hKq _ _ ?_; clear hKq; (try clear Kq)))
 k_with "q:k_ne" => (refine neN ?_; (try dsimp only); first | k_extra "nx" | omega)
 k_with "q:k_room" => row_timed "f" (fail; ((try simp only [depth_under_make, depth_under_kw, depth_in1, depth_deeper]); (try dsimp only); first | k_extra "rm" | omega))
 k_with "q:k_units" => row_timed "f" (fail; ((try simp only [Around.deeper_units, Around.in1_units, Around.mark_units]); (try dsimp only); first | k_extra "rm" | omega))
 k_with "q:k_mem" => row_timed "f" (fail; (with_reducible_and_instances (repeat (first | exact List.Mem.head _ | refine List.Mem.tail _ ?_)); done))
 k_with "q:eval Name" => row_timed "f" (fail; (k_here; k_dflt (refine' nameX_F ?NZ ?cZ ?mZ ?dZ ?_ ?aZ ?bZ; (case aZ | bZ => rfl); (case NZ => k_asm); (case cZ => rfl); (case mZ => k_mem); (case dZ => k_asm); k_whole)))
 k_with "q:call builtin:str.startswith" => row_timed "f" (fail; (k_here; k_dflt (refine SC.startswith ?_)))
 k_with "q:call builtin:len" => row_timed "f" (fail; (k_here; (with_reducible show wpAny _ _ (call (Value.builtin "len") [Value.str _ _]) _ _ _); k_dflt (refine PyProof.Rows.len_str (by k_extra "om") ?_)))
 trivial
section
variable {w : World} {A₀ : Around} {base h₀ : Heap} {env : Env} {outer : List Env} {dd uu : Nat} {gs : Option (List Code)} {L : Addr} {m mg mb : Str → Option Value} {s : Shared} {own : List (Addr × Obj)} {p : Program} {loose : List Str} {mean : ExcName → Option Value} {Q : Value → Shared → Prop} {E : Value → Shared → Prop}
  (B : Below A₀ base outer h₀) (F : Fr h₀ L s.heap m) (KX : (Mine.hd.heap_1 w.params).In h₀) (T : Top p loose mean mg mb h₀) (hf : env.frame = some L) (hke : env.scope.kind = .function)
include B F KX T hf hke
variable {f K c' : Addr} {a : Arguments} {b : PySem.Expr} {sc : Scope} {ctv pm : Value} {oc oK : Obj} {vs : Array Value} {path name : Str} {tp tq tn : Tok} {news : List (Addr × Obj)}
theorem lam_K (N : News h₀ L s.heap news) (hl : lamIn (Mine.hd.heap_1 w.params) 245 = some (a, b, sc)) (hf9 : (f, kla_obj "<lambda>" lamQ a b sc [(Str.ofString "path", K)] pm c' ctv) ∈ news) (hK : (K, oK) ∈ news) (d1 : oK.data = .cell (some (.str path tp))) (hc : (c', oc) ∈ news) (d2 : oc.data = .fields vs) (d3 : (vs[1]? : Option Value) = some (.str lamQ tq))
   (hp : path.length ≤ 1000) (hd : dd + 20 < recursionLimit) (hu : uu + 200 < cLine)
   (h : Txt.startswith name path = true → ∀ h' tk tv, Fr h₀ L h' m → News h₀ L h' news → Q (.int ((path.length : Int) + 1) tv) { s with heap := h', toks := tk })
   (h0 : Txt.startswith name path = false → ∀ h' tk tv, Fr h₀ L h' m → News h₀ L h' news → Q (.int 0 tv) { s with heap := h', toks := tk }) :
   wpAny (model rw_wn0107_02.row.toRowW.prog w) ⟨none, dd, some (env :: outer), gs, uu⟩ (call (.ref f) [.str name tn]) Q E s := by
  revert KX; k_fill; intro KX
  refine' lam_lit hl ?hk ?he ?_
  case hk => k_is
  case he => exact rfl
  intro ea eb es
  subst ea eb es
  refine wpAny_call ?_
  refine' kla_code B F KX N T rfl hf hke hf9 (codeRec_news N hc d2 d3) ?k8 ?k9 ?kB ?_ ?c2 ?c3 ?c4 ?c5
  case k8 => k_room
  case k9 => exact rfl
  case c5 => decide
  case kB => exact locs rfl
  case c2 => exact rfl
  case c3 => exact rfl
  case c4 => exact rfl
  k_whole; intro g' L' h' FG' F' N' B' X' T'; (try dsimp only); (try k_lift B'); (try k_fold); clear B F KX N T FG'
  k_steps
  · show LeaveK _ _ _ _ _ _ _
    refine leaveK_ (by k_asm) (by k_asm) fun kF kN => ?_
    have hc9 : Txt.startswith name path = true := by assumption
    exact h hc9 _ _ _ kF kN
  · show LeaveK _ _ _ _ _ _ _
    refine leaveK_ (by k_asm) (by k_asm) fun kF kN => ?_
    have hc9 : Txt.startswith name path = false := by assumption
    exact h0 hc9 _ _ _ kF kN
end
end
section
theorem off_DDA : True := by
  k_with_none
  trivial
open PySem PySem.W PyProof.Rows PySem.Calls
section
variable {prog : Program} {w : World} {A : Around} {E : Value → Shared → Prop} {s : Shared} {h₀ : Heap} {L : Addr} {env : Env} {iter target : PySem.Expr} {body : List Stmt} {pos : Pos} {Q : Flow → Shared → Prop}
noncomputable def SrcI (prog : Program) (w : World) (A : Around) (E : Value → Shared → Prop) (h₀ : Heap) (L : Addr) (env : Env) (target : PySem.Expr) (body : List Stmt) (Q : Flow → Shared → Prop) (xv : Value) (s₁ : Shared) : Prop :=
  ∃ (n : Nat) (P : Nat → Value → Prop) (src : List (Addr × Obj) → Prop) (J : Nat → List (Addr × Obj) → Prop) (PM : Nat → (Str → Option Value) → Prop) (news : List (Addr × Obj)) (o : Obj) (fp : List Addr) (St : Nat → Heap → Prop), SrcW prog w A h₀ L xv s₁ n P src o fp St ∧ (∃ m', PM 0 m' ∧ Fr h₀ L s₁.heap m') ∧ News h₀ L s₁.heap news ∧ AllBare s₁.gens ∧ src news ∧ J 0 news ∧
    (∀ i v news I oI m' h tk gs, i < n → P i v → PM i m' → J i news → src news → (∀ p ∈ news, @Ne Nat p.1 I) → AllBare gs → Fr h₀ L h m' → News h₀ L h ((I, oI) :: news) →
      wpAny (model prog w) A (assign target env v) (fun _ s₂ => wpAny (model prog w) A (execs body env) (EndF h₀ L (PM (i + 1)) I oI src (J (i + 1)) s₁) E s₂) E { s₁ with heap := h, toks := tk, gens := gs }) ∧
    ∀ news m' h tk gs, PM n m' → J n news → AllBare gs → Fr h₀ L h m' → News h₀ L h news → Q .next { s₁ with heap := h, toks := tk, gens := gs }
theorem SrcI.of {xv : Value} {s₁ : Shared} {n : Nat} {P : Nat → Value → Prop} {src : List (Addr × Obj) → Prop} {news : List (Addr × Obj)} {o : Obj} {fp : List Addr} {St : Nat → Heap → Prop} {m₁ : Str → Option Value} (J : Nat → List (Addr × Obj) → Prop) (PM : Nat → (Str → Option Value) → Prop)
    (W : SrcW prog w A h₀ L xv s₁ n P src o fp St) (F : Fr h₀ L s₁.heap m₁) (hPM : PM 0 m₁) (N : News h₀ L s₁.heap news) (G : AllBare s₁.gens) (hS : src news) (hJ : J 0 news)
    (turn : ∀ i v news I oI m' h tk gs, i < n → P i v → PM i m' → J i news → src news → (∀ p ∈ news, @Ne Nat p.1 I) → AllBare gs → Fr h₀ L h m' → News h₀ L h ((I, oI) :: news) →
      wpAny (model prog w) A (assign target env v) (fun _ s₂ => wpAny (model prog w) A (execs body env) (EndF h₀ L (PM (i + 1)) I oI src (J (i + 1)) s₁) E s₂) E { s₁ with heap := h, toks := tk, gens := gs })
    (fin : ∀ news m' h tk gs, PM n m' → J n news → AllBare gs → Fr h₀ L h m' → News h₀ L h news → Q .next { s₁ with heap := h, toks := tk, gens := gs }) :
    SrcI prog w A E h₀ L env target body Q xv s₁ := ⟨n, P, src, J, PM, news, o, fp, St, W, ⟨m₁, hPM, F⟩, N, G, hS, hJ, turn, fin⟩
theorem for_genI {m₀ : Str → Option Value} (_F₀ : Fr h₀ L s.heap m₀) (hE : PassesOwn (model prog w) A env E) (hs : ∀ x, foldedSetIterable iter env x = pure x)
    (h : wpAny (model prog w) A (eval iter env) (SrcI prog w A E h₀ L env target body Q) E s) :
    wpAny (model prog w) A (exec (.For target iter body [] pos) env) Q E s := by
  refine for_start (wpAny_mono h (fun xv s₁ h₁ => ?_) fun _ _ z => z) hs
  obtain ⟨n, P, src, J, PM, news, o, fp, St, W, ⟨m', hPM, F⟩, N, G, hS, hJ, turn, fin⟩ := h₁
  refine W.it ?_
  have hI₀ : h₀.get? s₁.heap.objs.size = none := by
    cases e : h₀.get? s₁.heap.objs.size with
    | none => rfl
    | some o' => exact absurd (Heap.lt_size (F.keep _ _ e)) (Nat.lt_irrefl _)
  have hIL : L ≠ s₁.heap.objs.size := Nat.ne_of_lt F.ns.lt
  have up : ∀ b o', s₁.heap.get? b = some o' → (s₁.heap.push o).get? b = some o' := fun b o' e => Heap.get?_push_of_some _ e
  let Inv : Nat → Shared → Prop := fun i s' => ∃ h tk gs news m', s' = { s₁ with heap := h, toks := tk, gens := gs } ∧ St i h ∧ PM i m' ∧ Fr h₀ L h m' ∧ News h₀ L h news ∧ (∀ p ∈ news, @Ne Nat p.1 s₁.heap.objs.size) ∧ AllBare gs ∧ src news ∧ J i news
  refine for_indG Inv n hE ?_ ?_ n 0 _ (Nat.zero_add _) ⟨_, s₁.toks, s₁.gens, news, m', rfl, W.st, hPM, F.keeps up, N.grown up, fun p hp => Nat.ne_of_lt (Heap.lt_size (N p hp).1), G, hS, hJ⟩
  · rintro i s' hi ⟨h, tk, gs, news, m', rfl, hst, hPM, F', N', off, G', hS', hJ'⟩
    refine W.walks.item i { s₁ with heap := h, toks := tk, gens := gs } _ _ hi hst fun v h₂ tk₂ hPv hst₂ hk₂ => ⟨v, rfl, W.go _ _ _ _ hst₂ ?_⟩
    have hk : ∀ b o, b ≠ s₁.heap.objs.size → h.get? b = some o → h₂.get? b = some o := fun b o hb e => hk₂ b o (by simpa using hb) e
    obtain ⟨oI, heI⟩ := W.io _ _ hst₂
    have F₂ : Fr h₀ L h₂ m' := ⟨F'.ns.at' fun o e => hk _ o hIL e, fun c o e => hk c o (fun q => by rw [q, hI₀] at e; cases e) (F'.keep c o e), F'.above⟩
    have N₂ : News h₀ L h₂ ((s₁.heap.objs.size, oI) :: news) := fun p hp => by
      rcases List.mem_cons.mp hp with rfl | hp
      · exact ⟨heI, Ne.symm hIL, hI₀⟩
      · exact ⟨hk _ _ (off p hp) (N' p hp).1, (N' p hp).2⟩
    refine wpAny_mono (turn i v news _ oI m' h₂ tk₂ gs hi hPv hPM hJ' hS' off G' F₂ N₂) (fun _ s₂ h₂ => wpAny_mono h₂ (fun f s₃ h₃ => ?_) fun _ _ z => z) fun _ _ z => z
    obtain ⟨rfl, h₅, tk₅, gs₅, news₅, m₅, rfl, G₅, hPM₅, F₅, N₅, off₅, hS₅, J₅⟩ := h₃
    have N₅' : News h₀ L h₅ news₅ := fun p hp => N₅ p (.tail _ hp)
    exact ⟨rfl, h₅, tk₅, gs₅, news₅, m₅, rfl, W.keep _ _ _ _ _ hst₂ heI (N₅ _ (.head _)).1 N₅' hS₅, hPM₅, F₅, N₅', off₅, G₅, hS₅, J₅⟩
  · rintro s' ⟨h, tk, gs, news, m', rfl, hst, hPM, F', N', off, G', hS', hJ'⟩
    refine W.walks.done { s₁ with heap := h, toks := tk, gens := gs } _ _ hst fun h₂ tk₂ hk₂ => ⟨rfl, wpAny_execs_nil ?_⟩
    have hk : ∀ b o, b ≠ s₁.heap.objs.size → h.get? b = some o → h₂.get? b = some o := fun b o hb e => hk₂ b o (by simpa using hb) e
    exact fin news m' h₂ tk₂ gs hPM hJ' G' ⟨F'.ns.at' fun o e => hk _ o hIL e, fun c o e => hk c o (fun q => by rw [q, hI₀] at e; cases e) (F'.keep c o e), F'.above⟩ fun p hp => ⟨hk _ _ (off p hp) (N' p hp).1, (N' p hp).2⟩
end
end
section
theorem off_DDB : True := by
  k_with_none
  trivial
open PySem PySem.W PyProof.Rows PySem.Calls
section
variable {prog : Program} {w : World} {A : Around} {E : Value → Shared → Prop} {s : Shared} {K : Frag} {x C L f : Addr} {ox : Obj} {od : Obj} {name : Str} {h₀ : Heap} {m : Str → Option Value} {es : List DictEntry} {n : Nat} {a g v : Value}
theorem findObj_shadow (hh : hasDictIn K C = true) (ha : findIn K (.ref C) name = some (some a)) (hg : specialIn K a "__get__" = some (some g)) (ht : takesIn K a = some false) (hl : lookIn name od = some (some v)) :
    findObj K C (some od) name = some (.value v) := by
  obtain ⟨cd, hc, hd⟩ := any_some hh
  unfold findObj
  rw [hc, Option.bind_some, ha, Option.bind_some]
  have ho : W.ownOf cd (some od) name = some (some v) := by unfold W.ownOf; rw [if_pos hd]; exact hl
  simp [hg, ht, ho]
theorem get_shadow {expr : Bool} {Q : Value → Shared → Prop} (F : Fr h₀ L s.heap m) (X₀ : K.In h₀) (I : InstAt s.heap x ox C (some (dictOf es n))) (hp : plainGet K C name = true) (hh : hasDictIn K C = true)
    (ha : findIn K (.ref C) name = some (some a)) (hg : specialIn K a "__get__" = some (some g)) (ht : takesIn K a = some false) (hl : getL name es = some (some v)) (hv : handedIn v = true) (h : Q v { s with toks := s.toks + 1 }) :
    wpAny (model prog w) A (getAttr (.ref x) name expr) Q E s :=
  get_value (X₀.keeps F.keep) I (plainGet_of hp).1 (findObj_shadow hh ha hg ht (by rw [lookIn_dict, hl])) hv h
theorem method_shadow {pl : Sem Bool} {Q : Value × List Value → Shared → Prop} (F : Fr h₀ L s.heap m) (X₀ : K.In h₀) (I : InstAt s.heap x ox C (some (dictOf es n))) (hp : plainGet K C name = true)
    (hf : findIn K (.ref C) name = some (some (.ref f))) (ht : isFn K (.ref f) = true) (hl : getL name es = some (some v))
    (h : wpAny (model prog w) A (getAttr (.ref x) name) (fun v => Q (v, [])) E s) : wpAny (model prog w) A (getMethod (.ref x) name pl) Q E s := by
  have X := X₀.keeps F.keep
  have hcan := PySem.F.canon_object_ga
  have u : wpAny (model prog w) A (do return (← getAttr (.ref x) name, ([] : List Value))) Q E s := wpAny_bind (wpAny_mono h (fun _ _ z => wpAny_pure z) fun _ _ z => z)
  unfold getMethod specialOf
  refine wpAny_bind (wpAny_bind (I.type.here ((looks_findIn X (plainGet_of hp).1).here ?_)))
  dsimp only
  rw [hcan, if_neg (by decide)]
  refine wpAny_bind (wpAny_bind (I.type.here ((looks_findIn X (plainGet_of hp).2).here ?_)))
  refine wpAny_bind (wpAny_bind (I.type.here ((looks_findIn X hf).here (wpAny_bind ((looks_typeIn X (beq_iff_eq.mp ht)).here ?_)))))
  rw [if_neg (by decide +kernel)]
  refine wpAny_bind (wpAny_loadPart I.at_ ?_)
  have hd := I.dict
  cases e : ox.dict with
  | none => rw [e] at hd; exact hd.elim
  | some dx =>
    rw [e] at hd
    refine wpAny_bind (wpAny_bind (wpAny_loadPart hd ?_))
    rw [nsLook_of (show lookIn name (dictOf es n) = some (some v) by rw [lookIn_dict, hl])]
    exact wpAny_pure u
end
end
section
theorem off_DDC : True := by
  k_with_none
  trivial
open PySem PySem.W PyProof.Rows PySem.Calls
section
variable {prog : Program} {w : World} {A : Around} {E : Value → Shared → Prop} {s : Shared} {h₀ : Heap} {L D : Addr} {m : Str → Option Value} {news : List (Addr × Obj)} {g : Obj → List (Addr × Obj)}
theorem app_K {vs : List Value} {n : Nat} {v : Value} {Q : Value → Shared → Prop} (F : Fr h₀ L s.heap m) (N : News h₀ L s.heap news) (U : UpdF D (lsO vs n) news g) (hz : vs.length ≤ 10000)
    (h : ∀ h', Fr h₀ L h' m → News h₀ L h' (g (lsO (vs ++ [v]) (n + 1))) → Q .none { s with heap := h' }) : wpAny (model prog w) A (call (.builtin "list.append") [.ref D, v]) Q E s := by
  have hm : (D, lsO vs n) ∈ news := by
    obtain ⟨pre, post, rfl, -⟩ := U.split
    exact List.mem_append.mpr (.inr (.head _))
  refine append_at (hsz := by rw [List.size_toArray, sizeLine_eq]; omega) (N _ hm).1 fun h' hs' hD' => ?_
  have e : ({ cls := .type "list", data := .seq (vs.toArray.push v) (n + 1) } : Obj) = lsO (vs ++ [v]) (n + 1) := by simp [lsO]
  rw [e] at hD'
  obtain ⟨F2, N2⟩ := upd_ext F N U hs'.extBut hD'
  exact h h' F2 N2
end
section
variable {prog : Program} {w : World} {A : Around} {E : Value → Shared → Prop} {s : Shared} {h₀ : Heap} {L l : Addr} {m : Str → Option Value} {news : List (Addr × Obj)} {u : Tok} {Q : Value → Shared → Prop}
theorem item_T {value slice : PySem.Expr} {vs : List Value} {ts : List Str} {n : Nat} {k : Int} {a : Str} (N : News h₀ L s.heap news) (hl : (l, lsO vs n) ∈ news) (hT : TextsAre vs ts) (h0 : 0 ≤ k) (hhi : k < 2 ^ 63) (hx : ts[k.toNat]? = some a) (h : ∀ t, Q (.str a t) s)
    (hs : subscripted slice false (.ref l) (.int k u) = operate [.ref l, .int k u] (getItem (.ref l) (.int k u)) := by with_unfolding_all rfl) :
    wpAny (model prog w) A (subscriptTail value slice (.ref l) (.int k u)) Q E s := by
  obtain ⟨t, ht⟩ := texts_at hT hx
  exact item_at ⟨_, (N _ hl).1, rfl, n, rfl⟩ h0 hhi ht (h t) hs
end
end
section
theorem off_DD : True := by
  k_with_none
  trivial
open PySem PySem.W PyProof.Rows PySem.Calls
theorem on_DD0 : True := by
 k_with_none
 k_with "ax" => first | assumption | exact ja0 ‹_› | exact ja1 ‹_› | exact je1 ‹_› | exact ja2 ‹_› | exact ja3 ‹_› | exact ja4 ‹_› | exact ja5 ‹_› | exact je5 ‹_› | exact ja6 ‹_› | exact ja7 ‹_› | exact je7 ‹_› | exact ja8 ‹_› | exact ja9 ‹_› | exact je13 ‹_› | exact je14 ‹_›
 k_with "nx" => with_reducible (first | (refine Nat.ne_of_lt ?_; (repeat (first | exact js | refine jl ?_)); all_goals k_extra "ax") | (refine Nat.ne_of_gt ?_; (repeat (first | exact js | refine jl ?_)); all_goals k_extra "ax") | k_extra "ax" | (refine Ne.symm ?_; k_extra "ax"))
 k_with "rm" => ((with_reducible first | exact room0 ‹_› | refine room1 ‹_› ?_ | refine room2 ‹_› ?_ | refine room3 ‹_› ?_ | refine room4 ‹_› ?_); all_goals exact rfl)
 k_with "om" => first | (with_reducible first | k_extra "ax" | exact jn ‹_› | exact jn (ja0 ‹_›) | (refine Nat.lt_trans ?_ ‹_›; k_extra "ax")) | decide | omega
 k_with "hk" => (with_reducible first | (refine hKq _ _ ?_; clear hKq; (try clear Kq)) | (refine hKt _ _ ?_; clear hKt; (try clear Kt)) | (refine hK0 _ _ ?_; clear hK0; (try clear K0)))
 k_with "q:execs cons" => (k_here; (with_reducible refine execs_consK ?_); intro Kq tkq hKq)
 k_with "q:k_ne" => (refine neN ?_; (try dsimp only); first | k_extra "nx" | omega)
 k_with "q:sub9" => row_timed "f" (fail; (repeat' (first | (refine fm (by k_mem) ?_) | exact List.forall_mem_nil _ | (intro pZ hpZ; (repeat (first | with_reducible_and_instances exact hpZ | with_reducible_and_instances exact List.mem_append_right _ hpZ | refine List.Mem.tail _ ?_)); done) | exact fun _ hpZ => hpZ | (intro pZ hpZ; (repeat (first | exact hpZ | exact List.mem_append_right _ hpZ | refine List.Mem.tail _ ?_))))))
 trivial
structure RulesIn (P : Params) (pm : Value) (news : List (Addr × Obj)) (vs : List Value) (rs : List (Str × Bool)) : Prop where
  len : vs.length = rs.length
  get : ∀ (i : Nat) (q : Str × Bool), rs[i]? = some q → ∃ r, (vs[i]? : Option Value) = some (Value.ref r) ∧ RuleIn P pm news r q.1 q.2
theorem RulesIn.mono {P : Params} {pm : Value} {a b : List (Addr × Obj)} {vs : List Value} {rs : List (Str × Bool)} (h : RulesIn P pm a vs rs) (hs : ∀ p ∈ a, p ∈ b) : RulesIn P pm b vs rs :=
  ⟨h.len, fun i q e => by obtain ⟨r, h1, h2⟩ := h.get i q e; exact ⟨r, h1, h2.mono hs⟩⟩
theorem RulesIn.one {P : Params} {pm : Value} {news : List (Addr × Obj)} {r : Addr} {p : Str} {v : Bool} (hr : RuleIn P pm news r p v) : RulesIn P pm news [.ref r] [(p, v)] :=
  ⟨rfl, fun i q e => by
    cases i with
    | zero => cases e; exact ⟨r, rfl, hr⟩
    | succ j => simp at e⟩
theorem RulesIn.app {P : Params} {pm : Value} {news : List (Addr × Obj)} {vs ws : List Value} {rs qs : List (Str × Bool)} (h : RulesIn P pm news vs rs) (g : RulesIn P pm news ws qs) : RulesIn P pm news (vs ++ ws) (rs ++ qs) := by
  refine ⟨by simp [h.len, g.len], fun i q e => ?_⟩
  by_cases hi : i < rs.length
  · rw [List.getElem?_append_left hi] at e
    obtain ⟨r', h1, h2⟩ := h.get i q e
    exact ⟨r', by rw [List.getElem?_append_left (by rw [h.len]; exact hi)]; exact h1, h2⟩
  · rw [List.getElem?_append_right (by k_extra "om")] at e
    obtain ⟨r', h1, h2⟩ := g.get _ q e
    exact ⟨r', by rw [List.getElem?_append_right (by rw [h.len]; k_extra "om"), h.len]; exact h1, h2⟩
structure AlFr (m0 : Str → Option Value) (a : Int × Bool) (m' : Str → Option Value) : Prop where
  best : ∃ t, m' "best_match" = some (.int a.1 t)
  al : m' "allowance" = some (.bool a.2)
  rest : ∀ y, y ∉ ([Str.ofString "best_match", Str.ofString "allowance", Str.ofString "line", Str.ofString "m"] : List Str) → m' y = m0 y
theorem AlFr.start {m0 : Str → Option Value} {a : Int × Bool} (h1 : ∃ t, m0 "best_match" = some (.int a.1 t)) (h2 : m0 "allowance" = some (.bool a.2)) : AlFr m0 a m0 := ⟨h1, h2, fun _ _ => rfl⟩
theorem AlFr.is {m0 m' : Str → Option Value} {a : Int × Bool} (h : AlFr m0 a m') : ∃ ol om t, m' = fun y => if y = Str.ofString "line" then ol else if y = Str.ofString "m" then om else if y = Str.ofString "best_match" then some (.int a.1 t) else if y = Str.ofString "allowance" then some (.bool a.2) else m0 y := by
  obtain ⟨⟨t, h1⟩, h2, h3⟩ := h
  refine ⟨m' (Str.ofString "line"), m' (Str.ofString "m"), t, ?_⟩
  funext y
  by_cases q1 : y = Str.ofString "line"
  · rw [if_pos q1, q1]
  rw [if_neg q1]
  by_cases q2 : y = Str.ofString "m"
  · rw [if_pos q2, q2]
  rw [if_neg q2]
  by_cases q3 : y = Str.ofString "best_match"
  · rw [if_pos q3, q3]; exact h1
  rw [if_neg q3]
  by_cases q4 : y = Str.ofString "allowance"
  · rw [if_pos q4, q4]; exact h2
  rw [if_neg q4]
  exact h3 y (by simp [q1, q2, q3, q4])
section
variable {U : Str} {best : Int} {al : Bool} {q : Str × Bool}
theorem rs_far (h : Txt.startswith U q.1 = true) (h1 : best < (q.1.length : Int) + 1) : ruleStep U (best, al) q = ((q.1.length : Int) + 1, q.2) := by
  unfold ruleStep; rw [if_pos h, if_pos h1]
theorem rs_tie (h : Txt.startswith U q.1 = true) (h1 : ¬ best < (q.1.length : Int) + 1) (h2 : (q.1.length : Int) + 1 = best) (h3 : al = false) : ruleStep U (best, al) q = (best, q.2) := by
  unfold ruleStep; rw [if_pos h, if_neg h1, if_pos ⟨h2, h3⟩]
theorem rs_stay (h : Txt.startswith U q.1 = true) (h1 : ¬ best < (q.1.length : Int) + 1) (h3 : al = true) : ruleStep U (best, al) q = (best, al) := by
  unfold ruleStep; rw [if_pos h, if_neg h1, if_neg (by simp [h3])]
theorem rs_less (h : Txt.startswith U q.1 = true) (h1 : ¬ best < (q.1.length : Int) + 1) (h2 : (q.1.length : Int) + 1 ≠ best) : ruleStep U (best, al) q = (best, al) := by
  unfold ruleStep; rw [if_pos h, if_neg h1, if_neg (by simp [h2])]
theorem rs_off (h : Txt.startswith U q.1 = false) : ruleStep U (best, al) q = (best, al) := by
  unfold ruleStep; rw [if_neg (by rw [h]; decide)]
end
theorem ex_fr {C : Prop} {h₀ h : Heap} {L : Addr} {m : Str → Option Value} (F : Fr h₀ L h m) (k : ∀ m', m' = m → Fr h₀ L h m' → C) : C := k m rfl F
theorem on_DD1 : True := by
 k_with "q:k_room" => row_timed "f" (fail; ((try simp only [depth_under_make, depth_under_kw, depth_in1, depth_deeper]); (try dsimp only); first | k_extra "rm" | omega))
 k_with "q:k_units" => row_timed "f" (fail; ((try simp only [Around.deeper_units, Around.in1_units, Around.mark_units]); (try dsimp only); first | k_extra "rm" | omega))
 k_with "q:k_mem" => row_timed "f" (fail; (with_reducible_and_instances (repeat (first | exact List.Mem.head _ | refine List.Mem.tail _ ?_)); done))
 k_with "q:exec For Name Attribute cons nil" => row_timed "f" (fail; (k_here; (refine hold ?_)))
 k_with "q:call ref" => row_timed "f" (fail; (k_here; (refine hold ?_)))
 k_with "q:getMethod ref" => row_timed "f" (fail; (k_here; (with_reducible show wpAny _ _ (getMethod (Value.ref _) (Str.ofString "applies_to") _) _ _ _); k_dflt (refine' method_shadow ?k1Z ?k2Z ?k3Z ?k4Z ?k5Z ?k6Z ?k7Z ?_; (case k1Z | k2Z => k_asm); (case k3Z => k_inst); (case k4Z | k5Z | k6Z => k_is); (case k7Z => k_get); k_whole)))
 k_with "q:getAttr ref" => row_timed "f" (fail; (k_here; (first | (with_reducible show wpAny _ _ (getAttr (Value.ref _) (Str.ofString "applies_to") _) _ _ _) | (with_reducible show wpAny _ _ (getAttr (Value.ref _) (Str.ofString "allowance") _) _ _ _)); k_dflt (refine' get_shadow ?k1Z ?k2Z ?k3Z ?k4Z ?k5Z ?k6Z ?k7Z ?k8Z ?k9Z ?k10Z ?_; (case k1Z | k2Z => k_asm); (case k3Z => k_inst); (case k4Z | k5Z => k_is); (case k6Z | k7Z | k8Z => k_is); (case k9Z => k_get); (case k10Z => k_handed); k_whole)))
 k_with "q:callWith ref" => row_timed "f" (fail; (k_here; k_dflt (first
      | (refine' callWith_F ?k1Z ?_; (case k1Z => exact FnAt.of (by k_asm) (by k_mem)); k_whole)
      | (refine' callWith_F0 ?k1Z ?_; (case k1Z => exact FnAt.of (by k_asm) (by k_mem)); k_whole; try dsimp only [List.nil_append, List.cons_append]))))
 trivial
section
variable {w : World} {A₀ : Around} {base h₀ : Heap} {env : Env} {outer : List Env} {dd uu : Nat} {gs : Option (List Code)} {L : Addr} {m mg mb : Str → Option Value} {s : Shared} {own : List (Addr × Obj)} {p : Program} {loose : List Str} {mean : ExcName → Option Value} {Q : Value → Shared → Prop} {E : Value → Shared → Prop}
  (B : Below A₀ base outer h₀) (F : Fr h₀ L s.heap m) (KX : (Mine.hd.heap_1 w.params).In h₀) (T : Top p loose mean mg mb h₀) (hf : env.frame = some L) (hke : env.scope.kind = .function)
include B F KX T hf hke
variable {e1 d1 a1 r1 : Addr} {t1 t2 t3 t4 tu : Tok} {va1 vr1 : List Value} {n1 n2 : Nat} {rs : List (Str × Bool)} {U : Str} {pm : Value}
theorem allow_in (N : News h₀ L s.heap ((e1, instObj 59 d1) :: (d1, entD w.params t1 t2 t3 t4 a1 r1) :: (r1, lsO vr1 n2) :: own))
   (hR : RulesIn w.params pm own vr1 rs) (hz1 : rs.length ≤ 100) (hwl : ∀ q ∈ rs, q.1.length ≤ 1000) (G : AllBare s.gens)
   (hd : dd + 40 < recursionLimit) (hu : uu + 300 < cLine)
   (h : ∀ h' tk gs, Fr h₀ L h' m → AllBare gs → News h₀ L h' ((e1, instObj 59 d1) :: (d1, entD w.params t1 t2 t3 t4 a1 r1) :: (r1, lsO vr1 n2) :: own) → Q (.bool (allowOf U rs)) { s with heap := h', toks := tk, gens := gs }) :
   wpAny (model rw_wn0107_02.row.toRowW.prog w) ⟨none, dd, some (env :: outer), gs, uu⟩ (call (.ref 56) [.ref e1, .str U tu]) Q E s := by
  revert KX; k_fill; intro KX
  refine wpAny_call ?_
  refine' code_def ?k1 ?k2 ?k3 ?k4 ?k5 ?kA ?kF ?kK ?k6 ?k7 ?k8 ?k9 ?kB ?_ ?c2 ?c3 ?c4 ?c5
  case kA => exact rfl
  case kF => exact hf
  case kK => exact hke
  case k1 => k_asm
  case k2 => k_asm
  case k3 => k_asm
  case k4 => k_asm
  case k5 => k_asm
  case k6 => k_is
  case k7 => k_is
  case k8 => show dd < recursionLimit; first | exact room0 (by assumption) | k_extra "om"
  case k9 => first | exact BindsTo.of_eq rfl | exact binds_K (by k_in) rfl (by k_is) rfl rfl rfl
  case c5 => decide
  case kB => exact locs rfl
  case c2 => exact rfl
  case c3 => exact rfl
  case c4 => exact rfl
  k_whole; intro g' L' h' FG' F' N' B' X' T'; (try dsimp only); (try k_lift B'); (try k_fold); clear B F KX N T FG'
  k_steps
  show wpAny _ _ _ _ _ _
  refine for_genI (by k_asm) (by passes_own) (by intro _; rfl) ?_
  k_steps
  rename News _ _ _ _ => N9
  refine ex_led N9 ?_
  intro led hled N9'
  rename Fr _ _ _ _ => F8
  refine ex_fr F8 ?_
  intro mB hmB F8'
  have hown : ∀ p ∈ own, p ∈ led := fun p hp => by rw [hled]; simp [hp]
  refine' SrcI.of (fun i news => ∀ p ∈ led, p ∈ news) (fun i => AlFr mB ((rs.take i).foldl (ruleStep U) (-1, true))) ?W ?F ?PM ?N ?G ?S ?J0 ?turn ?fin
  case W => exact src_list (vs := vr1) (by rfl) N9' (by rw [hled]; k_mem) (by rw [hR.len]; k_extra "om")
  case F => exact F8'
  case PM => exact AlFr.start ⟨_, by rw [hmB]; rfl⟩ (by rw [hmB]; rfl)
  case N => exact N9'
  case G => exact G
  case S => rw [hled]; k_mem
  case J0 => exact fun p hp => hp
  case turn =>
    intro i v news I oI m' h9 tk9 gs9 hi hv hPM hkeep hsrc hoff G9 F9 N10
    refine wp_gen ?_
    intro Kt Et hKt hEt
    obtain ⟨ol, om, tb, em⟩ := hPM.is
    rw [em, hmB] at F9
    obtain ⟨q, hq⟩ : ∃ q, rs[i]? = some q := ⟨_, List.getElem?_eq_getElem (by rw [← hR.len]; exact hi)⟩
    obtain ⟨r, hr, hRI⟩ := hR.get i q hq
    have hvr : v = .ref r := Option.some.inj (hv.symm.trans hr)
    refine hRI.elim fun d w1 w2 w3 w4 w5 w6 ua ru f xa xb xs K oK tp c' ctv oc vs tq g1 g2 g3 g4 g5 g6 g7 g8 g9 => ?_
    have N11 := subN (b := (I, oI) :: (r, instObj 59 d) :: (d, ruleD w.params w1 w2 w3 w4 w5 w6 ua ru f q.2) :: (f, kla_obj "<lambda>" lamQ xa xb xs [(Str.ofString "path", K)] pm c' ctv) :: (K, oK) :: (c', oc) :: news) N10 (fm (.head _) (fm (.tail _ (hkeep _ (hown _ g2))) (fm (.tail _ (hkeep _ (hown _ g3))) (fm (.tail _ (hkeep _ (hown _ g4))) (fm (.tail _ (hkeep _ (hown _ g5))) (fm (.tail _ (hkeep _ (hown _ g7))) (fun p hp => .tail _ hp)))))))
    have hql := hwl q (List.mem_of_getElem? hq)
    have etk : (rs.take (i + 1)).foldl (ruleStep U) (-1, true) = ruleStep U ((rs.take i).foldl (ruleStep U) (-1, true)) q := by
      rw [List.take_add_one, hq, List.foldl_append]; rfl
    generalize hst : (rs.take i).foldl (ruleStep U) (-1, true) = st at *
    rw [etk] at hKt
    obtain ⟨best, al⟩ := st
    dsimp only at *
    rw [hvr]
    clear N9 N9' N10 F8 F8'
    k_steps
    show wpAny _ _ _ _ _ _
    rename News _ _ _ _ => N12
    refine lam_K (by k_asm) (by k_asm) (by k_asm) (by k_asm) (by exact rfl) (by exact rfl) N12 g1 (by k_mem) (by k_mem) g6 (by k_mem) g8 g9 hql (by k_room) (by k_units) ?pos ?neg
    case pos =>
      intro hst9 h9 tk9 tv9 F9 N9
      k_steps
      all_goals (try (exfalso; k_extra "om"))
      all_goals (try refine hKt _ _ ?_)
      all_goals (first | rw [rs_far hst9 (by assumption)] | rw [rs_tie hst9 (by assumption) (by assumption) (by assumption)] | rw [rs_stay hst9 (by assumption) (by assumption)] | rw [rs_less hst9 (by assumption) (by assumption)] | rw [rs_off hst9])
      all_goals
        rename News _ _ _ _ => N13
        refine' EndF.of news G9 ?F ?PM N13 ?sub hoff hsrc hkeep
        case F => k_asm
        case sub => walk_at "sub9"
        case PM =>
          refine ⟨⟨_, rfl⟩, rfl, fun y hy => ?_⟩
          simp only [List.mem_cons, List.not_mem_nil, or_false, not_or] at hy
          obtain ⟨y1, y2, y3, y4⟩ := hy
          rw [hmB]
          simp only [y1, y2, y3, y4, if_false]
    case neg =>
      intro hst9 h9 tk9 tv9 F9 N9
      k_steps
      all_goals (try (exfalso; k_extra "om"))
      all_goals (try refine hKt _ _ ?_)
      all_goals (first | rw [rs_far hst9 (by assumption)] | rw [rs_tie hst9 (by assumption) (by assumption) (by assumption)] | rw [rs_stay hst9 (by assumption) (by assumption)] | rw [rs_less hst9 (by assumption) (by assumption)] | rw [rs_off hst9])
      all_goals
        rename News _ _ _ _ => N13
        refine' EndF.of news G9 ?F ?PM N13 ?sub hoff hsrc hkeep
        case F => k_asm
        case sub => walk_at "sub9"
        case PM =>
          refine ⟨⟨_, rfl⟩, rfl, fun y hy => ?_⟩
          simp only [List.mem_cons, List.not_mem_nil, or_false, not_or] at hy
          obtain ⟨y1, y2, y3, y4⟩ := hy
          rw [hmB]
          simp only [y1, y2, y3, y4, if_false]
  case fin =>
    rintro news m' h9 tk9 gs9 hPM hkeep G9 F9 N10
    rw [List.take_of_length_le (by rw [hR.len]; exact Nat.le_refl _)] at hPM
    obtain ⟨ol, om, tb, em⟩ := hPM.is
    rw [em, hmB] at F9
    have N11 := subN N10 hkeep
    rw [hled] at N11
    clear N9 N9' N10 F8 F8'
    k_steps
    show LeaveK _ _ _ _ _ _ _
    refine leaveK_ (by k_asm) (by k_asm) fun kF kN => ?_
    exact h _ _ _ kF G9 (subN kN (by walk_at "sub9"))
end
end
section
theorem off_DE : True := by
  k_with_none
  trivial
open PySem PySem.W PyProof.Rows PySem.Calls
theorem on_DE0 : True := by
 k_with_none
 k_with "li" => ((try simp only [List.length_nil, List.length_append, List.length_cons, ptV_length]); k_extra "om")
 k_with "ax" => first | assumption | exact ja0 ‹_› | exact ja1 ‹_› | exact je1 ‹_› | exact ja2 ‹_› | exact ja3 ‹_› | exact ja4 ‹_› | exact ja5 ‹_› | exact je5 ‹_› | exact ja6 ‹_› | exact ja7 ‹_› | exact je7 ‹_› | exact ja8 ‹_› | exact ja9 ‹_› | exact je13 ‹_› | exact je14 ‹_›
 k_with "nx" => with_reducible (first | (refine Nat.ne_of_lt ?_; (repeat (first | exact js | refine jl ?_)); all_goals k_extra "ax") | (refine Nat.ne_of_gt ?_; (repeat (first | exact js | refine jl ?_)); all_goals k_extra "ax") | k_extra "ax" | (refine Ne.symm ?_; k_extra "ax"))
 k_with "rm" => ((with_reducible first | exact room0 ‹_› | refine room1 ‹_› ?_ | refine room2 ‹_› ?_ | refine room3 ‹_› ?_ | refine room4 ‹_› ?_); all_goals exact rfl)
 k_with "om" => first | (with_reducible first | k_extra "ax" | exact jn ‹_› | exact jn (ja0 ‹_›) | (refine Nat.lt_trans ?_ ‹_›; k_extra "ax")) | decide | omega
 k_with "hk" => (with_reducible first | (refine hKq _ _ ?_; clear hKq; (try clear Kq)) | (refine hKt _ _ ?_; clear hKt; (try clear Kt)) | (refine hK0 _ _ ?_; clear hK0; (try clear K0)))
 k_with "q:execs cons" => (k_here; (with_reducible refine execs_consK ?_); intro Kq tkq hKq)
 k_with "q:k_ne" => (refine neN ?_; (try dsimp only); first | k_extra "nx" | omega)
 k_with "q:sub9" => row_timed "f" (fail; (repeat' (first | (refine fm (by k_mem) ?_) | exact List.forall_mem_nil _ | (intro pZ hpZ; (repeat (first | with_reducible_and_instances exact hpZ | with_reducible_and_instances exact List.mem_append_right _ hpZ | refine List.Mem.tail _ ?_)); done) | exact fun _ hpZ => hpZ | (intro pZ hpZ; (repeat (first | exact hpZ | exact List.mem_append_right _ hpZ | refine List.Mem.tail _ ?_))))))
 k_with "q:steps9" => row_timed "f" (fail; (repeat' (first | (k_extra "hk"; (try dsimp only)) | (k_unfold; (try dsimp only)) | walk1 | (dsimp only; walk1) | (leave1; walk_say "STEP leave1"; try dsimp only))))
 k_with "q:k_room" => row_timed "f" (fail; ((try simp only [depth_under_make, depth_under_kw, depth_in1, depth_deeper]); (try dsimp only); first | k_extra "rm" | omega))
 k_with "q:k_units" => row_timed "f" (fail; ((try simp only [Around.deeper_units, Around.in1_units, Around.mark_units]); (try dsimp only); first | k_extra "rm" | omega))
 k_with "q:k_mem" => row_timed "f" (fail; (with_reducible_and_instances (repeat (first | exact List.Mem.head _ | refine List.Mem.tail _ ?_)); done))
 k_with "q:k_units" => row_timed "f" (fail; ((try simp only [Around.deeper_units, Around.in1_units, Around.mark_units, units_under_make]); (try dsimp only); first | k_extra "rm" | omega))
 k_with "q:k_inst" => row_timed "f" (fail; (refine' instAcc_news ?NZ ?h1Z ?h2Z; (case NZ => k_asm); (case h1Z | h2Z => k_mem)))
 k_with "q:k_ne" => (refine neN ?_; (try dsimp only); first | exact Ap.ne (by assumption) | exact Ne.symm (Ap.ne (by assumption)) | k_extra "nx" | omega)
 k_with "q:LenBack" => row_timed "f" (fail; ((dsimp only [W.LenBack]); refine ⟨⟨by k_extra "om", by k_extra "om"⟩, ?_⟩))
 k_with "q:NeBack" => row_timed "f" (fail; ((dsimp only [NeBack]); rw [ne_tt (by k_extra "om")]))
 k_with "q:StrBack" => row_timed "f" (fail; (dsimp only [W.StrBack]))
 k_with "q:call builtin:str.join" => row_timed "f" (fail; (k_here; k_dflt (refine' join_K ?NZ ?hDZ ?htZ ?hokZ ?_; (case NZ => k_asm); (case hDZ => k_mem); (case htZ => first | assumption | exact TextsAre.snoc (by assumption)); (case hokZ => assumption); k_whole); intro t'Z k'Z))
 k_with "q:subscriptTail" => row_timed "f" (fail; (k_here; (with_reducible show wpAny _ _ (subscriptTail _ _ (Value.ref _) (Value.int _ _)) _ _ _); k_dflt (refine' item_T ?NZ ?hlZ ?hTZ ?h0Z ?hiZ ?hxZ ?_ ?slZ; (case NZ => k_asm); (case hlZ => k_mem); (case hTZ => k_asm); (case h0Z | hiZ => (k_extra "li")); (case hxZ => first | assumption | exact rfl); (case slZ => with_unfolding_all rfl); k_whole); intro t'Z))
 k_with "q:subscriptTail" => row_timed "f" (fail; (k_here; (with_reducible show wpAny _ _ (subscriptTail _ _ (Value.ref _) (Value.ref _)) _ _ _); k_dflt (refine' slice_upto_T ?FZ ?NZ ?lZ ?TZ ?h0Z ?h1Z ?h2Z ?_ ?sZ ?tZ; (case FZ | NZ => k_asm); (case lZ => k_mem); (case TZ => k_asm); (case h0Z | h1Z | h2Z => (k_extra "li")); (case sZ => with_unfolding_all rfl); (case tZ => intro _; rfl); k_whole); intro D'Z ws'Z h'Z F'Z N'Z l1Z hT'Z; (try k_lt l1Z)))
 k_with "q:call builtin:list.append" => row_timed "f" (fail; (k_here; (with_reducible show wpAny _ _ (call (Value.builtin _) [Value.ref _, _]) _ _ _); k_dflt (refine' app_K ?FZ ?NZ ?UZ ?zZ ?_; (case FZ | NZ => k_asm); (case UZ => k_updF); (case zZ => (k_extra "li")); k_whole); intro h'Z F'Z N'Z; (try dsimp only at N'Z); (try k_sweep)))
 k_with "q:call builtin:len" => row_timed "f" (fail; (k_here; k_dflt (refine' len_T ?NZ ?hlZ ?hTZ ?hkZ ?hzZ ?_; (case NZ => k_asm); (case hlZ => k_mem); (case hTZ => k_asm); (case hkZ => assumption); (case hzZ => (k_extra "li")); k_whole); intro t'Z k'Z))
 k_with "q:subscriptTail Name Name ref int" => row_timed "f" (fail; (k_here; (with_reducible show wpAny _ _ (subscriptTail _ _ (Value.ref _) (Value.int _ _)) _ _ _); k_dflt (refine' item_T ?NZ ?hlZ ?hTZ ?h0Z ?hiZ ?hxZ ?_ ?slZ; (case NZ => k_asm); (case hlZ => k_mem); (case hTZ => k_asm); (case h0Z | hiZ => (k_extra "li")); (case hxZ => first | assumption | exact rfl); (case slZ => with_unfolding_all rfl); k_whole); intro t'Z))
 k_with "q:subscriptTail Name Slice ref ref" => row_timed "f" (fail; (k_here; (with_reducible show wpAny _ _ (subscriptTail _ _ (Value.ref _) (Value.ref _)) _ _ _); k_dflt (refine' slice_upto_T ?FZ ?NZ ?lZ ?TZ ?h0Z ?h1Z ?h2Z ?_ ?sZ ?tZ; (case FZ | NZ => k_asm); (case lZ => k_mem); (case TZ => k_asm); (case h0Z | h1Z | h2Z => (k_extra "li")); (case sZ => with_unfolding_all rfl); (case tZ => intro _; rfl); k_whole); intro D'Z ws'Z h'Z F'Z N'Z l1Z hT'Z; (try k_lt l1Z)))
 k_with "q:call ref" => row_timed "f" (fail; (k_here; (with_reducible show wpAny _ _ (call (Value.ref 227) _) _ _ _); k_dflt (refine' accnew_K ?BZ ?FZ ?KXZ ?TZ ?hfZ ?hkeZ ?NZ ?hdZ ?huZ ?_; (case BZ | FZ => k_asm); (case KXZ | TZ => k_asm); (case hfZ | hkeZ => exact rfl); (case NZ => k_asm); (case hdZ => k_room); (case huZ => k_units); k_whole); intro h'Z tk'Z x'Z dx'Z n'Z t'Z F'Z N'Z l1Z l2Z; (try k_lt l1Z); (try k_lt l2Z); (try dsimp only at N'Z); (try dsimp only); (try k_sweep)))
 k_with "q:call ref" => row_timed "f" (fail; (k_here; (with_reducible show wpAny _ _ (call (Value.ref 140) _) _ _ _); k_dflt (refine' append_J ?BZ ?FZ ?KXZ ?TZ ?hfZ ?hkeZ ?NZ ?GZ ?HZ ?hokZ ?hfsZ ?htsZ ?hwlZ ?hiZ ?hi2Z ?hdZ ?huZ ?_; (case BZ | FZ => k_asm); (case KXZ | TZ => k_asm); (case hfZ | hkeZ => exact rfl); (case NZ | GZ => k_asm); (case HZ | hokZ => k_asm); (case hfsZ | htsZ | hwlZ => (k_extra "li")); (case hiZ | hi2Z => k_asm); (case hdZ => k_room); (case huZ => k_units); k_whole); intro h'Z tk'Z gs'Z news'Z F'Z G'Z N'Z H'Z K'Z; (try dsimp only at N'Z); (try dsimp only); (try k_sweep)))
 k_with "q:call ref" => row_timed "f" (fail; (k_here; (with_reducible show wpAny _ _ (call (Value.ref 91) _) _ _ _); k_dflt (refine' fstr_J ?BZ ?FZ ?KXZ ?TZ ?hfZ ?hkeZ ?NZ ?GZ ?HZ ?haZ ?hkZ ?hk2Z ?hwdZ ?hwoZ ?hnsZ ?hsepZ ?hdZ ?huZ ?hkeepZ ?_; (case BZ | FZ => k_asm); (case KXZ | TZ => k_asm); (case hfZ | hkeZ => exact rfl); (case NZ | GZ => k_asm); (case HZ | haZ | hkZ => k_asm); (case hk2Z => (k_extra "li")); (case hwdZ | hwoZ | hnsZ => k_asm); (case hsepZ => decide); (case hdZ => k_room); (case huZ => k_units); (case hkeepZ => assumption); k_whole); intro h'Z tk'Z gs'Z o1'Z o2'Z tv'Z F'Z G'Z T1'Z T2'Z N'Z; (try dsimp only at N'Z); (try dsimp only); (try k_sweep)))
 k_with "q:call builtin:str.split" => row_timed "f" (fail; (k_here; k_dflt (refine' split_T ?FZ ?NZ ?hyZ ?hszZ ?eZ ?_; (case FZ | NZ => k_asm); (case hyZ => decide); (case eZ => assumption); (case hszZ => (rw [sizeLine_eq]; k_extra "om")); k_whole); intro D'Z vs'Z h'Z k'Z ht'Z F'Z N'Z l1Z; (try k_lt l1Z)))
 k_with "q:exec For Name Call cons nil" => row_timed "f" (fail; (k_here; (refine hold ?_)))
 k_with "q:call ref" => row_timed "f" (fail; (k_here; (with_reducible show wpAny _ _ (call (Value.ref 245) _) _ _ _); (refine hold ?_)))
 trivial
noncomputable def RecJ (P : Params) (pm : Value) (base own : List (Addr × Obj)) (ua ru : Addr) (ags paths : List Str) (v : Bool) (i : Nat) (news : List (Addr × Obj)) : Prop :=
  ∃ ps uvs nu rvs nr nw, (240, tabObj ps) ∈ news ∧ (ua, lsO uvs nu) ∈ news ∧ (ru, lsO rvs nr) ∈ news ∧ (∀ p ∈ nw, p ∈ news) ∧ (∀ p ∈ base, p ∈ news) ∧ LamTab (nw ++ own) ps ∧
    RulesIn P pm (nw ++ own) rvs ((paths.take i).map fun p => (p, v)) ∧ TextsAre uvs (ags.take i) ∧ (∀ p ∈ nw, @LT.lt Nat _ 240 p.1 ∧ @LT.lt Nat _ ua p.1 ∧ @LT.lt Nat _ ru p.1 ∧ ∀ q ∈ base, @LT.lt Nat _ q.1 p.1)
theorem RulesIn.snoc {P : Params} {pm : Value} {news : List (Addr × Obj)} {vs : List Value} {rs : List (Str × Bool)} {r : Addr} {p : Str} {v : Bool} (h : RulesIn P pm news vs rs) (hr : RuleIn P pm news r p v) : RulesIn P pm news (vs ++ [.ref r]) (rs ++ [(p, v)]) := h.app (.one hr)
theorem rows_at {W H : Int} {ws : List Str} (hH : 0 ≤ H) (hH2 : H ≤ 1000) (hwl : ∀ w ∈ ws, w.length ≤ 30) (hwn : ws.length ≤ 100) (hag : ∀ r ∈ (rowsOf W H ws).drop 1, ∃ a, (Txt.split r " ")[1]? = some a) (hrl : (rowsOf W H ws).length ≤ 1000) :
    ∀ i : Nat, i < (((rowsOf W H ws).length : Int) - 1).toNat → ∀ {C : Prop}, (∀ r a, (rowsOf W H ws)[((1 : Int) + (i : Int) * 1).toNat]? = some r → (Txt.split r " ")[1]? = some a → (((rowsOf W H ws).drop 1).map agOf)[i]? = some a → r.length ≤ 3100 → (pathsOf (rowsOf W H ws))[i]? = some (Txt.join "" ((rowsOf W H ws).take (i + 1))) →
      ((1 : Int) + (i : Int) * 1).toNat = i + 1 → (i : Int) + 1 < (rowsOf W H ws).length → JoinOk "" ((rowsOf W H ws).take ((1 : Int) + (i : Int) * 1).toNat) = true → C) → C := by
  intro i hi C k
  have hi2 : i + 1 < (rowsOf W H ws).length := by clear k; k_extra "om"
  have hk : ((1 : Int) + (i : Int) * 1).toNat = i + 1 := by clear k; k_extra "om"
  obtain ⟨r, hr⟩ : ∃ r, (rowsOf W H ws)[i + 1]? = some r := ⟨_, List.getElem?_eq_getElem hi2⟩
  have hrd : ((rowsOf W H ws).drop 1)[i]? = some r := by rw [List.getElem?_drop, Nat.add_comm]; exact hr
  obtain ⟨a, ha⟩ := hag r (List.mem_of_getElem? hrd)
  refine k r a (hk.symm ▸ hr) ha (by rw [List.getElem?_map, hrd]; simp [agOf, ha]) (rows_le hH hH2 hwl hwn r (List.mem_of_getElem? hr)) ?_ hk (Int.ofNat_lt.mpr hi2) (joinOk_of 3100 (by decide) (Nat.le_trans (List.length_take_le' _ _) hrl) fun t ht => rows_le hH hH2 hwl hwn t (List.mem_of_mem_take ht))
  unfold pathsOf
  rw [List.getElem?_map, List.getElem?_range (Nat.lt_sub_of_add_lt hi2)]
  rfl
theorem rec_off {nw base : List (Addr × Obj)} {ua ru : Addr} (hB : ∀ q ∈ base, @LT.lt Nat _ q.1 ua ∧ @Ne Nat q.1 240) (jw : ∀ p ∈ nw, @LT.lt Nat _ 240 p.1 ∧ @LT.lt Nat _ ua p.1 ∧ @LT.lt Nat _ ru p.1 ∧ ∀ q ∈ base, @LT.lt Nat _ q.1 p.1) (cd : @LT.lt Nat _ ua ru) : OwnOff (nw ++ base) [ua, ru, 240] := by
  intro p hp b hb
  rcases List.mem_append.mp hp with hp | hp
  · have := jw p hp
    simp only [List.mem_cons, List.not_mem_nil, or_false] at hb
    rcases hb with rfl | rfl | rfl
    · exact Nat.ne_of_gt this.2.1
    · exact Nat.ne_of_gt this.2.2.1
    · exact Nat.ne_of_gt this.1
  · have := hB p hp
    simp only [List.mem_cons, List.not_mem_nil, or_false] at hb
    rcases hb with rfl | rfl | rfl
    · exact Nat.ne_of_lt this.1
    · exact Nat.ne_of_lt (Nat.lt_trans this.1 cd)
    · exact this.2
theorem rec_step {P : Params} {pm : Value} {base own nw fresh : List (Addr × Obj)} {ua ru r : Addr} {ags paths : List Str} {v : Bool} {i nu nr : Nat} {ps' : Array Value} {uvs rvs : List Value} {ag pt : Str} {t : Tok}
    (jR : RulesIn P pm (nw ++ own) rvs ((paths.take i).map fun p => (p, v))) (jT : TextsAre uvs (ags.take i)) (jw : ∀ p ∈ nw, @LT.lt Nat _ 240 p.1 ∧ @LT.lt Nat _ ua p.1 ∧ @LT.lt Nat _ ru p.1 ∧ ∀ q ∈ base, @LT.lt Nat _ q.1 p.1)
    (hag : ags[i]? = some ag) (hpt : paths[i]? = some pt) (hR : RuleIn P pm (fresh ++ (nw ++ own)) r pt v) (hL : LamTab (fresh ++ (nw ++ own)) ps')
    (hf : ∀ p ∈ fresh, @LT.lt Nat _ 240 p.1 ∧ @LT.lt Nat _ ua p.1 ∧ @LT.lt Nat _ ru p.1 ∧ ∀ q ∈ base, @LT.lt Nat _ q.1 p.1) :
    RecJ P pm base own ua ru ags paths v (i + 1) ((240, tabObj ps') :: (ua, lsO (uvs ++ [.str ag t]) nu) :: (ru, lsO (rvs ++ [.ref r]) nr) :: ((fresh ++ nw) ++ base)) := by
  have e1 : ags.take (i + 1) = ags.take i ++ [ag] := by rw [List.take_add_one, hag]; rfl
  have e2 : paths.take (i + 1) = paths.take i ++ [pt] := by rw [List.take_add_one, hpt]; rfl
  refine ⟨ps', _, nu, _, nr, fresh ++ nw, .head _, .tail _ (.head _), .tail _ (.tail _ (.head _)), (fun p hp => .tail _ (.tail _ (.tail _ (List.mem_append_left _ hp)))), (fun p hp => .tail _ (.tail _ (.tail _ (List.mem_append_right _ hp)))), ?_, ?_, ?_, ?_⟩
  · rw [List.append_assoc]; exact hL
  · rw [e2, List.map_append, List.append_assoc]
    exact (jR.mono fun p hp => List.mem_append_right _ hp).snoc hR
  · rw [e1]; exact jT.snoc
  · intro p hp
    rcases List.mem_append.mp hp with hp | hp
    · exact hf p hp
    · exact jw p hp
theorem rec_sub {I e d D ua ru : Addr} {oI oe od oD ou orr t : Obj} {fresh nw base : List (Addr × Obj)} :
    ∀ p ∈ (I, oI) :: (ua, ou) :: (ru, orr) :: (240, t) :: ((fresh ++ nw) ++ base), p ∈ (240, t) :: (fresh ++ ((ua, ou) :: (ru, orr) :: (I, oI) :: (e, oe) :: (d, od) :: (D, oD) :: (nw ++ base))) :=
  fm (.tail _ (List.mem_append_right _ (.tail _ (.tail _ (.head _))))) (fm (.tail _ (List.mem_append_right _ (.head _))) (fm (.tail _ (List.mem_append_right _ (.tail _ (.head _)))) (fm (.head _) fun _ hp => .tail _ ((List.mem_append.mp hp).elim (fun h => (List.mem_append.mp h).elim (List.mem_append_left _) fun h => List.mem_append_right _ (.tail _ (.tail _ (.tail _ (.tail _ (.tail _ (.tail _ (List.mem_append_left _ h)))))))) fun h => List.mem_append_right _ (.tail _ (.tail _ (.tail _ (.tail _ (.tail _ (.tail _ (List.mem_append_right _ h)))))))))))
theorem rec_fresh {e d D ua ru wl : Addr} {oe od ou orr : Obj} {nw own : List (Addr × Obj)} (c4 : @LT.lt Nat _ 240 D) (ca : @LT.lt Nat _ D d) (cb : @LT.lt Nat _ d e) (cc : @LT.lt Nat _ e ua) (cd : @LT.lt Nat _ ua ru) (cw : @LT.lt Nat _ wl D) (co : ∀ q ∈ own, @LT.lt Nat _ q.1 D)
    (jw : ∀ p ∈ nw, @LT.lt Nat _ 240 p.1 ∧ @LT.lt Nat _ wl p.1 ∧ ∀ q ∈ own, @LT.lt Nat _ q.1 p.1) :
    ∀ p ∈ (e, oe) :: (d, od) :: (ua, ou) :: (ru, orr) :: nw, @LT.lt Nat _ 240 p.1 ∧ @LT.lt Nat _ wl p.1 ∧ ∀ q ∈ own, @LT.lt Nat _ q.1 p.1 := by
  have k : ∀ x : Nat, @LT.lt Nat _ D x → @LT.lt Nat _ 240 x ∧ @LT.lt Nat _ wl x ∧ ∀ q ∈ own, @LT.lt Nat _ q.1 x := fun x hx => ⟨Nat.lt_trans c4 hx, Nat.lt_trans cw hx, fun q hq => Nat.lt_trans (co q hq) hx⟩
  have ce := Nat.lt_trans ca cb
  have cu := Nat.lt_trans ce cc
  exact fm (k e ce) (fm (k d ca) (fm (k ua cu) (fm (k ru (Nat.lt_trans cu cd)) jw)))
theorem rule_led {h₀ h : Heap} {L D1 D2 I e d D ua ru : Addr} {o1 o2 oI oe od oD ou orr t : Obj} {rest : List (Addr × Obj)} (N : News h₀ L h ((D1, o1) :: (D2, o2) :: (I, oI) :: (e, oe) :: (d, od) :: (D, oD) :: (ua, ou) :: (ru, orr) :: (240, t) :: rest))
    (hI : @Ne Nat 240 I) (h1 : @LT.lt Nat _ 240 D) (h2 : @LT.lt Nat _ D d) (h3 : @LT.lt Nat _ d e) (h4 : @LT.lt Nat _ e ua) (h5 : @LT.lt Nat _ ua ru) (ho : OwnOff rest [ua, ru, 240]) :
    News h₀ L h ((240, t) :: ((ua, ou) :: (ru, orr) :: (I, oI) :: (e, oe) :: (d, od) :: (D, oD) :: rest)) ∧ OwnOff ((ua, ou) :: (ru, orr) :: (I, oI) :: (e, oe) :: (d, od) :: (D, oD) :: rest) [240] := by
  have k : ∀ x : Nat, @LT.lt Nat _ D x → @Ne Nat x 240 := fun x hx => Nat.ne_of_gt (Nat.lt_trans h1 hx)
  have ce := Nat.lt_trans h2 h3
  have cu := Nat.lt_trans ce h4
  refine ⟨subN N (fm (.tail _ (.tail _ (.tail _ (.tail _ (.tail _ (.tail _ (.tail _ (.tail _ (.head _))))))))) (fm (.tail _ (.tail _ (.tail _ (.tail _ (.tail _ (.tail _ (.head _))))))) (fm (.tail _ (.tail _ (.tail _ (.tail _ (.tail _ (.tail _ (.tail _ (.head _)))))))) (fm (.tail _ (.tail _ (.head _))) (fm (.tail _ (.tail _ (.tail _ (.head _)))) (fm (.tail _ (.tail _ (.tail _ (.tail _ (.head _))))) (fm (.tail _ (.tail _ (.tail _ (.tail _ (.tail _ (.head _)))))) fun p hp => .tail _ (.tail _ (.tail _ (.tail _ (.tail _ (.tail _ (.tail _ (.tail _ (.tail _ hp))))))))))))))), fun p hp b hb => ?_⟩
  rw [List.mem_singleton.mp hb]
  exact fm (P := fun q : Addr × Obj => @Ne Nat q.1 240) (k ua cu) (fm (k ru (Nat.lt_trans cu h5)) (fm (Ne.symm hI) (fm (k e ce) (fm (k d h2) (fm (Nat.ne_of_gt h1) fun q hq => ho q hq 240 (.tail _ (.tail _ (.head _)))))))) p hp
theorem base_far {e d D ua wl : Addr} {oe od oD o1 o2 ow : Obj} {own : List (Addr × Obj)} (c4 : @LT.lt Nat _ 240 D) (ca : @LT.lt Nat _ D d) (cb : @LT.lt Nat _ d e) (cc : @LT.lt Nat _ e ua) (cw : @LT.lt Nat _ wl D) (co : ∀ q ∈ own, @LT.lt Nat _ q.1 D) (hw : @Ne Nat wl 240) (ho : ∀ q ∈ own, @Ne Nat q.1 240) :
    ∀ q ∈ (e, oe) :: (d, od) :: (D, oD) :: (189, o1) :: (196, o2) :: (wl, ow) :: own, @LT.lt Nat _ q.1 ua ∧ @Ne Nat q.1 240 := by
  have ce := Nat.lt_trans cb cc
  have cd := Nat.lt_trans ca ce
  have c2 := Nat.lt_trans c4 cd
  exact fm ⟨cc, Nat.ne_of_gt (Nat.lt_trans c4 (Nat.lt_trans ca cb))⟩ (fm ⟨ce, Nat.ne_of_gt (Nat.lt_trans c4 ca)⟩ (fm ⟨cd, Nat.ne_of_gt c4⟩ (fm ⟨Nat.lt_trans (show (189 : Nat) < 240 by decide) c2, (by decide : (189 : Nat) ≠ 240)⟩ (fm ⟨Nat.lt_trans (show (196 : Nat) < 240 by decide) c2, (by decide : (196 : Nat) ≠ 240)⟩ (fm ⟨Nat.lt_trans cw cd, hw⟩ fun q hq => ⟨Nat.lt_trans (co q hq) cd, ho q hq⟩)))))
theorem ex_rec {C : Prop} {P : Params} {h₀ h : Heap} {L ru ua e d D : Addr} {t1 t2 t3 t4 : Tok} {vs : List Value} {o1 o2 : Obj} {gs : Array GenState} {r : List (Addr × Obj)}
    (N : News h₀ L h ((ru, lsO [] 0) :: (ua, lsO [] 0) :: (e, instObj 59 d) :: (d, entD P t1 t2 t3 t4 ua ru) :: (D, lsO vs 0) :: (189, o1) :: (196, o2) :: r)) (G : AllBare gs)
    (k : ∀ ru' ua' e' d' D' vs' o1' o2' gs', ru' = ru → ua' = ua → e' = e → d' = d → D' = D → vs' = vs → o1' = o1 → o2' = o2 → gs' = gs → AllBare gs' → ∀ a b c f, News h₀ L h ((ru, lsO [] 0) :: (ua, lsO [] 0) :: (e, instObj 59 d) :: (d, entD P a b c f ua ru) :: (D, lsO vs 0) :: (189, o1) :: (196, o2) :: r) → C) : C := k _ _ _ _ _ _ _ _ _ rfl rfl rfl rfl rfl rfl rfl rfl rfl G _ _ _ _ N
section
variable {w : World} {A₀ : Around} {base h₀ : Heap} {env : Env} {outer : List Env} {dd uu : Nat} {gs : Option (List Code)} {L : Addr} {m mg mb : Str → Option Value} {s : Shared} {own : List (Addr × Obj)} {p : Program} {loose : List Str} {mean : ExcName → Option Value} {Q : Value → Shared → Prop} {E : Value → Shared → Prop}
  (B : Below A₀ base outer h₀) (F : Fr h₀ L s.heap m) (KX : (Mine.hd.heap_1 w.params).In h₀) (T : Top p loose mean mg mb h₀) (hf : env.frame = some L) (hke : env.scope.kind = .function)
include B F KX T hf hke
variable {wl : Addr} {n : Nat} {u1 u2 : Tok} {W H : Int} {o1 o2 : Obj} {ws : List Str} {wvs : List Value} {v : Bool} {ps : Array Value} {pm : Value} {kw : List (Addr × Obj)}
theorem record_in (N : News h₀ L s.heap ((wl, lsO wvs n) :: (189, o1) :: (196, o2) :: (240, tabObj ps) :: own))
   (hws : TextsAre wvs ws) (hH : 0 ≤ H) (hH2 : H ≤ 1000) (hsplit : Txt.split (Txt.join "|" (rowsOf W H ws)) "|" = rowsOf W H ws) (hag : ∀ r ∈ (rowsOf W H ws).drop 1, ∃ a, (Txt.split r " ")[1]? = some a) (hjl : (Txt.join "|" (rowsOf W H ws)).length ≤ 1000000) (hw0 : 0 < ws.length) (hwn : ws.length ≤ 100) (hwl : ∀ w ∈ ws, w.length ≤ 30) (hwp : ∀ w ∈ ws, w ≠ Str.ofString "" ∧ PyData.strOk w = true ∧ ∀ fs, Txt.isspace (fwStr (fs ++ [bl w])) = false)
   (hT : TabOk o1) (hT2 : TabOk o2) (hL : LamTab kw ps) (G : AllBare s.gens) (hne : Dis [wl, 189, 196, 240]) (ho : OwnOff own [189, 196, 240])
   (hd : dd + 120 < recursionLimit) (hu : uu + 800 < cLine)
   (h : ∀ h' tk gs o1 o2 ps' nw e d t1 t2 t3 t4 ua ru uvs rvs nu nr, Fr h₀ L h' m → AllBare gs → TabOk o1 → TabOk o2 → LamTab (nw ++ kw) ps' →
     News h₀ L h' ((e, instObj 59 d) :: (d, entD w.params t1 t2 t3 t4 ua ru) :: (ua, lsO uvs nu) :: (ru, lsO rvs nr) :: (189, o1) :: (196, o2) :: (240, tabObj ps') :: (wl, lsO wvs n) :: (nw ++ own)) →
     (∀ p ∈ (e, instObj 59 d) :: (d, entD w.params t1 t2 t3 t4 ua ru) :: (ua, lsO uvs nu) :: (ru, lsO rvs nr) :: nw, @LT.lt Nat _ 240 p.1 ∧ @LT.lt Nat _ wl p.1 ∧ ∀ q ∈ own, @LT.lt Nat _ q.1 p.1) → TextsAre uvs (((rowsOf W H ws).drop 1).map agOf) → RulesIn w.params ((mg (Str.ofString "__name__")).getD .none) (nw ++ kw) rvs ((pathsOf (rowsOf W H ws)).map fun p => (p, v)) → Q (.ref e) { s with heap := h', toks := tk, gens := gs }) :
   wpAny (model rw_wn0107_02.row.toRowW.prog w) ⟨none, dd, some (env :: outer), gs, uu⟩ (call (.ref 252) [.ref wl, .int W u1, .int H u2, .bool v]) Q E s := by
  first | refine Dis.e7 hne ?_ | refine Dis.e3 hne ?_ | refine Dis.e5 hne ?_ | refine Dis.e4 hne ?_
  intros
  revert KX; k_fill; intro KX
  refine wpAny_call ?_
  refine' code_def ?k1 ?k2 ?k3 ?k4 ?k5 ?kA ?kF ?kK ?k6 ?k7 ?k8 ?k9 ?kB ?_ ?c2 ?c3 ?c4 ?c5
  case kA => exact rfl
  case kF => exact hf
  case kK => exact hke
  case k1 => k_asm
  case k2 => k_asm
  case k3 => k_asm
  case k4 => k_asm
  case k5 => k_asm
  case k6 => k_is
  case k7 => k_is
  case k8 => show dd < recursionLimit; first | exact room0 (by assumption) | k_extra "om"
  case k9 => first | exact BindsTo.of_eq rfl | exact binds_K (by k_in) rfl (by k_is) rfl rfl rfl
  case c5 => decide
  case kB => exact locs rfl
  case c2 => exact rfl
  case c3 => exact rfl
  case c4 => exact rfl
  k_whole; intro g' L' h' FG' F' N' B' X' T'; (try dsimp only); (try k_lift B'); (try k_fold); clear B F KX N T FG'
  k_steps
  exact by
   rename News _ _ _ _ => N9
   obtain ⟨f, rfl, hf0, hoff⟩ := fmt_get (own := (240, tabObj ps) :: own) N9 hT hT2 (by k_all) (by k_all) (by k_all) (by k_all) (by k_all)
   refine' for_vals (wl := wl) (wvs := wvs) (n := n) (J := fun i news => FmtIn w.params W f news (FS.run W ⟨[], [], H⟩ (ws.take i)) ∧ ∀ p ∈ (wl, lsO wvs n) :: (240, tabObj ps) :: own, p ∈ news) ?hh ?hx ?hp ?hE ?hs ?F ?N ?hw ?G ?hJ ?hev ?turn ?done
   case hh => rfl
   case hx => rfl
   case hp => rfl
   case hE => passes_own
   case hs => intro _; rfl
   case F => k_asm
   case N => exact N9
   case hw => k_mem
   case G => k_asm
   case hJ => exact ⟨hf0, by walk_at "sub9"⟩
   case hev => intro Q' hq; k_steps; exact hq
   case turn =>
     clear N9 hf0
     rintro i v I oI h9 tk9 gs9 news hv ⟨hJ, hkeep⟩ hw9 hoI hc9 G9 F9 N9
     obtain ⟨wd, tw, rfl, hwd⟩ := texts_get hws hv
     have hwm := List.mem_of_getElem? hwd
     have hinv := run_inv (M := W) hH hH2 (ws.take i) fun w hw => hwl w (List.mem_of_mem_take hw)
     have hle : (ws.take i).length ≤ 100 := Nat.le_trans (List.length_take_le' _ _) hwn
     have hok9 := hinv.ok (by k_extra "om")
     have hb1 := hinv.fs
     have hb2 := hinv.ts
     have hb3 := hwl wd hwm
     have hb4 := hinv.lo
     have hb5 := hinv.hi
     obtain ⟨o1', o2', n', nl', u', ls', vs', hm1, hm2, -⟩ := id hJ
     have N10 := subN (b := (I, oI) :: (f.fv, instObj 143 f.fd) :: (f.fd, f.dict w.params W) :: news) N9 (fm (.head _) (fm (.tail _ hm1) (fm (.tail _ hm2) (fun p hp => .tail _ hp))))
     have hJ2 : FmtIn w.params W f ((I, oI) :: (f.fv, instObj 143 f.fd) :: (f.fd, f.dict w.params W) :: news) (FS.run W ⟨[], [], H⟩ (ws.take i)) := hJ.mono fun q hq => .tail _ (.tail _ (.tail _ hq))
     clear N9
     k_steps
     exact turnQ_end (pre := [_, _]) (by k_asm) (by k_asm) (by k_asm) (by assumption) hJ hoI hc9 hkeep hoff (.head _) (by rw [take_succ' hwd, run_snoc]) (by assumption)
   case done =>
     clear N9 hf0
     rintro h9 tk9 gs9 news ov ⟨hJ, hkeep⟩ hw9 G9 F9 N9
     rw [hws.length, List.take_length] at hJ
     have hinv := run_inv (M := W) hH hH2 ws hwl
     obtain ⟨fs, wd, ha, hwd, hwo, hns⟩ : ∃ fs wd, (FS.run W ⟨[], [], H⟩ ws).fs = fs ++ [bl wd] ∧ wd ≠ Str.ofString "" ∧ PyData.strOk wd = true ∧ Txt.isspace (fwStr (fs ++ [bl wd])) = false := by
       have hne0 : ws ≠ [] := by rintro rfl; exact absurd hw0 (by decide)
       have e := List.dropLast_concat_getLast hne0
       obtain ⟨fs, hfs⟩ := step_last W (FS.run W ⟨[], [], H⟩ ws.dropLast) (ws.getLast hne0)
       rw [← run_snoc, e] at hfs
       obtain ⟨a1, a2, a3⟩ := hwp _ (List.getLast_mem hne0)
       exact ⟨fs, _, hfs, a1, a2, a3 fs⟩
     obtain ⟨o1', o2', n', nl', u', ls', vs', hm1, hm2, -⟩ := id hJ
     have N10 := subN (b := (f.fv, instObj 143 f.fd) :: (f.fd, f.dict w.params W) :: news) N9 (fm hm1 (fm hm2 (fun p hp => hp)))
     have hJ2 : FmtIn w.params W f ((f.fv, instObj 143 f.fd) :: (f.fd, f.dict w.params W) :: news) (FS.run W ⟨[], [], H⟩ ws) := hJ.mono fun q hq => .tail _ (.tail _ hq)
     have hkeep2 : ∀ p ∈ (wl, lsO wvs n) :: (240, tabObj ps) :: own, p ∈ (f.fv, instObj 143 f.fd) :: (f.fd, f.dict w.params W) :: news ∧ p.1 ∉ f.adr := fun p hp => ⟨.tail _ (.tail _ (hkeep p hp)), hoff p hp⟩
     have hsp : Txt.split (Txt.join "|" ((FS.run W ⟨[], [], H⟩ ws).ts ++ [fwStr (FS.run W ⟨[], [], H⟩ ws).fs])) "|" = rowsOf W H ws := hsplit
     have hjl' : (Txt.join "|" ((FS.run W ⟨[], [], H⟩ ws).ts ++ [fwStr (FS.run W ⟨[], [], H⟩ ws).fs])).length ≤ 1000000 := hjl
     have hrl1 : 1 ≤ (rowsOf W H ws).length := by unfold rowsOf; simp
     have hrl2 : (rowsOf W H ws).length ≤ 1000 := by have := hinv.ts; unfold rowsOf; simp; k_extra "om"
     clear N9
     dsimp only
     k_steps
     show wpAny _ _ _ _ _ _
     rename News _ _ _ _ => N9
     refine ex_rec N9 (by k_asm) ?_
     rintro ru ua e d D rwv o1' o2' gs7 rfl rfl rfl rfl rfl rfl rfl rfl rfl G7 q1 q2 q3 q4 N10
     have T17 : TabOk o1' := by assumption
     have T27 : TabOk o2' := by assumption
     have hT9 := (‹TextsAre rwv (rowsOf W H ws)›)
     obtain ⟨b1, b2, b3, b4, b5⟩ := ‹189 < D ∧ 196 < D ∧ wl < D ∧ 240 < D ∧ AllLt D own›
     obtain ⟨ba, -, -, -, -, -⟩ := ‹D < d ∧ 189 < d ∧ 196 < d ∧ wl < d ∧ 240 < d ∧ AllLt d own›
     have bb := ‹d < e›
     obtain ⟨bc, -⟩ := ‹e < ua ∧ d < ua ∧ D < ua ∧ 189 < ua ∧ 196 < ua ∧ wl < ua ∧ 240 < ua ∧ AllLt ua own›
     obtain ⟨bd, -⟩ := ‹ua < ru ∧ e < ru ∧ d < ru ∧ D < ru ∧ 189 < ru ∧ 196 < ru ∧ wl < ru ∧ 240 < ru ∧ AllLt ru own›
     have c4 : @LT.lt Nat _ 240 D := b4
     have ca : @LT.lt Nat _ D d := ba
     have cb : @LT.lt Nat _ d e := bb
     have cc : @LT.lt Nat _ e ua := bc
     have cd : @LT.lt Nat _ ua ru := bd
     have cw : @LT.lt Nat _ wl D := b3
     have co : ∀ q ∈ own, @LT.lt Nat _ q.1 D := allLt_all b5
     obtain ⟨base, hbase⟩ : ∃ b, b = (e, instObj 59 d) :: (d, entD w.params q1 q2 q3 q4 ua ru) :: (D, lsO rwv 0) :: (189, o1') :: (196, o2') :: (wl, lsO wvs n) :: own := ⟨_, rfl⟩
     have hB : ∀ q ∈ base, @LT.lt Nat _ q.1 ua ∧ @Ne Nat q.1 240 := by
       rw [hbase]
       exact base_far c4 ca cb cc cw co (Ap.ne (by assumption)) fun q hq z => ho q hq 240 (.tail _ (.tail _ (.head _))) z
     have hob : ∀ p ∈ own, p ∈ base := fun p hp => by rw [hbase]; exact .tail _ (.tail _ (.tail _ (.tail _ (.tail _ (.tail _ hp)))))
     have N11 := subN (b := (ua, lsO [] 0) :: (ru, lsO [] 0) :: (240, tabObj ps) :: base) N10 (by rw [hbase]; walk_at "sub9")
     clear N9
     refine for_gen (by k_asm) (by passes_own) (by intro _; rfl) ?_
     have hrlN : ((rowsOf W H ws).length : Int) = ((rowsOf W H ws).length : Int) := rfl
     have N12 := subN (b := (D, lsO rwv 0) :: (ua, lsO [] 0) :: (ru, lsO [] 0) :: (240, tabObj ps) :: base) N11 (fm (.tail _ (.tail _ (.tail _ (by rw [hbase]; k_mem)))) (fun p hp => hp))
     clear N10 N11
     walk_at "steps9"
     exact by
      rename News _ _ _ _ => N13
      have hrows := rows_at (W := W) (H := H) hH hH2 hwl hwn hag hrl2
      refine' SrcF.of (RecJ w.params ((mg (Str.ofString "__name__")).getD .none) base kw ua ru (((rowsOf W H ws).drop 1).map agOf) (pathsOf (rowsOf W H ws)) v) (PM1 "k" _) ?W ?F ?PM ?N ?G ?S ?J0 ?turn ?fin
      case W => exact src_range (by rfl) (by assumption) (small_one (by k_extra "om") (by k_extra "om") (by k_extra "om") (by k_extra "om")) (rangeSize_nat _ _) (by k_extra "om")
      case F => k_asm
      case PM => exact PM1.refl
      case N => exact N13
      case G => exact G7
      case S => trivial
      case J0 => exact ⟨ps, [], 0, [], 0, [], by k_mem, by k_mem, by k_mem, (fun _ h => absurd h List.not_mem_nil), (fun p hp => .tail _ (.tail _ (.tail _ (.tail _ hp)))), hL, ⟨rfl, fun i q e => by simp at e⟩, TextsAre.nil, (fun _ h => absurd h List.not_mem_nil)⟩
      case turn =>
        rintro i v9 news I oI m' h9 tk9 gs9 hi ⟨t, rfl⟩ ⟨o, rfl⟩ hJ9 - hoff G9 F9 N20
        refine wp_gen ?_
        intro Kt Et hKt hEt
        obtain ⟨ps9, uvs, nu, rvs, nr, nw, j1, j2, j3, j4, j5, jL, jR, jT, jw⟩ := hJ9
        refine hrows i hi fun r ag hx9 ha hagi hrl hpi hk9 hi8 hjo => ?_
        have hIu : @Ne Nat ua I := hoff _ j2
        have hIr : @Ne Nat ru I := hoff _ j3
        have hI2 : @Ne Nat 240 I := hoff _ j1
        have ho9 : OwnOff (nw ++ base) [ua, ru, 240] := rec_off hB jw cd
        have j5' := j5
        rw [hbase] at j5'
        have e5 := j5' (e, instObj 59 d) (.head _)
        have d5 := j5' (d, entD w.params q1 q2 q3 q4 ua ru) (.tail _ (.head _))
        have w5 := j5' (D, lsO rwv 0) (.tail _ (.tail _ (.head _)))
        have N21 := subN (b := (I, oI) :: (e, instObj 59 d) :: (d, entD w.params q1 q2 q3 q4 ua ru) :: (D, lsO rwv 0) :: (ua, lsO uvs nu) :: (ru, lsO rvs nr) :: (240, tabObj ps9) :: (nw ++ base)) N20 (by
          exact fm (.head _) (fm (.tail _ e5) (fm (.tail _ d5) (fm (.tail _ w5) (fm (.tail _ j2) (fm (.tail _ j3) (fm (.tail _ j1) (fun p hp => .tail _ ((List.mem_append.mp hp).elim (j4 p) (j5 p))))))))))
        obtain ⟨sp, hsp⟩ : ∃ sp, Txt.split r " " = sp := ⟨_, rfl⟩
        have hx10 : sp[Int.toNat 1]? = some ag := by rw [← hsp]; exact ha
        have hrn : (rowsOf W H ws).length ≤ 1000 := hrl2
        have hul : uvs.length ≤ 1000 := by rw [jT.length]; exact Nat.le_trans (List.length_take_le' _ _) (by rw [List.length_map, List.length_drop]; exact Nat.le_trans (Nat.sub_le _ _) hrl2)
        have hrl9 : rvs.length ≤ 1000 := by rw [jR.len, List.length_map]; exact Nat.le_trans (List.length_take_le' _ _) (by unfold pathsOf; rw [List.length_map, List.length_range]; exact Nat.le_trans (Nat.sub_le _ _) hrl2)
        clear N13 N20 j5'
        exact by
         walk_at "steps9"
         exact by
          show wpAny _ _ _ _ _ _
          rename News _ _ _ _ => N23
          obtain ⟨N24, ho24⟩ := rule_led N23 hI2 c4 ca cb cc cd ho9
          clear N23
          refine rule_J (by k_asm) (by k_asm) (by k_asm) (by k_asm) (by exact rfl) (by exact rfl) N24 jL ho24 (by k_room) (by k_units) ?_
          intro h8 tk8 ps8 fresh rr F8 N25 hRR hLL hfr
          have hf8 : ∀ p ∈ fresh, @LT.lt Nat _ 240 p.1 ∧ @LT.lt Nat _ ua p.1 ∧ @LT.lt Nat _ ru p.1 ∧ ∀ q ∈ base, @LT.lt Nat _ q.1 p.1 := fun p hp => by
            obtain ⟨z1, z2⟩ := hfr p hp
            exact ⟨z1, z2 _ (.head _), z2 _ (.tail _ (.head _)), fun q hq => z2 q (.tail _ (.tail _ (.tail _ (.tail _ (.tail _ (.tail _ (List.mem_append_right _ hq)))))))⟩
          have hfI : ∀ p ∈ fresh, @Ne Nat p.1 I := fun p hp => Nat.ne_of_gt ((hfr p hp).2 _ (.tail _ (.tail _ (.head _))))
          have hw8 : ∀ p ∈ fresh ++ nw, @LT.lt Nat _ 240 p.1 ∧ @LT.lt Nat _ ua p.1 ∧ @LT.lt Nat _ ru p.1 ∧ ∀ q ∈ base, @LT.lt Nat _ q.1 p.1 := fun p hp => (List.mem_append.mp hp).elim (hf8 p) (jw p)
          have ho8 : OwnOff ((fresh ++ nw) ++ base) [ua, ru, 240] := rec_off hB hw8 cd
          have hoI : ∀ p ∈ (fresh ++ nw) ++ base, @Ne Nat p.1 I := fun p hp => (List.mem_append.mp hp).elim (fun hp => (List.mem_append.mp hp).elim (hfI p) (fun hp => hoff p (j4 p hp))) (fun hp => hoff p (j5 p hp))
          have N26 := subN (b := (I, oI) :: (ua, _) :: (ru, lsO rvs nr) :: (240, tabObj ps8) :: ((fresh ++ nw) ++ base)) N25 (rec_sub (fresh := fresh) (nw := nw) (base := base))
          clear N24 N25
          walk_at "steps9"
          exact by
           rename News _ _ _ _ => N30
           (try refine hKt _ _ ?_)
           refine' EndF.of ((240, tabObj ps8) :: (ua, _) :: (ru, _) :: ((fresh ++ nw) ++ base)) G9 ?F ?PM N30 ?sub ?off trivial (rec_step jR jT jw hagi hpi (hk9 ▸ hRR) hLL hf8)
           case F => k_asm
           case PM => (first | exact PM1.now | exact PM1.set PM1.now | exact PM1.set (PM1.set PM1.now))
           case sub => walk_at "sub9"
           case off => exact fm hI2 (fm hIu (fm hIr hoI))
      case fin =>
        rintro news m' h9 tk9 gs9 ⟨o, rfl⟩ ⟨ps9, uvs, nu, rvs, nr, nw, j1, j2, j3, j4, j5, jL, jR, jT, jw⟩ G9 F9 N20
        exact by
         have j5' := j5
         rw [hbase] at j5'
         have e5 := j5' (e, instObj 59 d) (.head _)
         have d5 := j5' (d, entD w.params q1 q2 q3 q4 ua ru) (.tail _ (.head _))
         have x5 := j5' (189, o1') (.tail _ (.tail _ (.tail _ (.head _))))
         have y5 := j5' (196, o2') (.tail _ (.tail _ (.tail _ (.tail _ (.head _)))))
         have z5 := j5' (wl, lsO wvs n) (.tail _ (.tail _ (.tail _ (.tail _ (.tail _ (.head _))))))
         have hbm : ∀ q ∈ (e, instObj 59 d) :: (d, entD w.params q1 q2 q3 q4 ua ru) :: (D, lsO rwv 0) :: (189, o1') :: (196, o2') :: (wl, lsO wvs n) :: own, q ∈ base := fun q hq => by rw [hbase]; exact hq
         have N21 := subN (b := (e, instObj 59 d) :: (d, entD w.params q1 q2 q3 q4 ua ru) :: (ua, lsO uvs nu) :: (ru, lsO rvs nr) :: (189, o1') :: (196, o2') :: (240, tabObj ps9) :: (wl, lsO wvs n) :: (nw ++ own)) N20 (by
           exact fm e5 (fm d5 (fm j2 (fm j3 (fm x5 (fm y5 (fm j1 (fm z5 (fun p hp => (List.mem_append.mp hp).elim (j4 p) (fun hp => j5 p (hob p hp)))))))))))
         rw [List.take_of_length_le (by rw [List.length_map, List.length_drop]; k_extra "om")] at jT
         rw [List.take_of_length_le (by unfold pathsOf; rw [List.length_map, List.length_range]; k_extra "om")] at jR
         clear N13 N20 j5' j5
         walk_at "steps9"
         show LeaveK _ _ _ _ _ _ _
         refine leaveK_ (by k_asm) (by k_asm) fun kF kN => ?_
         refine h _ _ _ _ _ _ _ _ _ _ _ _ _ _ _ _ _ _ _ kF G9 T17 T27 jL kN (rec_fresh c4 ca cb cc cd cw co (fun p hp => ⟨(jw p hp).1, (jw p hp).2.2.2 _ (hbm _ (.tail _ (.tail _ (.tail _ (.tail _ (.tail _ (.head _))))))), fun q hq => (jw p hp).2.2.2 q (hob q hq)⟩)) jT jR
end
end
section
theorem off_DFA : True := by
  k_with_none
  trivial
open PySem PySem.W PyProof.Rows PySem.Calls
section
variable {prog : Program} {w : World} {A : Around} {E : Value → Shared → Prop} {Q : Flow → Shared → Prop} {s : Shared} {env : Env} {h₀ : Heap} {L : Addr}
noncomputable def WhileG (h₀ : Heap) (L : Addr) (s : Shared) (J : Nat → (Str → Option Value) → List (Addr × Obj) → Prop) (n : Nat) (f : Flow) (s₃ : Shared) : Prop :=
  f = .next ∧ ∃ h' tk gs m₂ news₂ n', s₃ = { s with heap := h', toks := tk, gens := gs } ∧ AllBare gs ∧ Fr h₀ L h' m₂ ∧ News h₀ L h' news₂ ∧ n' < n ∧ J n' m₂ news₂
theorem WhileG.of {h' : Heap} {J : Nat → (Str → Option Value) → List (Addr × Obj) → Prop} {n n' tk : Nat} {gs : Array GenState} {m₂ : Str → Option Value} {all : List (Addr × Obj)} (news₂ : List (Addr × Obj))
    (G : AllBare gs) (F : Fr h₀ L h' m₂) (N : News h₀ L h' all) (sub : ∀ p ∈ news₂, p ∈ all) (hn : n' < n) (hJ : J n' m₂ news₂) : WhileG h₀ L s J n .next { s with heap := h', toks := tk, gens := gs } :=
  ⟨rfl, h', tk, gs, m₂, news₂, n', rfl, G, F, subN N sub, hn, hJ⟩
theorem while_G {test : PySem.Expr} {body : List Stmt} {pos : Pos} {m : Str → Option Value} {news : List (Addr × Obj)} (J : Nat → (Str → Option Value) → List (Addr × Obj) → Prop) {n₀ : Nat}
    (F : Fr h₀ L s.heap m) (N : News h₀ L s.heap news) (G : AllBare s.gens) (hJ : J n₀ m news)
    (turn : ∀ n m₁ news₁ h₁ tk₁ gs₁, Fr h₀ L h₁ m₁ → News h₀ L h₁ news₁ → AllBare gs₁ → J n m₁ news₁ →
      wpAny (model prog w) A (isTrue test env (eval test env)) (fun b s₂ =>
        if b = true then wpAny (model prog w) A (execs body env) (WhileG h₀ L s J n) E s₂ else Q .next s₂) E { s with heap := h₁, toks := tk₁, gens := gs₁ })
    (hE : PassesOwn (model prog w) A env E) :
    wpAny (model prog w) A (exec (.While test body [] pos) env) Q E s := by
  refine wpAny_While (codeAny_whileLoop (fun n s' => ∃ h₁ tk₁ gs₁ m₁ news₁, s' = { s with heap := h₁, toks := tk₁, gens := gs₁ } ∧ Fr h₀ L h₁ m₁ ∧ News h₀ L h₁ news₁ ∧ AllBare gs₁ ∧ J n m₁ news₁) ?_ n₀ ⟨s.heap, s.toks, s.gens, m, news, rfl, F, N, G, hJ⟩)
  rintro n s' ⟨h₁, tk₁, gs₁, m₁, news₁, rfl, F₁, N₁, G₁, J₁⟩
  refine wpAny_mono (turn n m₁ news₁ h₁ tk₁ gs₁ F₁ N₁ G₁ J₁) (fun b s₂ h₂ => ?_) hE
  cases b with
  | false =>
    simp only [Bool.false_eq_true, if_false] at h₂ ⊢
    exact wpAny_execs_nil h₂
  | true =>
    simp only [if_true] at h₂ ⊢
    refine wpAny_mono h₂ (fun f s₃ h₃ => ?_) hE
    obtain ⟨rfl, h', tk, gs, m₂, news₂, n', rfl, G₂, F₂, N₂, hn, J₂⟩ := h₃
    exact ⟨n', hn, h', tk, gs, m₂, news₂, rfl, F₂, N₂, G₂, J₂⟩
end
end
section
theorem off_DFB : True := by
  k_with_none
  trivial
open PySem PySem.W PyProof.Rows PySem.Calls
theorem ints_drop : ∀ {vs : List Value} {ns : List Int} (_ : IntsAre vs ns) (k : Nat), IntsAre (vs.drop k) (ns.drop k)
  | _, _, h, 0 => h
  | _, _, .nil, k + 1 => .nil
  | _, _, .cons n t h, k + 1 => ints_drop h k
theorem ints_take : ∀ {vs : List Value} {ns : List Int} (_ : IntsAre vs ns) (k : Nat), IntsAre (vs.take k) (ns.take k)
  | _, _, _, 0 => .nil
  | _, _, .nil, k + 1 => .nil
  | _, _, .cons n t h, k + 1 => .cons n t (ints_take h k)
theorem ints_app : ∀ {vs : List Value} {ns : List Int} (_ : IntsAre vs ns) {ws : List Value} {ms : List Int} (_ : IntsAre ws ms), IntsAre (vs ++ ws) (ns ++ ms)
  | _, _, .nil, _, _, h => h
  | _, _, .cons n t h, _, _, g => .cons n t (ints_app h g)
section
variable {prog : Program} {w : World} {A : Around} {E : Value → Shared → Prop} {s : Shared} {h₀ : Heap} {L l : Addr} {m : Str → Option Value} {news : List (Addr × Obj)} {Q : Value → Shared → Prop}
theorem slice_run_V {value slice : PySem.Expr} {vs : List Value} {n : Nat} {a b : Int} {tk uk : Tok} (F : Fr h₀ L s.heap m) (N : News h₀ L s.heap news) (hl : (l, lsO vs n) ∈ news) (h0 : 0 ≤ a) (h1 : a ≤ vs.length) (hab : a ≤ b) (h2 : vs.length ≤ 1000)
    (h : ∀ D h', Fr h₀ L h' m → News h₀ L h' ((D, lsO ((vs.drop a.toNat).take (b - a).toNat) 0) :: news) → (∀ p ∈ news, p.1 < D) → Q (.ref D) { s with heap := h' })
    (hs : subscripted slice false (.ref l) (.ref s.heap.objs.size) = operate [.ref s.heap.objs.size, .ref l] (getItem (.ref l) (.ref s.heap.objs.size))) (ht : ∀ r, letTemporaryGo value (.ref l) r = pure ()) :
    wpAny (model prog w) A (subscriptTail value slice (.ref l) (.ref s.heap.objs.size)) Q E { s with heap := s.heap.push { cls := .type "slice", data := .fields #[.int a tk, .int b uk, .none] } } := by
  obtain ⟨a, rfl⟩ := Int.eq_ofNat_of_zero_le h0
  obtain ⟨b, rfl⟩ := Int.eq_ofNat_of_zero_le (Int.le_trans h0 hab)
  have e : ((b : Int) - (a : Int)).toNat = b - a := by omega
  rw [e] at h
  refine kmk_slice F N ⟨_, (N _ hl).1, rfl, n, rfl⟩ (.int _ _) (.int _ _) (fun D h' F' N' l1 => h D h' F' ?_ l1) hs ht (by rw [List.size_toArray, sizeLine_eq]; omega)
  rcases Nat.lt_or_ge b vs.length with q | q
  · rw [slicePick_run vs.toArray a b (by rw [List.size_toArray]; omega) (by omega)] at N'
    exact N'
  · rw [slicePick_past vs.toArray a b (by rw [List.size_toArray]; omega) (by rw [List.size_toArray]; exact q)] at N'
    show News h₀ L h' ((D, lsO ((vs.drop a).take (b - a)) 0) :: news)
    rw [List.take_of_length_le (by rw [List.length_drop]; omega)]
    exact N'
theorem len_V {vs : List Value} {n : Nat} {k : Int} (N : News h₀ L s.heap news) (hl : (l, lsO vs n) ∈ news) (hk : (vs.length : Int) = k) (hz : vs.length ≤ 1000) (h : ∀ t tk, Q (.int k t) { s with toks := tk }) :
    wpAny (model prog w) A (call (.builtin "len") [.ref l]) Q E s := by
  refine call_len_list (items := vs.toArray) ⟨_, (N _ hl).1, rfl, n, rfl⟩ (by rw [List.size_toArray]; omega) ?_
  rw [List.size_toArray, hk]
  exact h _ _
theorem sum_V {vs : List Value} {ns : List Int} {n : Nat} (hh : A.handled = none) (F : Fr h₀ L s.heap m) (N : News h₀ L s.heap news) (hl : (l, lsO vs n) ∈ news) (hi : IntsAre vs ns)
    (h : ∀ h' tk t', Fr h₀ L h' m → News h₀ L h' news → Q (.int ns.sum t') { s with heap := h', toks := tk }) : wpAny (model prog w) A (call (.builtin "sum") [.ref l]) Q E s :=
  sumK hh F N ⟨_, (N _ hl).1, rfl, n, rfl⟩ hi h
theorem max_V {vs : List Value} {ns : List Int} {n : Nat} (hh : A.handled = none) (F : Fr h₀ L s.heap m) (N : News h₀ L s.heap news) (hl : (l, lsO vs n) ∈ news) (hi : IntsAre vs ns) (hne : 0 < ns.length)
    (h : ∀ h' M t tk, Fr h₀ L h' m → News h₀ L h' news → M ∈ ns → (∀ a, a ∈ ns → a ≤ M) → Q (.int M t) { s with heap := h', toks := tk }) : wpAny (model prog w) A (call (.builtin "max") [.ref l]) Q E s :=
  kso_max F N ⟨_, (N _ hl).1, rfl, n, rfl⟩ hi hne hh h
theorem addls_V {b : Addr} {vs ws : List Value} {n n2 : Nat} (F : Fr h₀ L s.heap m) (N : News h₀ L s.heap news) (hl : (l, lsO vs n) ∈ news) (hb : (b, lsO ws n2) ∈ news) (hz : vs.length + ws.length ≤ 1000)
    (h : ∀ D h', Fr h₀ L h' m → News h₀ L h' ((D, lsO (vs ++ ws) 0) :: news) → (∀ p ∈ news, p.1 < D) → Q (.ref D) { s with heap := h' }) : wpAny (model prog w) A (binaryOp .Add (.ref l) (.ref b)) Q E s :=
  add_lists (hsz := by rw [sizeLine_eq]; omega) F N ⟨_, (N _ hl).1, rfl, n, rfl⟩ ⟨_, (N _ hb).1, rfl, n2, rfl⟩ fun h' F' N' => h _ h' F' N' fun p hp => Heap.lt_size (N p hp).1
theorem ifexp_join {test a b : PySem.Expr} {pos : Pos} {env : Env} {c : Bool} {x y : Int}
    (ht : ∀ {Q' : Bool → Shared → Prop}, (∀ tk, Q' c { s with toks := tk }) → wpAny (model prog w) A (isTrue test env (eval test env)) Q' E s)
    (ha : ∀ {s' : Shared} {Q' : Value → Shared → Prop}, (∀ t tk, Q' (.int x t) { s' with toks := tk }) → wpAny (model prog w) A (eval a env) Q' E s')
    (hb : ∀ {s' : Shared} {Q' : Value → Shared → Prop}, (∀ t tk, Q' (.int y t) { s' with toks := tk }) → wpAny (model prog w) A (eval b env) Q' E s')
    (h : ∀ t tk, Q (.int (if c = true then x else y) t) { s with toks := tk }) : wpAny (model prog w) A (eval (.IfExp test a b pos) env) Q E s := by
  rw [arm_eval_IfExp]
  refine wpAny_bind (ht fun tk => ?_)
  cases c with
  | true => exact ha fun t tk => h t tk
  | false => exact hb fun t tk => h t tk
end
end
section
theorem off_DF : True := by
  k_with_none
  trivial
open PySem PySem.W PyProof.Rows PySem.Calls
theorem on_DF0 : True := by
 k_with_none
 k_with "ax" => first | assumption | exact ja0 ‹_› | exact ja1 ‹_› | exact je1 ‹_› | exact ja2 ‹_› | exact ja3 ‹_› | exact ja4 ‹_› | exact ja5 ‹_› | exact je5 ‹_› | exact ja6 ‹_› | exact ja7 ‹_› | exact je7 ‹_› | exact ja8 ‹_› | exact ja9 ‹_› | exact je13 ‹_› | exact je14 ‹_›
 k_with "nx" => with_reducible (first | (refine Nat.ne_of_lt ?_; (repeat (first | exact js | refine jl ?_)); all_goals k_extra "ax") | (refine Nat.ne_of_gt ?_; (repeat (first | exact js | refine jl ?_)); all_goals k_extra "ax") | k_extra "ax" | (refine Ne.symm ?_; k_extra "ax"))
 k_with "rm" => ((with_reducible first | exact room0 ‹_› | refine room1 ‹_› ?_ | refine room2 ‹_› ?_ | refine room3 ‹_› ?_ | refine room4 ‹_› ?_); all_goals exact rfl)
 k_with "om" => first | (with_reducible first | k_extra "ax" | exact jn ‹_› | exact jn (ja0 ‹_›) | (refine Nat.lt_trans ?_ ‹_›; k_extra "ax")) | decide | omega
 k_with "hk" => (with_reducible first | (refine hKq _ _ ?_; clear hKq; (try clear Kq)) | (refine hKt _ _ ?_; clear hKt; (try clear Kt)) | (refine hK0 _ _ ?_; clear hK0; (try clear K0)))
 k_with "q:k_ne" => (refine neN ?_; (try dsimp only); first | k_extra "nx" | omega)
 k_with "q:sub9" => row_timed "f" (fail; (repeat' (first | (refine fm (by k_mem) ?_) | exact List.forall_mem_nil _ | (intro pZ hpZ; (repeat (first | with_reducible_and_instances exact hpZ | with_reducible_and_instances exact List.mem_append_right _ hpZ | refine List.Mem.tail _ ?_)); done) | exact fun _ hpZ => hpZ | (intro pZ hpZ; (repeat (first | exact hpZ | exact List.mem_append_right _ hpZ | refine List.Mem.tail _ ?_))))))
 k_with "q:steps9" => row_timed "f" (fail; (repeat' (first | (k_extra "hk"; (try dsimp only)) | (k_unfold; (try dsimp only)) | walk1 | (dsimp only; walk1) | (leave1; walk_say "STEP leave1"; try dsimp only))))
 k_with "q:k_room" => row_timed "f" (fail; ((try simp only [depth_under_make, depth_under_kw, depth_in1, depth_deeper]); (try dsimp only); first | k_extra "rm" | omega))
 k_with "q:k_units" => row_timed "f" (fail; ((try simp only [Around.deeper_units, Around.in1_units, Around.mark_units]); (try dsimp only); first | k_extra "rm" | omega))
 k_with "q:k_mem" => row_timed "f" (fail; (with_reducible_and_instances (repeat (first | exact List.Mem.head _ | refine List.Mem.tail _ ?_)); done))
 k_with "q:eval Name" => row_timed "f" (fail; (k_here; (with_reducible show wpAny _ _ (eval (Expr.Name _ _) (compEnvC _ _ _ _)) _ _ _); k_dflt (refine' lcf_cell ?NZ ?cZ ?mZ ?dZ ?_ ?aZ ?bZ; (case aZ => rfl); (case bZ => kernel_rfl); (case NZ => k_asm); (case cZ => rfl); (case mZ => k_mem); (case dZ => first | rfl | k_asm); k_whole)))
 k_with "q:eval Name" => row_timed "f" (fail; (k_here; (with_reducible show wpAny _ _ (eval (Expr.Name _ _) (compEnvC _ _ _ _)) _ _ _); k_dflt (refine LCgL.ld_own (by k_asm) (by k_mem) (by assumption) (by assumption) ?_)))
 k_with "q:call builtin:list.append" => row_timed "f" (fail; (k_here; (with_reducible show wpAny _ _ (call (Value.builtin _) [Value.ref _, _]) _ _ _); k_dflt (refine' app_K ?FZ ?NZ ?UZ ?zZ ?_; (case FZ | NZ => k_asm); (case UZ => k_updF); (case zZ => ((try simp only [List.length_nil, List.length_append, List.length_cons, ptV_length]); k_extra "om")); k_whole); intro h'Z F'Z N'Z; (try dsimp only at N'Z); (try k_sweep)))
 k_with "q:eval ListComp" => row_timed "f" (fail; (k_here; (refine hold ?_)))
 k_with "q:exec Assign cons ListComp" => row_timed "f" (fail; (k_here; (refine hold ?_)))
 k_with "q:exec Assign cons ListComp" => row_timed "f" (fail; (k_here; k_dflt (refine wpAny_Assign_Name ?_)))
 k_with "q:call builtin:len" => row_timed "f" (fail; (k_here; (with_reducible show wpAny _ _ (call (Value.builtin "len") [Value.str _ _]) _ _ _); k_dflt (refine PyProof.Rows.len_str (by k_extra "om") ?_)))
 k_with "q:k_all" => row_timed "f" (fail; (refine' OwnOff.ne ?kaAZ ?kaBZ; (case kaAZ => with_reducible assumption); (case kaBZ => (repeat (first | exact List.Mem.head _ | refine List.Mem.tail _ ?_)))))
 k_with "q:call builtin:len" => row_timed "f" (fail; (k_here; (with_reducible show wpAny _ _ (call (Value.builtin "len") [Value.ref _]) _ _ _); k_dflt (refine' len_V ?NZ ?hlZ ?hkZ ?hzZ ?_; (case NZ => k_asm); (case hlZ => k_mem); (case hkZ => assumption); (case hzZ => k_extra "om"); k_whole); intro t'Z k'Z))
 k_with "q:subscriptTail Name Slice ref ref" => row_timed "f" (fail; (k_here; (with_reducible show wpAny _ _ (subscriptTail _ _ (Value.ref _) (Value.ref _)) _ _ _); k_dflt (refine' slice_run_V ?FZ ?NZ ?lZ ?h0Z ?h1Z ?habZ ?h2Z ?_ ?sZ ?tZ; (case FZ | NZ => k_asm); (case lZ => k_mem); (case h0Z | h1Z => k_extra "om"); (case habZ | h2Z => k_extra "om"); (case sZ => with_unfolding_all rfl); (case tZ => intro _; rfl); k_whole); intro D'Z h'Z F'Z N'Z l1Z; (try k_lt l1Z)))
 k_with "q:call builtin:sum" => row_timed "f" (fail; (k_here; (with_reducible show wpAny _ _ (call (Value.builtin "sum") [Value.ref _]) _ _ _); k_dflt (refine' sum_V ?hhZ ?FZ ?NZ ?hlZ ?hiZ ?_; (case hhZ => rfl); (case FZ | NZ => k_asm); (case hlZ => k_mem); (case hiZ => exact ints_take (ints_drop (by assumption) _) _); k_whole); intro h'Z tk'Z t'Z F'Z N'Z))
 k_with "q:call builtin:max" => row_timed "f" (fail; (k_here; (with_reducible show wpAny _ _ (call (Value.builtin "max") [Value.ref _]) _ _ _); k_dflt (refine' max_V ?hhZ ?FZ ?NZ ?hlZ ?hiZ ?hneZ ?_; (case hhZ => rfl); (case FZ | NZ => k_asm); (case hlZ => k_mem); (case hiZ => exact ints_app (.cons _ _ .nil) (by assumption)); (case hneZ => (simp only [List.length_append, List.length_cons]; k_extra "om")); k_whole); intro h'Z M'Z t'Z tk'Z F'Z N'Z hM1'Z hM2'Z))
 k_with "q:binaryOp Add ref ref" => row_timed "f" (fail; (k_here; k_dflt (refine' addls_V ?FZ ?NZ ?hlZ ?hbZ ?hzZ ?_; (case FZ | NZ => k_asm); (case hlZ | hbZ => k_mem); (case hzZ => (simp only [List.length_cons, List.length_nil]; k_extra "om")); k_whole); intro D'Z h'Z F'Z N'Z l1Z; (try k_lt l1Z)))
 k_with "q:eval IfExp" => row_timed "f" (fail; (k_here; (refine hold ?_)))
 k_with "q:exec While" => row_timed "f" (fail; (k_here; (refine hold ?_)))
 trivial
noncomputable def szI (ws : List Str) : List Int := ws.map fun w => (w.length : Int) + 1
theorem szI_len (ws : List Str) : (szI ws).length = ws.length := List.length_map ..
theorem cells_off {own : List (Addr × Obj)} {L : Addr} (h : ∀ p ∈ own, p.1 < L) : OwnOff own [L + 1 + 1 + 1, L + 1 + 1, L + 1] := by
  intro p hp b hb
  have hl : @LT.lt Nat _ p.1 L := h p hp
  simp only [List.mem_cons, List.not_mem_nil, or_false] at hb
  rcases hb with rfl | rfl | rfl <;> (show @Ne Nat _ _; k_extra "om")
noncomputable def fitsI (ws : List Str) (W p r : Nat) (k : Int) : Bool := decide ((((szI ws).drop ((p : Int)).toNat).take (k - (p : Int)).toNat).sum ≤ (W : Int) - (r : Int))
theorem sum_cast : ∀ l : List Nat, ((l.map fun (x : Nat) => (x : Int)).sum : Int) = ((l.sum : Nat) : Int)
  | [] => rfl
  | x :: l => by simp only [List.map_cons, List.sum_cons, sum_cast l]; k_extra "om"
theorem szI_cast (ws : List Str) : szI ws = (szs ws).map fun (x : Nat) => (x : Int) := by
  unfold szI szs
  rw [List.map_map]
  exact List.map_congr_left fun w _ => by simp
theorem fitsI_is {ws : List Str} {W p r : Nat} (hr : r ≤ W) (j : Nat) : fitsI ws W p r ((p : Int) + (j : Int) * 1) = decide ((((szs ws).drop p).take j).sum ≤ W - r) := by
  unfold fitsI
  have e1 : ((p : Int)).toNat = p := by k_extra "om"
  have e2 : ((p : Int) + (j : Int) * 1 - (p : Int)).toNat = j := by k_extra "om"
  rw [e1, e2, szI_cast, ← List.map_drop, ← List.map_take, sum_cast]
  exact decide_eq_decide.mpr (by k_extra "om")
theorem span_le {n p j : Nat} (h : j < ((n : Int) + 1 - (p : Int)).toNat) : j ≤ n - p := by k_extra "om"
theorem span_lt {n p j : Nat} (hp : p < n) (h : j ≤ n - p) : j < ((n : Int) + 1 - (p : Int)).toNat := by k_extra "om"
theorem span_at (p j : Nat) : ((p : Int) + (j : Int) * 1) = ((p + j : Nat) : Int) := by k_extra "om"
theorem place_le {n p l f : Nat} (hp : p < n) (hl : l ≤ 1) (hf : f ≤ n - p) : p + max l f ≤ n := by
  rw [Nat.add_comm]
  exact Nat.add_le_of_le_sub (Nat.le_of_lt hp) (Nat.max_le.mpr ⟨Nat.le_trans hl (Nat.sub_pos_of_lt hp), hf⟩)
theorem place_in {n p q : Nat} (h : p + q < n) : q < n - p := by k_extra "om"
theorem place_out {n p q : Nat} (hp : p < n) (h : ¬ p + q < n) : ¬ q < n - p := by k_extra "om"
theorem while_less {n p q : Nat} (hp : p < n) (e : Bool) (h : e = false → 1 ≤ q) : 2 * (n - (p + q)) + 0 < 2 * (n - p) + (if e = true then 1 else 0) := by
  cases e with
  | true => exact Nat.lt_succ_of_le (Nat.mul_le_mul_left 2 (Nat.sub_le_sub_left (Nat.le_add_right p q) n))
  | false => exact Nat.mul_lt_mul_of_pos_left (Nat.sub_lt_sub_left hp (Nat.lt_add_of_pos_right (h rfl))) (by decide)
theorem few_on {a p q : Nat} {e : Bool} (h : a ≤ p + (if e = true then 0 else 1)) (h1 : e = false → 1 ≤ q) : a + 1 ≤ p + q + 1 ∧ a ≤ p + q + 1 := by
  have k : a ≤ p + q := by
    cases e with
    | true => exact Nat.le_trans h (Nat.le_add_right p q)
    | false => exact Nat.le_trans h (Nat.add_le_add_left (h1 rfl) p)
  exact ⟨Nat.succ_le_succ k, Nat.le_succ_of_le k⟩
theorem lst_of (e : Bool) : ∃ l : Nat, ((if e = true then 0 else 1 : Nat) = l) ∧ ((if e = true then 0 else 1 : Int) = (l : Int)) ∧ l ≤ 1 ∧ (e = false → l = 1) := by
  cases e
  · exact ⟨1, rfl, rfl, Nat.le_refl 1, fun _ => rfl⟩
  · exact ⟨0, rfl, rfl, Nat.zero_le 1, fun h => nomatch h⟩
theorem seam_turn {ws : List Str} {W p r : Nat} {e : Bool} {acc S : List Nat} {M : Int} (hp : p < ws.length) (hr : r ≤ W) (he : e = false → r = 0) (hall : acc ++ seamsFrom p (flags W r e ((szs ws).drop p)) = S)
    (h1 : M ∈ [(p : Int) + (if e = true then 0 else 1)] ++ (((List.range (((ws.length : Int) + 1 - (p : Int)).toNat)).map fun (j : Nat) => ((p : Nat) : Int) + (j : Int) * 1).filter (fitsI ws W p r)))
    (h2 : ∀ a ∈ [(p : Int) + (if e = true then 0 else 1)] ++ (((List.range (((ws.length : Int) + 1 - (p : Int)).toNat)).map fun (j : Nat) => ((p : Nat) : Int) + (j : Int) * 1).filter (fitsI ws W p r)), a ≤ M) :
    ∃ q : Nat, M = ((p + q : Nat) : Int) ∧ p + q ≤ ws.length ∧ (e = false → 1 ≤ q) ∧ (p + q < ws.length → (acc ++ [p + q]) ++ seamsFrom (p + q) (flags W 0 false ((szs ws).drop (p + q))) = S) ∧ (¬ p + q < ws.length → acc ++ seamsFrom (p + q) (flags W 0 false ((szs ws).drop (p + q))) = S) := by
  have hsl : (szs ws).length = ws.length := List.length_map ..
  have hdl : ((szs ws).drop p).length = ws.length - p := by rw [List.length_drop, hsl]
  obtain ⟨lst, el, ei, l1, l2⟩ := lst_of e
  rw [ei] at h1 h2
  have hle : ((p : Nat) : Int) + (lst : Int) = ((p + lst : Nat) : Int) := rfl
  have hM := next_place (sz := szs ws) (p := p) (lst := lst) (room := W - r) (x := M) (by
      rcases List.mem_append.mp h1 with q | q
      · left; rw [List.mem_singleton.mp q]; exact hle
      · right
        obtain ⟨q1, q2⟩ := List.mem_filter.mp q
        obtain ⟨j, hj, rfl⟩ := List.mem_map.mp q1
        rw [fitsI_is hr] at q2
        exact ⟨j, by rw [hsl]; exact span_le (List.mem_range.mp hj), of_decide_eq_true q2, span_at p j⟩)
    (by rw [← hle]; exact h2 _ (List.mem_append_left _ (List.mem_singleton.mpr rfl)))
    (fun i hi hs => by
      rw [hsl] at hi
      have hm : ((p : Nat) : Int) + (i : Int) * 1 ≤ M := h2 _ (List.mem_append_right _ (List.mem_filter.mpr ⟨List.mem_map.mpr ⟨i, List.mem_range.mpr (span_lt hp hi), rfl⟩, by rw [fitsI_is hr]; exact decide_eq_true hs⟩))
      rw [span_at] at hm
      exact hm)
  have hn := seams_next W ((szs ws).drop p) p r e hr he
  rw [el] at hn
  have hf := fit_le ((szs ws).drop p) (W - r)
  rw [hdl] at hf
  refine ⟨_, hM, place_le hp l1 hf, fun q => by rw [l2 q]; exact Nat.le_max_left _ _, fun hlt => ?_, fun hge => ?_⟩
  · rw [if_pos (by rw [hdl]; exact place_in hlt), List.drop_drop] at hn
    rw [← hall, hn, List.append_assoc]
    rfl
  · rw [if_neg (by rw [hdl]; exact place_out hp hge)] at hn
    have hd : (szs ws).drop (p + max lst (fit (W - r) ((szs ws).drop p))) = [] := List.drop_eq_nil_of_le (by rw [hsl]; exact Nat.not_lt.mp hge)
    rw [hd, ← hall, hn]
    rfl
structure SeamJ (ws : List Str) (W : Nat) (m0 : Str → Option Value) (c1 c2 c3 zl sl : Addr) (keep : List (Addr × Obj)) (S : List Nat) (p r : Nat) (e : Bool) (acc : List Nat) (svs : List Value) (sn : Nat) (o1 o2 o3 : Obj) (tp tr tl : Tok) (n : Nat) (m : Str → Option Value) (news : List (Addr × Obj)) : Prop where
  hp : p ≤ ws.length
  hr : r ≤ W
  he : e = false → r = 0
  hn : n = 2 * (ws.length - p) + (if e = true then 1 else 0)
  all : acc ++ seamsFrom p (flags W r e ((szs ws).drop p)) = S
  few : acc.length ≤ p + (if e = true then 0 else 1)
  m1 : (c1, o1) ∈ news
  d1 : o1.data = .cell (some (.ref zl))
  m2 : (c2, o2) ∈ news
  d2 : o2.data = .cell (some (.int ((p : Nat) : Int) tp))
  m3 : (c3, o3) ∈ news
  d3 : o3.data = .cell (some (.int ((W : Int) - ((r : Nat) : Int)) tr))
  ms : (sl, lsO svs sn) ∈ news
  is : IntsAre svs (acc.map fun (x : Nat) => (x : Int))
  keep : ∀ p ∈ keep, p ∈ news
  least : m "least" = some (.int (if e = true then 0 else 1) tl)
  rest : ∀ y, y ∉ ([Str.ofString "least", Str.ofString "fits"] : List Str) → m y = m0 y
theorem frame_two {m m0 : Str → Option Value} {v : Option Value} (h1 : m (Str.ofString "least") = v) (h2 : ∀ y, y ∉ ([Str.ofString "least", Str.ofString "fits"] : List Str) → m y = m0 y) : ∃ o, m = fun y => if y = Str.ofString "fits" then o else if y = Str.ofString "least" then v else m0 y := by
  refine ⟨m (Str.ofString "fits"), ?_⟩
  funext y
  by_cases q1 : y = Str.ofString "fits"
  · rw [if_pos q1, q1]
  rw [if_neg q1]
  by_cases q2 : y = Str.ofString "least"
  · rw [if_pos q2, q2]; exact h1
  rw [if_neg q2]
  exact h2 y (by simp [q1, q2])
theorem ex_fr2 {C : Prop} {h₀ h : Heap} {L : Addr} {m : Str → Option Value} (F : Fr h₀ L h m) (k : ∀ m', m' = m → Fr h₀ L h m' → C) : C := k m rfl F
theorem ex_ls {C : Prop} {h₀ h : Heap} {L sl zl a b c : Addr} {o1 o2 o3 : Obj} {zvs : List Value} {n : Nat} {r : List (Addr × Obj)} (N : News h₀ L h ((sl, lsO [] 0) :: (zl, lsO zvs n) :: (a, o3) :: (b, o2) :: (c, o1) :: r)) (k : ∀ sl' p1 p2 p3, sl' = sl → p1 = o1 → p2 = o2 → p3 = o3 → News h₀ L h ((sl, lsO [] 0) :: (zl, lsO zvs n) :: (a, o3) :: (b, o2) :: (c, o1) :: r) → C) : C := k _ _ _ _ rfl rfl rfl rfl N
theorem ex_obj3 {C : Prop} {h₀ h : Heap} {L a b c : Addr} {o1 o2 o3 : Obj} {r : List (Addr × Obj)} (_N : News h₀ L h ((a, o1) :: (b, o2) :: (c, o3) :: r)) (k : ∀ p1 p2 p3, p1 = o1 → p2 = o2 → p3 = o3 → C) : C := k _ _ _ rfl rfl rfl
theorem ints_snoc {vs : List Value} {ns : List Int} (h : IntsAre vs ns) (x : Int) (t : Tok) : IntsAre (vs ++ [.int x t]) (ns ++ [x]) := by
  induction h with
  | nil => exact .cons x t .nil
  | cons n u _ ih => exact .cons n u ih
section
variable {w : World} {A₀ : Around} {base h₀ : Heap} {env : Env} {outer : List Env} {dd uu : Nat} {gs : Option (List Code)} {L : Addr} {m mg mb : Str → Option Value} {s : Shared} {own : List (Addr × Obj)} {p : Program} {loose : List Str} {mean : ExcName → Option Value} {Q : Value → Shared → Prop} {E : Value → Shared → Prop}
  (B : Below A₀ base outer h₀) (F : Fr h₀ L s.heap m) (KX : (Mine.hd.heap_1 w.params).In h₀) (T : Top p loose mean mg mb h₀) (hf : env.frame = some L) (hke : env.scope.kind = .function)
include B F KX T hf hke
variable {wl : Addr} {n9 : Nat} {u1 u2 : Tok} {W H : Nat} {ws : List Str} {wvs : List Value}
theorem seams_in (N : News h₀ L s.heap ((wl, lsO wvs n9) :: own))
   (hws : TextsAre wvs ws) (hH : H ≤ W) (hW : W ≤ 1000) (hwn : ws.length ≤ 100) (hwl : ∀ w ∈ ws, w.length ≤ 30) (G : AllBare s.gens)
   (hd : dd + 120 < recursionLimit) (hu : uu + 800 < cLine)
   (h : ∀ h' tk gs sl svs sn, Fr h₀ L h' m → AllBare gs → News h₀ L h' ((sl, lsO svs sn) :: (wl, lsO wvs n9) :: own) → IntsAre svs ((seams W H ws).map fun (x : Nat) => (x : Int)) → (∀ p ∈ (wl, lsO wvs n9) :: own, @LT.lt Nat _ p.1 sl) → Q (.ref sl) { s with heap := h', toks := tk, gens := gs }) :
   wpAny (model rw_wn0107_02.row.toRowW.prog w) ⟨none, dd, some (env :: outer), gs, uu⟩ (call (.ref 257) [.ref wl, .int W u1, .int H u2]) Q E s := by
  revert KX; k_fill; intro KX
  refine wpAny_call ?_
  refine' code_defC ?k1 ?k2 ?k3 ?k4 ?k5 ?kA ?kF ?kK ?k6 ?k7 ?k8 ?k9 ?kB ?kD ?_ ?c2 ?c3 ?c4
  case kA => exact rfl
  case kF => exact hf
  case kK => exact hke
  case k1 => k_asm
  case k2 => k_asm
  case k3 => k_asm
  case k4 => k_asm
  case k5 => k_asm
  case k6 => k_is
  case k7 => k_is
  case k8 => show dd < recursionLimit; first | exact room0 (by assumption) | k_extra "om"
  case k9 => first | exact BindsTo.of_eq rfl | exact binds_K (by k_in) rfl (by k_is) rfl rfl rfl
  case kB => exact rfl
  case kD => decide +kernel
  case c2 => exact rfl
  case c3 => exact rfl
  case c4 => exact rfl
  k_whole; intro g' L' h' tk' cells' FG' F' N' Y' B' X' T' l1; (try k_lt l1); k_cells Y'; (try simp only [List.cons_append, List.nil_append] at N'); (try dsimp only); (try k_lift B'); (try k_fold); clear B F KX N T FG'
  walk_at "steps9"
  exact by
   have hoc : OwnOff own [L' + 1 + 1 + 1, L' + 1 + 1, L' + 1] := cells_off (allLt_all l1.2)
   have hwL : @LT.lt Nat _ wl L' := l1.1
   rename News _ _ _ _ => N0
   refine ex_obj3 N0 ?_
   rintro o3 o2 o1 rfl rfl rfl
   rename o3.data = _ => e3
   rename o2.data = _ => e2
   rename o1.data = _ => e1
   have d3 : o3.data = .cell none := e3
   have d2 : o2.data = .cell none := e2
   have d1 : o1.data = .cell none := e1
   clear e1 e2 e3
   refine comp_gen (B := BName "word") (by k_asm) (by with_unfolding_all rfl) (by decide) (by rfl) (by decide) (fun C => asg_name (by rfl) (by rfl)) ?_
   walk_at "steps9"
   exact by
    rename News _ _ _ _ => N9
    refine ex_led N9 ?_
    intro led hled N9'
    refine' SrcG.of (fun i ys nw => IntsAre ys ((szI ws).take i) ∧ ∀ p ∈ led, p ∈ nw) ?W ?F ?N ?G ?S ?J0 ?B ?turn ?fin
    case W => exact src_list (vs := wvs) (by rfl) N9' (by rw [hled]; k_mem) (by rw [hws.length]; k_extra "om")
    case F => k_asm
    case N => exact N9'
    case G => exact G
    case S => rw [hled]; k_mem
    case J0 => exact ⟨.nil, fun p hp => hp⟩
    case B => exact fun i v ys news _ _ _ => ⟨_, rfl⟩
    case turn =>
      refine turn_plain ?_
      rintro i v bs ys nw I oI C oC D2 mC h9 tk9 gs9 E' hi hv rfl ⟨hJ, hkeep⟩ hsrc G9 hNs hm2 F9 N10 off three hyl
      refine wp_gen ?_
      intro Kt Et hKt hEt
      exact by
       have hvT : ∃ a t, v = .str a t ∧ ws[i]? = some a := texts_get hws hv
       refine hvT.elim fun a q => q.elim fun ta q => ?_
       have hn9 := hm2 "word" _ rfl
       rw [q.1] at hn9
       have hal := hwl a (List.mem_of_getElem? q.2)
       have hsz : (szI ws)[i]? = some ((a.length : Int) + 1) := by unfold szI; rw [List.getElem?_map, q.2]; rfl
       clear N9 N9'
       walk_at "steps9"
       exact by
        (try refine hKt _ _ ?_)
        show EndG _ _ _ _ _ _ _ _ _ _ _ _ _
        refine EndG.same G9 F9 N10 (fun b o e => e) off hsrc ⟨?_, hkeep⟩
        rw [List.take_add_one, hsz]
        exact ints_snoc hJ _ _
    case fin =>
      rintro zl zvs nw h9 tk9 gs9 ⟨hJ, hkeep⟩ G9 F9 N10 hoff
      exact by
       rw [hws.length, ← szI_len, List.take_length] at hJ
       have hzs : (szI ws).length = zvs.length := hJ.length.symm
       have N11 := subN N10 (fm (.head _) (fun p hp => .tail _ (hkeep p hp)))
       rw [hled] at N11
       have hDk := fun p hp => hoff p (hkeep p hp)
       rw [hled] at hDk
       simp only [List.forall_mem_cons] at hDk
       clear N9 N9' N10
       (try dsimp only)
       walk_at "steps9"
       exact by
        refine ifexp_join (c := ((H : Nat) : Int) == 0) (x := 1) (y := 0) ?ht (fun hq => ?ha) (fun hq => ?hb) ?_
        case ht =>
          intro Q' hq
          walk_at "steps9"
          exact hq _
        case ha =>
          walk_at "steps9"
          exact hq _ _
        case hb =>
          walk_at "steps9"
          exact hq _ _
        intro tls tkls
        walk_at "steps9"
        exact by
         rename News _ _ _ _ => N12
         refine ex_ls N12 ?_
         rintro sl k1 k2 k3 rfl rfl rfl rfl N13
         exact by
          have f1 : k1.data = .cell (some (.ref zl)) := by assumption
          have f2 : ∃ t, k2.data = .cell (some (.int ((0 : Nat) : Int) t)) := ⟨_, by assumption⟩
          have f3 : ∃ t, k3.data = .cell (some (.int ((W : Int) - ((H : Nat) : Int)) t)) := ⟨_, by assumption⟩
          refine f2.elim fun tp f2 => f3.elim fun tr f3 => ?_
          rename Fr _ _ _ _ => F8
          refine ex_fr2 F8 ?_
          intro m8 hm8 F8'
          have hlz : zl < sl ∧ L' + 1 + 1 + 1 < sl ∧ L' + 1 + 1 < sl ∧ L' + 1 < sl ∧ wl < sl ∧ AllLt sl own := by assumption
          show wpAny _ _ _ _ _ _
          refine' while_G (n₀ := 2 * (ws.length - 0) + (if decide (0 < H) = true then 1 else 0)) (fun n m news => ∃ p r e acc svs sn o1 o2 o3 tp tr tl, SeamJ ws W m8 (L' + 1) (L' + 1 + 1) (L' + 1 + 1 + 1) zl sl ((zl, lsO zvs zvs.length) :: (wl, lsO wvs n9) :: own) (seams W H ws) p r e acc svs sn o1 o2 o3 tp tr tl n m news) ?F ?N ?G ?J0 ?turn (by passes_own)
          case F => exact F8'
          case N => exact N13
          case G => exact G9
          case J0 =>
            refine ⟨0, H, decide (0 < H), [], [], 0, k1, k2, k3, tp, tr, tls, ⟨Nat.zero_le _, hH, fun q => by have := of_decide_eq_false q; k_extra "om", rfl, rfl, Nat.zero_le _, by k_mem, f1, by k_mem, f2, by k_mem, f3, by k_mem, .nil, ?kp, ?ls, fun y _ => rfl⟩⟩
            case kp => walk_at "sub9"
            case ls =>
              rw [hm8]
              have e : (if (((H : Nat) : Int) == 0) = true then (1 : Int) else 0) = (if decide (0 < H) = true then (0 : Int) else 1) := by
                by_cases q : H = 0
                · subst q; rfl
                · rw [if_neg (by simp [q]), if_pos (decide_eq_true (by k_extra "om"))]
              rw [← e]
              rfl
          case turn =>
            intro n m₁ news h10 tk10 gs10 F10 N14 G10 hJ9
            refine wp_gen ?_
            intro Kt Et hKt hEt
            refine hJ9.elim fun p z => z.elim fun r z => z.elim fun e z => z.elim fun acc z => z.elim fun svs z => z.elim fun sn z => z.elim fun o1 z => z.elim fun o2 z => z.elim fun o3 z => z.elim fun tp' z => z.elim fun tr' z => z.elim fun tl' J => ?_
            clear z hJ9
            exact by
             refine (frame_two J.least J.rest).elim fun of em => ?_
             rw [em, hm8] at F10
             have g1 := J.d1
             have g2 := J.d2
             have g3 := J.d3
             have hp := J.hp
             have hr := J.hr
             have hzl9 : zvs.length = ws.length := by rw [hJ.length, szI_len]
             have hk9 : (zvs.length : Int) = (ws.length : Int) := by rw [hzl9]
             have hle : (0 : Int) ≤ (if e = true then 0 else 1) ∧ (if e = true then (0 : Int) else 1) ≤ 1 := by split <;> decide
             have N15 := subN (b := (sl, lsO svs sn) :: (zl, lsO zvs zvs.length) :: (L' + 1 + 1 + 1, o3) :: (L' + 1 + 1, o2) :: (L' + 1, o1) :: (wl, lsO wvs n9) :: own) N14 (by
               exact fm J.ms (fm (J.keep _ (.head _)) (fm J.m3 (fm J.m2 (fm J.m1 (fm (J.keep _ (.tail _ (.head _))) (fun p hp => J.keep p (.tail _ (.tail _ hp)))))))))
             clear N12 N13 N14 F8 F8'
             exact by
              have hns : ∀ y ∈ [sl, wl], @Ne Nat y (L' + 1) ∧ @Ne Nat y (L' + 1 + 1) ∧ @Ne Nat y (L' + 1 + 1 + 1) := by
                obtain ⟨z1, z2, z3, z4, z5, z6⟩ := hlz
                have z2' : @LT.lt Nat _ (L' + 1 + 1 + 1) sl := z2
                intro y hy
                simp only [List.mem_cons, List.not_mem_nil, or_false] at hy
                rcases hy with e9 | e9 <;> rw [e9] <;> (refine ⟨?_, ?_, ?_⟩ <;> k_extra "om")
              walk_at "steps9"
              · show wpAny _ _ _ _ _ _
                exact by
                 have hlt : ((p : Nat) : Int) < (ws.length : Int) := by assumption
                 refine' comp_assign (B := BName "k") (cl := [(Str.ofString "sizes", L' + 1), (Str.ofString "room", L' + 1 + 1 + 1), (Str.ofString "place", L' + 1 + 1)]) ?cF ?cL ?csw ?ccl ?cce ?cki ?cna ?cas ?chy ?chp ?_ ?chs
                 case cF => k_asm
                 case cL => exact rfl
                 case csw => kernel_rfl
                 case ccl => kernel_rfl
                 case cce => decide
                 case cki => rfl
                 case cna => decide
                 case cas => exact fun C => asg_name (by rfl) (by rfl)
                 case chy => kernel_rfl
                 case chp => kernel_rfl
                 case chs => intro _; kernel_rfl
                 walk_at "steps9"
                 exact by
                  rename News _ _ _ _ => N9
                  refine ex_led N9 ?_
                  intro led2 hled2 N9'
                  have hm1 : (L' + 1, o1) ∈ led2 := by rw [hled2]; k_mem
                  have hm2 : (L' + 1 + 1, o2) ∈ led2 := by rw [hled2]; k_mem
                  have hm3 : (L' + 1 + 1 + 1, o3) ∈ led2 := by rw [hled2]; k_mem
                  have hmz : (zl, lsO zvs zvs.length) ∈ led2 := by rw [hled2]; k_mem
                  refine' SrcG.of (fun i ys nw => IntsAre ys (((List.range i).map fun (j : Nat) => ((p : Nat) : Int) + (j : Int) * 1).filter (fitsI ws W p r)) ∧ ∀ p ∈ led2, p ∈ nw) ?W ?F ?N ?G ?S ?J0 ?B ?turn2 ?fin2
                  case W => exact src_range (by rfl) (by assumption) (small_one (by k_extra "om") (by k_extra "om") (by k_extra "om") (by k_extra "om")) (rangeSize_nat _ _) (by k_extra "om")
                  case F => k_asm
                  case N => exact N9'
                  case G => exact G10
                  case S => trivial
                  case J0 => exact ⟨.nil, fun p hp => hp⟩
                  case B => exact fun i v ys news _ _ _ => ⟨_, rfl⟩
                  case turn2 =>
                    refine turn_test ?_
                    rintro i v bs ys nw I oI C oC D3 mC h9 tk9 gs9 E' hi ⟨t, rfl⟩ rfl ⟨hJ2, hkeep2⟩ hsrc G9 hNs hm2' F9 N10 off three hyl
                    exact by
                     have hn9 := hm2' "k" _ rfl
                     have N16 := subN (b := (I, oI) :: (C, oC) :: (D3, lsO ys ys.length) :: (L' + 1 + 1 + 1, o3) :: (L' + 1 + 1, o2) :: (L' + 1, o1) :: (zl, lsO zvs zvs.length) :: nw) N10 (by
                       exact fm (.head _) (fm (.tail _ (.head _)) (fm (.tail _ (.tail _ (.head _))) (fm (.tail _ (.tail _ (.tail _ (hkeep2 _ hm3)))) (fm (.tail _ (.tail _ (.tail _ (hkeep2 _ hm2)))) (fm (.tail _ (.tail _ (.tail _ (hkeep2 _ hm1)))) (fm (.tail _ (.tail _ (.tail _ (hkeep2 _ hmz)))) (fun p hp => .tail _ (.tail _ (.tail _ hp))))))))))
                     clear N9 N9' N10
                     (try dsimp only)
                     walk_at "steps9"
                     · rename News _ _ _ _ => N17
                       have hc : ((((szI ws).drop ((p : Int)).toNat).take (((p : Nat) : Int) + (i : Int) * 1 - (p : Int)).toNat).sum ≤ (W : Int) - (r : Int)) := by assumption
                       refine' EndG.of nw G9 (by k_asm) N17 ?sub off hsrc ⟨?_, hkeep2⟩
                       case sub => first | (walk_at "sub9"; done) | (rw [hzs]; walk_at "sub9"; done) | (rw [← hzs]; walk_at "sub9"; done)
                       rw [List.range_succ, List.map_append, List.filter_append, List.map_singleton, List.filter_cons_of_pos (by unfold fitsI; exact decide_eq_true hc)]
                       exact ints_snoc hJ2 _ _
                     · rename News _ _ _ _ => N17
                       have hc : ¬ ((((szI ws).drop ((p : Int)).toNat).take (((p : Nat) : Int) + (i : Int) * 1 - (p : Int)).toNat).sum ≤ (W : Int) - (r : Int)) := by assumption
                       refine' EndG.of nw G9 (by k_asm) N17 ?sub off hsrc ⟨?_, hkeep2⟩
                       case sub => first | (walk_at "sub9"; done) | (rw [hzs]; walk_at "sub9"; done) | (rw [← hzs]; walk_at "sub9"; done)
                       rw [List.range_succ, List.map_append, List.filter_append, List.map_singleton, List.filter_cons_of_neg (by unfold fitsI; rw [decide_eq_false hc]; decide), List.filter_nil, List.append_nil]
                       exact hJ2
                  case fin2 =>
                    rintro fl fvs nw h9 tk9 gs9 ⟨hJf, hkeep2⟩ G9 F9 N10 hoffl
                    exact by
                     have hfl9 : fvs.length ≤ 101 := by
                       rw [hJf.length]
                       refine Nat.le_trans (List.length_filter_le _ _) ?_
                       rw [List.length_map, List.length_range]
                       k_extra "om"
                     have hms : (sl, lsO svs sn) ∈ led2 := by rw [hled2]; k_mem
                     have hmw : (wl, lsO wvs n9) ∈ led2 := by rw [hled2]; k_mem
                     have hmo : ∀ p ∈ own, p ∈ led2 := fun p hp => by rw [hled2]; simp [hp]
                     have N18 := subN (b := (fl, lsO fvs fvs.length) :: (sl, lsO svs sn) :: (zl, lsO zvs zvs.length) :: (L' + 1 + 1 + 1, o3) :: (L' + 1 + 1, o2) :: (L' + 1, o1) :: (wl, lsO wvs n9) :: own) N10 (by
                       exact fm (.head _) (fm (.tail _ (hkeep2 _ hms)) (fm (.tail _ (hkeep2 _ hmz)) (fm (.tail _ (hkeep2 _ hm3)) (fm (.tail _ (hkeep2 _ hm2)) (fm (.tail _ (hkeep2 _ hm1)) (fm (.tail _ (hkeep2 _ hmw)) (fun p hp => .tail _ (hkeep2 p (hmo p hp))))))))))
                     have nf1 : @Ne Nat fl (L' + 1 + 1) := Ne.symm (hoffl _ (hkeep2 _ hm2))
                     have nf2 : @Ne Nat fl (L' + 1 + 1 + 1) := Ne.symm (hoffl _ (hkeep2 _ hm3))
                     have ns1 : @Ne Nat sl (L' + 1 + 1) := (hns sl (.head _)).2.1
                     have ns2 : @Ne Nat sl (L' + 1 + 1 + 1) := (hns sl (.head _)).2.2
                     have nz1 : @Ne Nat zl (L' + 1 + 1) := Ne.symm hDk.2.1
                     have nz2 : @Ne Nat zl (L' + 1 + 1 + 1) := Ne.symm hDk.1
                     have nfs : @Ne Nat fl sl := Ne.symm (hoffl _ (hkeep2 _ hms))
                     have nzs : @Ne Nat zl sl := Nat.ne_of_lt hlz.1
                     have hoc2 : OwnOff own [L' + 1 + 1 + 1, L' + 1 + 1, L' + 1, sl] := fun p hp b hb => by
                       rcases List.mem_append.mp (show b ∈ [L' + 1 + 1 + 1, L' + 1 + 1, L' + 1] ++ [sl] from hb) with hb | hb
                       · exact hoc p hp b hb
                       · rw [List.mem_singleton.mp hb]; exact Nat.ne_of_lt (allLt_all hlz.2.2.2.2.2 p hp)
                     clear hoc
                     have hsv : svs.length = acc.length := by rw [J.is.length, List.length_map]
                     have hfew := J.few
                     have hfew2 : acc.length ≤ p + 1 := by revert hfew; split <;> k_extra "om"
                     clear N9 N9' N10
                     exact by
                      (try dsimp only)
                      walk_at "steps9"
                      · skip
                        exact by
                         rename News _ _ _ _ => N20
                         have hM1 := ‹_ ∈ [((p : Nat) : Int) + (if e = true then 0 else 1)] ++ List.filter _ _›
                         have hM2 := ‹∀ a, a ∈ [((p : Nat) : Int) + (if e = true then 0 else 1)] ++ List.filter _ _ → a ≤ _›
                         have hlt2 := ‹_ < ((ws.length : Nat) : Int)›
                         refine (seam_turn (by k_extra "om") hr J.he J.all hM1 hM2).elim fun q hq => ?_
                         have hq1 := hq.1
                         have hq2 := hq.2.1
                         have hq3 := hq.2.2.1
                         have hqs := hq.2.2.2.1 (by k_extra "om")
                         have hn9 := J.hn
                         refine' WhileG.of ((L' + 1, o1) :: (L' + 1 + 1, _) :: (L' + 1 + 1 + 1, _) :: (sl, _) :: (zl, lsO zvs _) :: (wl, lsO wvs n9) :: own) G9 ?F N20 ?sub (n' := 2 * (ws.length - (p + q)) + 0) ?hn ⟨p + q, 0, false, acc ++ [p + q], _, _, o1, _, _, _, _, _, ?J⟩
                         case F => k_asm
                         case sub => first | (walk_at "sub9"; done) | (rw [hzs]; walk_at "sub9"; done) | (rw [← hzs]; walk_at "sub9"; done)
                         case hn =>
                           rw [hn9]
                           exact while_less (Int.ofNat_lt.mp hlt) e hq3
                         case J =>
                           refine' ⟨hq2, Nat.zero_le _, fun _ => rfl, rfl, hqs, ?few, .head _, g1, .tail _ (.head _), ?d2, .tail _ (.tail _ (.head _)), ?d3, .tail _ (.tail _ (.tail _ (.head _))), ?is, ?kp9, rfl, fun y hy => ?rest⟩
                           case kp9 => first | exact fun p hp => .tail _ (.tail _ (.tail _ (.tail _ hp))) | (rw [hzs]; exact fun p hp => .tail _ (.tail _ (.tail _ (.tail _ hp)))) | (rw [← hzs]; exact fun p hp => .tail _ (.tail _ (.tail _ (.tail _ hp))))
                           case few =>
                             rw [List.length_append]
                             exact (few_on hfew hq3).1
                           case d2 => rw [← hq1]; assumption
                           case d3 => rw [show ((W : Nat) : Int) - ((0 : Nat) : Int) = W by simp]; assumption
                           case is => rw [List.map_append]; show IntsAre _ (_ ++ [((p + q : Nat) : Int)]); rw [← hq1]; exact ints_snoc J.is _ _
                           case rest =>
                             simp only [List.mem_cons, List.not_mem_nil, or_false, not_or] at hy
                             rw [hm8]
                             simp only [hy.1, hy.2, if_false]
                      · skip
                        exact by
                         rename News _ _ _ _ => N20
                         have hM1 := ‹_ ∈ [((p : Nat) : Int) + (if e = true then 0 else 1)] ++ List.filter _ _›
                         have hM2 := ‹∀ a, a ∈ [((p : Nat) : Int) + (if e = true then 0 else 1)] ++ List.filter _ _ → a ≤ _›
                         have hlt2 := ‹¬ _ < ((ws.length : Nat) : Int)›
                         refine (seam_turn (by k_extra "om") hr J.he J.all hM1 hM2).elim fun q hq => ?_
                         have hq1 := hq.1
                         have hq2 := hq.2.1
                         have hq3 := hq.2.2.1
                         have hqs := hq.2.2.2.2 (by k_extra "om")
                         have hn9 := J.hn
                         refine' WhileG.of ((L' + 1, o1) :: (L' + 1 + 1, _) :: (L' + 1 + 1 + 1, _) :: (sl, _) :: (zl, lsO zvs _) :: (wl, lsO wvs n9) :: own) G9 ?F N20 ?sub (n' := 2 * (ws.length - (p + q)) + 0) ?hn ⟨p + q, 0, false, acc, _, _, o1, _, _, _, _, _, ?J⟩
                         case F => k_asm
                         case sub => first | (walk_at "sub9"; done) | (rw [hzs]; walk_at "sub9"; done) | (rw [← hzs]; walk_at "sub9"; done)
                         case hn =>
                           rw [hn9]
                           exact while_less (Int.ofNat_lt.mp hlt) e hq3
                         case J =>
                           refine' ⟨hq2, Nat.zero_le _, fun _ => rfl, rfl, hqs, ?few, .head _, g1, .tail _ (.head _), ?d2, .tail _ (.tail _ (.head _)), ?d3, .tail _ (.tail _ (.tail _ (.head _))), ?is, ?kp9, rfl, fun y hy => ?rest⟩
                           case kp9 => first | exact fun p hp => .tail _ (.tail _ (.tail _ (.tail _ hp))) | (rw [hzs]; exact fun p hp => .tail _ (.tail _ (.tail _ (.tail _ hp)))) | (rw [← hzs]; exact fun p hp => .tail _ (.tail _ (.tail _ (.tail _ hp))))
                           case few =>
                             exact (few_on hfew hq3).2
                           case d2 => rw [← hq1]; assumption
                           case d3 => rw [show ((W : Nat) : Int) - ((0 : Nat) : Int) = W by simp]; assumption
                           case is => exact J.is
                           case rest =>
                             simp only [List.mem_cons, List.not_mem_nil, or_false, not_or] at hy
                             rw [hm8]
                             simp only [hy.1, hy.2, if_false]
              · show LeaveK _ _ _ _ _ _ _
                exact by
                 have hge : ¬ ((p : Nat) : Int) < (ws.length : Int) := by assumption
                 have hall := J.all
                 rw [List.drop_eq_nil_of_le (by unfold szs; rw [List.length_map]; k_extra "om")] at hall
                 have hall2 : acc = seams W H ws := by rw [← hall]; exact (List.append_nil acc).symm
                 have hjs := J.is
                 rw [hall2] at hjs
                 refine leaveK_ (by k_asm) (by k_asm) fun kF kN => ?_
                 refine' h _ _ _ sl svs sn kF G10 (subN kN ?sub) hjs ?lt
                 case sub => walk_at "sub9"
                 case lt => exact fm hlz.2.2.2.2.1 (allLt_all hlz.2.2.2.2.2)
end
end
section
theorem off_DG : True := by
  k_with_none
  trivial
open PySem PySem.W PyProof.Rows PySem.Calls
theorem on_DG0 : True := by
 k_with_none
 k_with "li" => ((try simp only [List.length_nil, List.length_append, List.length_cons, ptV_length]); k_extra "om")
 k_with "ax" => first | assumption | exact ja0 ‹_› | exact ja1 ‹_› | exact je1 ‹_› | exact ja2 ‹_› | exact ja3 ‹_› | exact ja4 ‹_› | exact ja5 ‹_› | exact je5 ‹_› | exact ja6 ‹_› | exact ja7 ‹_› | exact je7 ‹_› | exact ja8 ‹_› | exact ja9 ‹_› | exact je13 ‹_› | exact je14 ‹_›
 k_with "nx" => with_reducible (first | (refine Nat.ne_of_lt ?_; (repeat (first | exact js | refine jl ?_)); all_goals k_extra "ax") | (refine Nat.ne_of_gt ?_; (repeat (first | exact js | refine jl ?_)); all_goals k_extra "ax") | k_extra "ax" | (refine Ne.symm ?_; k_extra "ax"))
 k_with "rm" => ((with_reducible first | exact room0 ‹_› | refine room1 ‹_› ?_ | refine room2 ‹_› ?_ | refine room3 ‹_› ?_ | refine room4 ‹_› ?_); all_goals exact rfl)
 k_with "om" => first | (with_reducible first | k_extra "ax" | exact jn ‹_› | exact jn (ja0 ‹_›) | (refine Nat.lt_trans ?_ ‹_›; k_extra "ax")) | decide | omega
 k_with "hk" => (with_reducible first | (refine hKq _ _ ?_; clear hKq; (try clear Kq)))
 k_with "q:execs cons" => (k_here; (with_reducible refine execs_consK ?_); intro Kq tkq hKq)
 k_with "q:k_ne" => (refine neN ?_; (try dsimp only); first | k_extra "nx" | omega)
 k_with "q:sub9" => row_timed "f" (fail; (repeat' (first | (refine fm (by k_mem) ?_) | exact List.forall_mem_nil _ | (intro pZ hpZ; (repeat (first | with_reducible_and_instances exact hpZ | with_reducible_and_instances exact List.mem_append_right _ hpZ | refine List.Mem.tail _ ?_)); done) | exact fun _ hpZ => hpZ | (intro pZ hpZ; (repeat (first | exact hpZ | exact List.mem_append_right _ hpZ | refine List.Mem.tail _ ?_))))))
 trivial
noncomputable def EntV (P : Params) (pm : Value) (news : List (Addr × Obj)) (e : Addr) (A : List Str) (R : List (Str × Bool)) : Prop :=
  ∃ d t1 t2 t3 t4 ua ru us nu rs nr, (e, instObj 59 d) ∈ news ∧ (d, entD P t1 t2 t3 t4 ua ru) ∈ news ∧ (ua, lsO us nu) ∈ news ∧ (ru, lsO rs nr) ∈ news ∧ TextsAre us A ∧ RulesIn P pm news rs R
theorem EntV.mono {P : Params} {pm : Value} {news news' : List (Addr × Obj)} {e : Addr} {A : List Str} {R : List (Str × Bool)} (H : EntV P pm news e A R) (h : ∀ p ∈ news, p ∈ news') : EntV P pm news' e A R := by
  obtain ⟨d, t1, t2, t3, t4, ua, ru, us, nu, rs, nr, h1, h2, h3, h4, h5, h6⟩ := H
  exact ⟨d, t1, t2, t3, t4, ua, ru, us, nu, rs, nr, h _ h1, h _ h2, h _ h3, h _ h4, h5, h6.mono h⟩
theorem on_DG1 : True := by
 k_with "q:k_room" => row_timed "f" (fail; ((try simp only [depth_under_make, depth_under_kw, depth_in1, depth_deeper]); (try dsimp only); first | k_extra "rm" | omega))
 k_with "q:k_units" => row_timed "f" (fail; ((try simp only [Around.deeper_units, Around.in1_units, Around.mark_units]); (try dsimp only); first | k_extra "rm" | omega))
 k_with "q:k_mem" => row_timed "f" (fail; (with_reducible_and_instances (repeat (first | exact List.Mem.head _ | refine List.Mem.tail _ ?_)); done))
 k_with "q:k_ne" => (refine neN ?_; (try dsimp only); first | exact Ap.ne (by assumption) | exact Ne.symm (Ap.ne (by assumption)) | k_extra "nx" | omega)
 k_with "q:LenBack" => row_timed "f" (fail; ((dsimp only [W.LenBack]); refine ⟨⟨by k_extra "om", by k_extra "om"⟩, ?_⟩))
 k_with "q:NeBack" => row_timed "f" (fail; ((dsimp only [NeBack]); rw [ne_tt (by k_extra "om")]))
 k_with "q:StrBack" => row_timed "f" (fail; (dsimp only [W.StrBack]))
 k_with "q:call type:set" => row_timed "f" (fail; (k_here; k_dflt (refine' set_K ?FZ ?NZ ?hhZ ?hlZ ?htZ ?hbZ ?_; (case FZ | NZ => k_asm); (case hhZ => rfl); (case hlZ => k_mem); (case htZ => k_asm); (case hbZ => (k_extra "li")); k_whole); intro a'Z h'Z tk'Z o'Z c'Z F'Z N'Z hS'Z hc'Z l1Z; (try k_lt l1Z); (try k_sweep)))
 k_with "q:getAttr ref" => row_timed "f" (fail; (k_here; (with_reducible show wpAny _ _ (getAttr (Value.ref _) (Str.ofString "__contains__") _) _ _ _); k_dflt (refine' getset_K ?FZ ?NZ ?haZ ?hSZ ?_; (case FZ | NZ | hSZ => k_asm); (case haZ => k_mem); k_whole); intro q'Z h'Z F'Z N'Z l1Z; (try k_lt l1Z); (try k_sweep)))
 k_with "q:call type:filter" => row_timed "f" (fail; (k_here; k_dflt (refine' filter_K ?FZ ?NZ ?hlZ ?_; (case FZ | NZ => k_asm); (case hlZ => k_mem); k_whole); intro z'Z i'Z h'Z tk'Z F'Z N'Z l1Z l2Z; (have l1'Z := l1Z); (try k_lt l1Z); (try k_sweep)))
 k_with "q:call type:list" => row_timed "f" (fail; (k_here; k_dflt (refine' listfil_K ?FZ ?NZ ?hhZ ?hqZ ?haZ ?hSZ ?hcZ ?hlZ ?htZ ?hzZ ?hltZ ?hizZ ?_; (case FZ | NZ => k_asm); (case hhZ => rfl); (case hSZ => k_asm); (case hcZ => assumption); (case hqZ | haZ | hlZ => k_mem); (case htZ => k_asm); (case hzZ => (k_extra "li")); (case hltZ | hizZ => assumption); k_whole); intro D'Z h'Z tk'Z us'Z nu'Z F'Z N'Z hT'Z l1Z; (try k_lt l1Z); (try k_sweep)))
 k_with "q:binaryOp Add ref ref" => row_timed "f" (fail; (k_here; k_dflt (refine' addls_V ?FZ ?NZ ?hlZ ?hbZ ?hzZ ?_; (case FZ | NZ => k_asm); (case hlZ | hbZ => k_mem); (case hzZ => k_extra "om"); k_whole); intro D'Z h'Z F'Z N'Z l1Z; (try k_lt l1Z); (try k_sweep)))
 trivial
section
variable {w : World} {A₀ : Around} {base h₀ : Heap} {env : Env} {outer : List Env} {dd uu : Nat} {gs : Option (List Code)} {L : Addr} {m mg mb : Str → Option Value} {s : Shared} {own : List (Addr × Obj)} {p : Program} {loose : List Str} {mean : ExcName → Option Value} {Q : Value → Shared → Prop} {E : Value → Shared → Prop}
  (B : Below A₀ base outer h₀) (F : Fr h₀ L s.heap m) (KX : (Mine.hd.heap_1 w.params).In h₀) (T : Top p loose mean mg mb h₀) (hf : env.frame = some L) (hke : env.scope.kind = .function)
include B F KX T hf hke
variable {e1 d1 a1 r1 e2 d2 a2 r2 : Addr} {t1 t2 t3 t4 u1 u2 u3 u4 : Tok} {va1 vr1 va2 vr2 : List Value} {n1 n2 n3 n4 : Nat} {A1 A2 : List Str}
theorem merge_V (N : News h₀ L s.heap ((e1, instObj 59 d1) :: (d1, entD w.params t1 t2 t3 t4 a1 r1) :: (a1, lsO va1 n1) :: (r1, lsO vr1 n2) :: (e2, instObj 59 d2) :: (d2, entD w.params u1 u2 u3 u4 a2 r2) :: (a2, lsO va2 n3) :: (r2, lsO vr2 n4) :: own))
   (hA1 : TextsAre va1 A1) (hA2 : TextsAre va2 A2) (hz1 : A1.length ≤ 100) (hz2 : vr1.length ≤ 200) (hz3 : A2.length ≤ 100) (hz4 : vr2.length ≤ 200)
   (hd : dd + 20 < recursionLimit) (hu : uu + 200 < cLine)
   (h : ∀ h' tk e d t1 t2 t3 t4 ua ru us nu nr, Fr h₀ L h' m → News h₀ L h' ((e, instObj 59 d) :: (d, entD w.params t1 t2 t3 t4 ua ru) :: (ua, lsO us nu) :: (ru, lsO (vr1 ++ vr2) nr) :: own) →
     (∀ a ∈ [e, d, ua, ru], ∀ p ∈ own, p.1 < a) → TextsAre us (A1.filter fun k => A2.any (· == k)) → Q (.ref e) { s with heap := h', toks := tk }) :
   wpAny (model rw_wn0107_02.row.toRowW.prog w) ⟨none, dd, some (env :: outer), gs, uu⟩ (call (.ref 70) [.ref e1, .ref e2]) Q E s := by
  revert KX; k_fill; intro KX
  refine wpAny_call ?_
  refine' code_def ?k1 ?k2 ?k3 ?k4 ?k5 ?kA ?kF ?kK ?k6 ?k7 ?k8 ?k9 ?kB ?_ ?c2 ?c3 ?c4 ?c5
  case kA => exact rfl
  case kF => exact hf
  case kK => exact hke
  case k1 => k_asm
  case k2 => k_asm
  case k3 => k_asm
  case k4 => k_asm
  case k5 => k_asm
  case k6 => k_is
  case k7 => k_is
  case k8 => show dd < recursionLimit; first | exact room0 (by assumption) | k_extra "om"
  case k9 => first | exact BindsTo.of_eq rfl | exact binds_K (by k_in) rfl (by k_is) rfl rfl rfl
  case c5 => decide
  case kB => exact locs rfl
  case c2 => exact rfl
  case c3 => exact rfl
  case c4 => exact rfl
  k_whole; intro g' L' h' FG' F' N' B' X' T'; (try dsimp only); (try k_lift B'); (try k_fold); clear B F KX N T FG'
  k_steps
  show LeaveK _ _ _ _ _ _ _
  refine leaveK_ (by k_asm) (by k_asm) fun kF kN => ?_
  refine' h _ _ _ _ _ _ _ _ _ _ _ _ _ kF (subN kN ?sub) ?off (by assumption)
  case sub => walk_at "sub9"
  case off => (refine fm ?_ (fm ?_ (fm ?_ (fm ?_ fun _ h => nomatch h)))); all_goals (try dsimp only); all_goals first | exact allLt_all (by with_reducible k_extra "ax") | (intro p hp; refine Nat.lt_trans (allLt_all ?_ p hp) ‹_›; with_reducible k_extra "ax")
theorem merge_VJ {news stq : List (Addr × Obj)} {e1 e2 : Addr} {A1 A2 : List Str} {R1 R2 : List (Str × Bool)} {pm : Value} (N : News h₀ L s.heap news) (H1 : EntV w.params pm stq e1 A1 R1) (H2 : EntV w.params pm stq e2 A2 R2) (hst : ∀ p ∈ stq, p ∈ news)
   (hz1 : A1.length ≤ 100) (hz2 : R1.length ≤ 200) (hz3 : A2.length ≤ 100) (hz4 : R2.length ≤ 200)
   (hd : dd + 20 < recursionLimit) (hu : uu + 200 < cLine)
   (h : ∀ h' tk e fresh, Fr h₀ L h' m → News h₀ L h' (fresh ++ news) → EntV w.params pm (fresh ++ stq) e (A1.filter fun k => A2.any (· == k)) (R1 ++ R2) → (∀ p ∈ fresh, ∀ q ∈ news, q.1 < p.1) →
     Q (.ref e) { s with heap := h', toks := tk }) :
   wpAny (model rw_wn0107_02.row.toRowW.prog w) ⟨none, dd, some (env :: outer), gs, uu⟩ (call (.ref 70) [.ref e1, .ref e2]) Q E s := by
  obtain ⟨d, t1, t2, t3, t4, ua, ru, us, nu, rs, nr, h1, h2, h3, h4, h5, h6⟩ := H1
  obtain ⟨d', t1', t2', t3', t4', ua', ru', us', nu', rs', nr', h1', h2', h3', h4', h5', h6'⟩ := H2
  refine merge_V B F KX T hf hke (own := news) (subN N (by
    exact fm (hst _ h1) (fm (hst _ h2) (fm (hst _ h3) (fm (hst _ h4) (fm (hst _ h1') (fm (hst _ h2') (fm (hst _ h3') (fm (hst _ h4') (fun p hp => hp)))))))))) h5 h5' hz1 (by rw [h6.len]; exact hz2) hz3 (by rw [h6'.len]; exact hz4) hd hu ?_
  intro h' tk e d q1 q2 q3 q4 ua ru us nu nr F2 N2 off t1
  refine h h' tk e [(e, instObj 59 d), (d, entD w.params q1 q2 q3 q4 ua ru), (ua, lsO us nu), (ru, lsO (rs ++ rs') nr)] F2 N2 ⟨d, q1, q2, q3, q4, ua, ru, us, nu, _, nr, .head _, .tail _ (.head _), .tail _ (.tail _ (.head _)), .tail _ (.tail _ (.tail _ (.head _))), t1, (h6.app h6').mono fun p hp => List.mem_append_right _ hp⟩ fun p hp => off p.1 (List.mem_map_of_mem (f := Prod.fst) hp)
theorem allow_J {news : List (Addr × Obj)} {e : Addr} {A : List Str} {R : List (Str × Bool)} {pm : Value} {U : Str} {tu : Tok} (N : News h₀ L s.heap news) (H : EntV w.params pm news e A R)
   (hz1 : R.length ≤ 100) (hwl : ∀ q ∈ R, q.1.length ≤ 1000) (G : AllBare s.gens)
   (hd : dd + 40 < recursionLimit) (hu : uu + 300 < cLine)
   (h : ∀ h' tk gs, Fr h₀ L h' m → AllBare gs → News h₀ L h' news → Q (.bool (allowOf U R)) { s with heap := h', toks := tk, gens := gs }) :
   wpAny (model rw_wn0107_02.row.toRowW.prog w) ⟨none, dd, some (env :: outer), gs, uu⟩ (call (.ref 56) [.ref e, .str U tu]) Q E s := by
  obtain ⟨d, t1, t2, t3, t4, ua, ru, us, nu, rs, nr, h1, h2, h3, h4, h5, h6⟩ := H
  refine allow_in B F KX T hf hke (own := news) (subN N (by
    exact fm h1 (fm h2 (fm h4 (fun p hp => hp))))) h6 hz1 hwl G hd hu fun h' tk gs F2 G2 N2 => ?_
  exact h h' tk gs F2 G2 (subN N2 fun p hp => .tail _ (.tail _ (.tail _ hp)))
end
end
section
theorem off_DHA : True := by
  k_with_none
  trivial
open PySem PySem.W PyProof.Rows PySem.Calls
section
variable {prog : Program} {w : World} {A : Around} {E : Value → Shared → Prop} {s s₁ : Shared} {h₀ : Heap} {L : Addr} {m : Str → Option Value} {env : Env} {elt iter target : PySem.Expr} {ifs : List PySem.Expr} {scope : Scope} {cl : List (Str × Addr)} {pos : Pos}
noncomputable def EndCJ (h₀ : Heap) (L : Addr) (m : Str → Option Value) (I : Addr) (oI : Obj) (C : Addr) (oC : Obj) (D : Addr) (ys : List Value) (K : Addr) (v : Value) (J : List (Addr × Obj) → Prop) (s₁ s₄ : Shared) : Prop :=
  ∃ h' tk gs rest', s₄ = { s₁ with heap := h', toks := tk, gens := gs } ∧ AllBare gs ∧ Fr h₀ L h' m ∧ News h₀ L h' ((I, oI) :: (C, oC) :: (D, lsO ys ys.length) :: (K, cellO (some v)) :: rest') ∧ (∀ p ∈ rest', @Ne Nat p.1 I ∧ @Ne Nat p.1 C ∧ @Ne Nat p.1 D ∧ @Ne Nat p.1 K) ∧ J rest'
noncomputable def SrcCJ (prog : Program) (w : World) (A : Around) (h₀ : Heap) (L : Addr) (m : Str → Option Value) (env : Env) (elt : PySem.Expr) (ifs : List PySem.Expr) (x : Str) (scope : Scope) (cl : List (Str × Addr)) (Fin : Shared → Nat → (Nat → List Value → List (Addr × Obj) → Prop) → Prop) (xv : Value) (s₁ : Shared) : Prop :=
  ∃ (n : Nat) (P : Nat → Value → Prop) (J : Nat → List Value → List (Addr × Obj) → Prop) (news : List (Addr × Obj)) (o : Obj) (fp : List Addr) (St : Nat → Heap → Prop), SrcW prog w A h₀ L xv s₁ n P (fun _ => True) o fp St ∧ Fr h₀ L s₁.heap m ∧ News h₀ L s₁.heap news ∧ AllBare s₁.gens ∧ J 0 [] news ∧
    (∀ i v ys K I oI C oC D h tk gs rest (E' : Value → Shared → Prop), i < n → P i v → J i ys rest → AllBare gs → Fr h₀ L h m → News h₀ L h ((I, oI) :: (C, oC) :: (D, lsO ys ys.length) :: (K, cellO (some v)) :: rest) → Apart I C D ((K, cellO (some v)) :: rest) → Three I C D → (∀ p ∈ rest, @Ne Nat p.1 K) → ys.length ≤ i →
      wpAny (model prog w) A (forIn ifs true fun c r => if r = true then do let ok ← isTrue c (compEnvC scope ((x, K) :: cl) C env) (eval c (compEnvC scope ((x, K) :: cl) C env)); pure (ForInStep.yield ok) else pure (ForInStep.yield r))
        (fun ok s₃ => if ok = true then wpAny (model prog w) A (eval elt (compEnvC scope ((x, K) :: cl) C env)) (fun y s₄ => EndCJ h₀ L m I oI C oC D ys K v (J (i + 1) (ys ++ [y])) { s₁ with heap := h, toks := tk, gens := gs } s₄) E' s₃
          else EndCJ h₀ L m I oI C oC D ys K v (J (i + 1) ys) { s₁ with heap := h, toks := tk, gens := gs } s₃) E' { s₁ with heap := h, toks := tk, gens := gs }) ∧
    Fin s₁ n J
theorem SrcCJ.of {x : Str} {Fin : Shared → Nat → (Nat → List Value → List (Addr × Obj) → Prop) → Prop} {xv : Value} {n : Nat} {P : Nat → Value → Prop} {news : List (Addr × Obj)} {o : Obj} {fp : List Addr} {St : Nat → Heap → Prop} (J : Nat → List Value → List (Addr × Obj) → Prop)
    (W : SrcW prog w A h₀ L xv s₁ n P (fun _ => True) o fp St) (F : Fr h₀ L s₁.heap m) (N : News h₀ L s₁.heap news) (G : AllBare s₁.gens) (hJ : J 0 [] news)
    (turn : ∀ i v ys K I oI C oC D h tk gs rest (E' : Value → Shared → Prop), i < n → P i v → J i ys rest → AllBare gs → Fr h₀ L h m → News h₀ L h ((I, oI) :: (C, oC) :: (D, lsO ys ys.length) :: (K, cellO (some v)) :: rest) → Apart I C D ((K, cellO (some v)) :: rest) → Three I C D → (∀ p ∈ rest, @Ne Nat p.1 K) → ys.length ≤ i →
      wpAny (model prog w) A (forIn ifs true fun c r => if r = true then do let ok ← isTrue c (compEnvC scope ((x, K) :: cl) C env) (eval c (compEnvC scope ((x, K) :: cl) C env)); pure (ForInStep.yield ok) else pure (ForInStep.yield r))
        (fun ok s₃ => if ok = true then wpAny (model prog w) A (eval elt (compEnvC scope ((x, K) :: cl) C env)) (fun y s₄ => EndCJ h₀ L m I oI C oC D ys K v (J (i + 1) (ys ++ [y])) { s₁ with heap := h, toks := tk, gens := gs } s₄) E' s₃
          else EndCJ h₀ L m I oI C oC D ys K v (J (i + 1) ys) { s₁ with heap := h, toks := tk, gens := gs } s₃) E' { s₁ with heap := h, toks := tk, gens := gs })
    (fin : Fin s₁ n J) :
    SrcCJ prog w A h₀ L m env elt ifs x scope cl Fin xv s₁ := ⟨n, P, J, news, o, fp, St, W, F, N, G, hJ, turn, fin⟩
theorem comp_assignJ {x y : Str} {px py spos : Pos} {Q : Flow → Shared → Prop} (_F₀ : Fr h₀ L s.heap m) (hLe : env.locals = L) (hsw : swapsWith (.ListComp elt [⟨.Name x px, iter, ifs, 0⟩] scope pos) (some (.Name y py)) spos.line env = pure true)
    (hclos : closureFor scope env = pure cl) (hkind : scope.kind = .function) (hnames : ∀ y ∈ scope.names, y.2 = .local → scope.names.lookup y.1 = some .local)
    (hxc : (relabel scope env).names.lookup x = some .cell) (hcf : ∀ k, cellsFrom k scope.names cl = (x, k) :: cl) (hpc : ∀ h, pushCells h scope.names = h.push (cellO none))
    (hy : env.kindOf y = some .local) (hp : (env.scope.kind == .class || (env.scope.kind == .module && env.locals != env.globals)) = false)
    (h : wpAny (model prog w) A (eval iter env) (SrcCJ prog w A h₀ L m env elt ifs x scope cl fun s₁ n J => FinN h₀ L m y s₁ n J Q) E s) (hs : ∀ x, foldedSetIterable iter env x = pure x := by intro _; rfl) :
    wpAny (model prog w) A (exec (.Assign [.Name y py] (.ListComp elt [⟨.Name x px, iter, ifs, 0⟩] scope pos) spos) env) Q E s := by
  rw [exec_Assign_Name_used _ _ _ _ hsw]
  refine wpAny_bind (wpAny_standAt (wpAny_bind ?_))
  show wpAny _ A (do let _ ← comprehension (.ListComp elt [⟨.Name x px, iter, ifs, 0⟩] scope pos) scope env _ (newList []) false (eval iter env) (some (assign (.Name y py) env))) _ _ s
  refine wpAny_bind (wpAny_mono (wpAny_comprehension_free (use := some (assign (.Name y py) env)) (Q := fun _ s' => Q .next s') rfl hs hclos hkind hnames
    (wpAny_mono h (fun xv s₁ h₁ => ?_) fun _ _ e => e)) (fun _ s' hq => wpAny_pure (wpAny_pure hq)) fun _ _ e => e)
  obtain ⟨n, P, J, news, o, fp, St, W, F, N, G, hJ, turn, fin⟩ := h₁
  refine W.it (wpAny_newObj_type ?_)
  have z1 : (s₁.heap.push o).objs.size = s₁.heap.objs.size + 1 := Heap.size_push ..
  dsimp only
  generalize hH2 : (s₁.heap.push o).push { cls := .type "list", dict := none, data := .seq ([] : List Value).toArray } = H2
  have z2 : H2.objs.size = s₁.heap.objs.size + 1 + 1 := by rw [← hH2, Heap.size_push, z1]
  simp only [newFunctionEnv, Option.isSome_some, if_true]
  refine wpAny_bind (wpAny_alloc ?_)
  refine wpAny_bind (wpAny_layCells _ (fun name kind cells => by cases hkc : kind == NameKind.cell <;> simp [hkc]) _ _ _ _ ?_)
  rw [hcf, hpc]
  dsimp only
  have z3 : (H2.push { cls := .type "dict", data := .dict #[] }).objs.size = s₁.heap.objs.size + 1 + 1 + 1 := by rw [Heap.size_push, z2]
  rw [z1, z2, z3]
  generalize hIa : s₁.heap.objs.size = I at *
  refine wpAny_bind ?_
  rw [List.forIn_nil]
  refine wpAny_pure (wpAny_pure ?_)
  generalize hh₁ : (H2.push { cls := .type "dict", data := .dict #[] }).push (cellO none) = h₁
  have g0 : ∀ b o', s₁.heap.get? b = some o' → (s₁.heap.push o).get? b = some o' := fun b o' e => Heap.get?_push_of_some _ e
  have g1 : ∀ b o', (s₁.heap.push o).get? b = some o' → h₁.get? b = some o' := fun b o' e => by rw [← hh₁, ← hH2]; exact Heap.get?_push_of_some _ (Heap.get?_push_of_some _ (Heap.get?_push_of_some _ e))
  have gD : h₁.get? (I + 1) = some (lsO [] 0) := by
    rw [← hh₁, ← z1]
    refine Heap.get?_push_of_some _ (Heap.get?_push_of_some _ ?_)
    rw [← hH2]; exact Heap.get?_push_size _ rfl
  have gC : h₁.Ns (I + 1 + 1) fun _ => none := by
    rw [← hh₁, ← z2]
    exact (Heap.Ns.new H2 (.type "dict")).keeps fun b o' e => Heap.get?_push_of_some _ e
  have gK : h₁.get? (I + 1 + 1 + 1) = some (cellO none) := by rw [← hh₁, ← z3]; exact Heap.get?_push_size _ rfl
  have lt0 : ∀ b o', s₁.heap.get? b = some o' → b < I := fun b o' e => hIa ▸ Heap.lt_size e
  have fresh₀ : ∀ a, I ≤ a → h₀.get? a = none := fun a ha => by
    cases e : h₀.get? a with
    | none => rfl
    | some o' => exact absurd (lt0 _ _ (F.keep a o' e)) (Nat.not_lt.mpr ha)
  have hLlt : L < I := hIa ▸ F.ns.lt
  have hfp : ∀ b ∈ fp, b < I + 1 := fun b hb => hIa ▸ W.fp b hb
  have hst₁ : St 0 h₁ := W.walks.frame _ _ _ W.st fun b _ o' e => g1 b o' e
  let J' : Nat → List Value → List (Addr × Obj) → Prop := fun i ys nw => ∃ v₀ rest, nw = (I + 1 + 1 + 1, cellO v₀) :: rest ∧ J i ys rest ∧ ∀ p ∈ rest, p.1 ≠ I + 1 + 1 + 1
  have hKn : ∀ p ∈ news, p.1 ≠ I + 1 + 1 + 1 := fun p hp => Nat.ne_of_lt (Nat.lt_of_lt_of_le (lt0 _ _ (N p hp).1) (Nat.le_add_right I 3))
  have hKL : I + 1 + 1 + 1 ≠ L := Nat.ne_of_gt (Nat.lt_of_lt_of_le hLlt (Nat.le_add_right I 3))
  have hCL : I + 1 + 1 ≠ L := Nat.ne_of_gt (Nat.lt_of_lt_of_le hLlt (Nat.le_add_right I 2))
  have hDL : I + 1 ≠ L := Nat.ne_of_gt (Nat.lt_of_lt_of_le hLlt (Nat.le_add_right I 1))
  have hID : I ≠ I + 1 := Nat.ne_of_lt (Nat.lt_succ_self _)
  have hIC : I ≠ I + 1 + 1 := Nat.ne_of_lt (Nat.lt_succ_of_lt (Nat.lt_succ_self _))
  have hCD : I + 1 + 1 ≠ I + 1 := Nat.ne_of_gt (Nat.lt_succ_self _)
  have hKI : I + 1 + 1 + 1 ≠ I := Nat.ne_of_gt (Nat.lt_succ_of_lt (Nat.lt_succ_of_lt (Nat.lt_succ_self _)))
  have hKC : I + 1 + 1 + 1 ≠ I + 1 + 1 := Nat.ne_of_gt (Nat.lt_succ_self _)
  have hKD : I + 1 + 1 + 1 ≠ I + 1 := Nat.ne_of_gt (Nat.lt_succ_of_lt (Nat.lt_succ_self _))
  have f1 : h₀.get? (I + 1) = none := fresh₀ _ (Nat.le_add_right I 1)
  have f2 : h₀.get? (I + 1 + 1) = none := fresh₀ _ (Nat.le_add_right I 2)
  have f3 : h₀.get? (I + 1 + 1 + 1) = none := fresh₀ _ (Nat.le_add_right I 3)
  refine comp_core (X := [I + 1 + 1 + 1]) (B := BCell (I + 1 + 1 + 1)) (J := J') W hIa (asg_cell hkind hxc) ?hB ?hX ?hXfp hID hIC hCD (fresh₀ _ (Nat.le_refl _)) f1 f2 (Nat.ne_of_lt hLlt) hCL hDL (fun hm => Nat.lt_irrefl _ (hfp _ hm)) (fun hm => Nat.lt_irrefl _ (Nat.lt_of_succ_lt (hfp _ hm))) hst₁ (F.keeps fun b o' e => g1 b o' (g0 b o' e)) gC ?hN ?off G trivial ⟨none, news, rfl, hJ, hKn⟩ ?turn ?hRR
  case hB =>
    rintro i v ys nw hP ⟨v₀, rest, rfl, hJ, hKr⟩ _
    exact ⟨[], _, rfl, v₀, rest, rfl, rfl, hKr⟩
  case hX =>
    rintro i ys nw ⟨v₀, rest, rfl, hJ, hKr⟩ x hx
    rw [List.mem_singleton.mp hx]
    exact ⟨_, .head _⟩
  case hXfp =>
    intro x hx hm
    rw [List.mem_singleton.mp hx] at hm
    exact Nat.lt_irrefl _ (Nat.lt_of_succ_lt (Nat.lt_of_succ_lt (hfp _ hm)))
  case hN =>
    intro p hp
    rcases List.mem_cons.mp hp with rfl | hp
    · exact ⟨gD, hDL, f1⟩
    · rcases List.mem_cons.mp hp with rfl | hp
      · exact ⟨gK, hKL, f3⟩
      · exact ⟨g1 _ _ (g0 _ _ (N p hp).1), (N p hp).2⟩
  case off =>
    intro p hp
    rcases List.mem_cons.mp hp with rfl | hp
    · exact ⟨hKI, hKC, hKD⟩
    · have hlt := lt0 _ _ (N p hp).1
      exact ⟨Nat.ne_of_lt hlt, Nat.ne_of_lt (Nat.lt_of_lt_of_le hlt (Nat.le_add_right I 2)), Nat.ne_of_lt (Nat.lt_of_lt_of_le hlt (Nat.le_add_right I 1))⟩
  case turn =>
    rintro i v bs ys nw₀ nw I' oI C' oC D' mC h tk gs E' hi hP ⟨rfl, v₀, rest, e1, rfl, hK⟩ ⟨v₁, rest', e2, hJ, hKr⟩ _ G' hoC _ F' N' off' three hyl
    obtain rfl : rest = rest' := by rw [e2] at e1; exact (List.cons.inj e1).2.symm
    have conv : ∀ (ys' : List Value) s₄, EndCJ h₀ L m I' oI C' oC D' ys (I + 1 + 1 + 1) v (J (i + 1) ys') { s₁ with heap := h, toks := tk, gens := gs } s₄ →
        EndG h₀ L m I' oI C' oC D' ys (fun _ => True) (J' (i + 1) ys') { s₁ with heap := h, toks := tk, gens := gs } s₄ := by
      rintro ys' s₄ ⟨h', tk', gs', nx, rfl, G₄, F₄, N₄, o₄, hJ₄⟩
      exact ⟨h', tk', gs', _, rfl, G₄, F₄, N₄, (fm (off' _ (.head _)) (fun p hp => ⟨(o₄ p hp).1, (o₄ p hp).2.1, (o₄ p hp).2.2.1⟩)), trivial, _, nx, rfl, hJ₄, fun p hp => (o₄ p hp).2.2.2⟩
    refine wpAny_mono (turn i v ys _ I' oI C' oC D' h tk gs _ E' hi hP hJ G' F' N' off' three hK hyl) (fun ok s₃ h₃ => ?_) fun _ _ e => e
    cases ok with
    | false =>
      simp only [Bool.false_eq_true, if_false] at h₃ ⊢
      exact conv _ _ h₃
    | true =>
      simp only [if_true] at h₃ ⊢
      exact wpAny_mono h₃ (fun y s₄ h₄ => conv _ _ h₄) fun _ _ e => e
  case hRR =>
    rintro ys nw h tk gs mC ⟨v₀, rest, rfl, hJ, hKr⟩ G' F' N' offD hn offC
    show wpAny _ A (assign (.Name y py) env (.ref (I + 1))) _ _ _
    refine wpAny_assign_Name (wpAny_storeName_local hy (hLe.symm ▸ F'.ns) (fun h₂ hn₂ hs₂ => ?_) hp)
    rw [hLe] at hn₂ hs₂
    have F₂ : Fr h₀ L h₂ (fun z => if z = y then some (.ref (I + 1)) else m z) := F'.set hn₂ hs₂
    have N₂ := N'.set hs₂
    refine ⟨mC, hn.sameBut hs₂ hCL, fun h'' hs'' => fin _ ys rest h'' _ gs hJ G' (F₂.change hs'' hCL f2) (fun p hp => ?_) fun p hp => offD p (.tail _ hp)⟩
    have hp' : p ∈ (I + 1, lsO ys ys.length) :: (I + 1 + 1 + 1, cellO v₀) :: rest := by
      rcases List.mem_cons.mp hp with rfl | hp
      · exact .head _
      · exact .tail _ (.tail _ hp)
    refine ⟨hs''.extBut _ _ ?_ (N₂ p hp').1, (N₂ p hp').2⟩
    rcases List.mem_cons.mp hp with rfl | hp
    · exact Ne.symm hCD
    · exact offC p (.tail _ hp)
end
end
section
theorem off_DHB : True := by
  k_with_none
  trivial
open PySem PySem.W PyProof.Rows PySem.Calls
theorem tabOk_nil : TabOk (tabObj #[]) := ⟨#[], rfl, by trivial⟩
theorem tab_cls {o : Obj} (h : TabOk o) : o.cls = .none := by
  obtain ⟨ps, rfl, _⟩ := h; rfl
theorem ownOff_tabs {l : List (Addr × Obj)} (h : ∀ p ∈ l, @Ne Nat p.1 189 ∧ @Ne Nat p.1 196) : OwnOff l [189, 196] := by
  intro p hp b hb
  simp only [List.mem_cons, List.not_mem_nil, or_false] at hb
  rcases hb with rfl | rfl
  · exact (h p hp).1
  · exact (h p hp).2
theorem ne_texts_same {prog : Program} {w : World} {A : Around} {E : Value → Shared → Prop} {s : Shared} {h₀ : Heap} {L a b : Addr} {news : List (Addr × Obj)} {xs ys : List Value} {n k : Nat} {ts us : List Str} {Q : Value → Shared → Prop} (e : ts = us) (N : News h₀ L s.heap news) (ha : (a, lsO xs n) ∈ news) (hb : (b, lsO ys k) ∈ news) (hi : TextsAre xs ts) (hj : TextsAre ys us) (ho1 : OkTexts ts) (ho2 : OkTexts us) (hu : A.units + 64 < cLine) (h : Q (.bool false) s) :
    wpAny (model prog w) A (compareOp .NotEq (.ref a) (.ref b)) Q E s := ne_texts N ha hb hi hj ho1 ho2 hu (by rw [decide_eq_true e]; exact h)
theorem ex_obj8 {C : Prop} {h₀ h : Heap} {L a8 a7 a6 a5 a4 a3 a2 a1 : Addr} {o8 o7 o6 o5 o4 o3 o2 o1 : Obj} {r : List (Addr × Obj)} (_N : News h₀ L h ((a8, o8) :: (a7, o7) :: (a6, o6) :: (a5, o5) :: (a4, o4) :: (a3, o3) :: (a2, o2) :: (a1, o1) :: r))
    (k : ∀ p8 p7 p6 p5 p4 p3 p2 p1, p8 = o8 → p7 = o7 → p6 = o6 → p5 = o5 → p4 = o4 → p3 = o3 → p2 = o2 → p1 = o1 → C) : C := k o8 o7 o6 o5 o4 o3 o2 o1 rfl rfl rfl rfl rfl rfl rfl rfl
theorem ex_c8 {C : Prop} {h₀ h : Heap} {L x a8 a7 a6 a5 a4 a3 a2 a1 : Addr} {ox o8 o7 o6 o5 o4 o3 o2 o1 : Obj} {r : List (Addr × Obj)} (N : News h₀ L h ((x, ox) :: (a8, o8) :: (a7, o7) :: (a6, o6) :: (a5, o5) :: (a4, o4) :: (a3, o3) :: (a2, o2) :: (a1, o1) :: r))
    (k : ∀ x' p8 p7 p6 p5 p4 p3 p2 p1, x' = x → p8 = o8 → p7 = o7 → p6 = o6 → p5 = o5 → p4 = o4 → p3 = o3 → p2 = o2 → p1 = o1 → C) : C := k _ o8 o7 o6 o5 o4 o3 o2 o1 rfl rfl rfl rfl rfl rfl rfl rfl rfl
theorem ints_uncons {vs : List Value} {a : Int} {ns : List Int} (h : IntsAre vs (a :: ns)) : ∃ t r, vs = .int a t :: r ∧ IntsAre r ns := by
  cases h with
  | cons _ t h => exact ⟨t, _, rfl, h⟩
theorem ints_get : ∀ {ns : List Int} {vs : List Value} (_ : IntsAre vs ns) {i : Nat} {v : Value}, vs[i]? = some v → ∃ x t, v = .int x t ∧ ns[i]? = some x
  | [], vs, h, i, v, e => by
    rw [List.length_eq_zero_iff.mp (h.length : vs.length = 0)] at e
    exact absurd e (by simp)
  | a :: ns, vs, h, i, v, e => by
    obtain ⟨t, r, rfl, h1⟩ := ints_uncons h
    cases i with
    | zero => exact ⟨a, t, (Option.some.inj e).symm, rfl⟩
    | succ i => exact ints_get h1 (i := i) e
theorem ints2 {vs : List Value} {a b : Int} (h : IntsAre vs [a, b]) : ∃ t u, vs = [.int a t, .int b u] := by
  obtain ⟨t, r, rfl, h1⟩ := ints_uncons h
  obtain ⟨u, r, rfl, h2⟩ := ints_uncons h1
  rw [List.length_eq_zero_iff.mp (h2.length : r.length = 0)]
  exact ⟨t, u, rfl⟩
structure SeamsIn (news : List (Addr × Obj)) (vs : List Value) (Ss : List (List Nat)) : Prop where
  len : vs.length = Ss.length
  get : ∀ (i : Nat) (S : List Nat), Ss[i]? = some S → ∃ a us n, (vs[i]? : Option Value) = some (Value.ref a) ∧ (a, lsO us n) ∈ news ∧ IntsAre us (S.map fun (x : Nat) => (x : Int))
theorem SeamsIn.mono {a b : List (Addr × Obj)} {vs : List Value} {Ss : List (List Nat)} (h : SeamsIn a vs Ss) (hs : ∀ p ∈ a, p ∈ b) : SeamsIn b vs Ss :=
  ⟨h.len, fun i S e => by obtain ⟨x, us, n, h1, h2, h3⟩ := h.get i S e; exact ⟨x, us, n, h1, hs _ h2, h3⟩⟩
theorem SeamsIn.nil {a : List (Addr × Obj)} : SeamsIn a [] [] := ⟨rfl, fun i S e => by simp at e⟩
theorem SeamsIn.snoc {news : List (Addr × Obj)} {vs us : List Value} {Ss : List (List Nat)} {S : List Nat} {a : Addr} {n : Nat} (h : SeamsIn news vs Ss) (h1 : (a, lsO us n) ∈ news) (h2 : IntsAre us (S.map fun (x : Nat) => (x : Int))) : SeamsIn news (vs ++ [.ref a]) (Ss ++ [S]) := by
  refine ⟨by simp [h.len], fun i T e => ?_⟩
  by_cases hi : i < Ss.length
  · rw [List.getElem?_append_left hi] at e
    obtain ⟨x, us', n', k1, k2, k3⟩ := h.get i T e
    exact ⟨x, us', n', by rw [List.getElem?_append_left (by rw [h.len]; exact hi)]; exact k1, k2, k3⟩
  · have hi2 : i = Ss.length := by
      have := (List.getElem?_eq_some_iff.mp e).1
      simp at this
      omega
    subst hi2
    obtain rfl : S = T := by simpa using e
    exact ⟨a, us, n, by rw [← h.len]; simp, h1, h2⟩
noncomputable def wordE (nr : List Int) (k : Nat) : Str := Txt.mul { cps := #[(97 + (0 + (k : Int) * 1)).toNat] } (1 + (nr.getD k 0).fmod 4)
theorem word_fin : ((List.range 4).all fun m => (List.range 8).all fun k => Txt.mul { cps := #[(97 + (0 + (k : Int) * 1)).toNat] } (1 + (m : Int)) == wN (m + 1) k) = true := by decide +kernel
theorem words8 (nr : List Int) : Words8 ((List.range 8).map (wordE nr)) := by
  refine ⟨by simp, fun k hk => ?_⟩
  have h0 : 0 ≤ (nr.getD k 0).fmod 4 := fmod0 _ (by decide)
  have h1 := Int.fmod_lt_of_pos (nr.getD k 0) (b := 4) (by decide)
  obtain ⟨m, hm⟩ := Int.eq_ofNat_of_zero_le h0
  have hm4 : m < 4 := by omega
  refine ⟨m + 1, by omega, by omega, ?_⟩
  rw [List.getElem?_map, List.getElem?_range hk]
  show some (wordE nr k) = _
  unfold wordE
  rw [hm]
  exact congrArg some (eq_of_beq (List.all_eq_true.mp (List.all_eq_true.mp word_fin m (List.mem_range.mpr hm4)) k (List.mem_range.mpr hk)))
theorem split_by {h₀ h : Heap} {L : Addr} {news : List (Addr × Obj)} (N : News h₀ L h news) (sp : List (Addr × Obj)) (hsp : ∀ p ∈ sp, p ∈ news) :
    ∃ st, (∀ p ∈ st, p ∈ news) ∧ OwnOff st (sp.map (·.1)) ∧ (∀ p ∈ news, p.1 ∉ sp.map (·.1) → p ∈ st) ∧ News h₀ L h (sp ++ st) := by
  refine ⟨news.filter fun p => !(sp.map (·.1)).contains p.1, fun p hp => (List.mem_filter.mp hp).1, fun p hp b hb q => ?_, fun p hp hs => List.mem_filter.mpr ⟨hp, ?_⟩, fun p hp => ?_⟩
  · have := (List.mem_filter.mp hp).2
    rw [q, List.contains_iff_mem.mpr hb] at this
    exact absurd this (by decide)
  · rw [Bool.not_eq_true']
    exact Bool.eq_false_iff.mpr fun q => hs (List.contains_iff_mem.mp q)
  · rcases List.mem_append.mp hp with hp | hp
    · exact N p (hsp p hp)
    · exact N p (List.mem_filter.mp hp).1
noncomputable abbrev movs (c : Nat) : List Addr := [c + 1 + 1 + 1 + 1 + 1 + 1 + 1 + 1, c + 1 + 1 + 1 + 1 + 1 + 1 + 1, c + 1 + 1 + 1 + 1 + 1 + 1, c + 1 + 1 + 1 + 1 + 1, c + 1 + 1 + 1 + 1, c + 1 + 1 + 1, c + 1 + 1, c + 1, 189, 196, 240]
theorem split_still {h₀ h : Heap} {L : Addr} {cells news : List (Addr × Obj)} (N : News h₀ L h news) (hm : ∀ p ∈ cells, p ∈ news) (hv : ∀ q ∈ cells, Moves q.2) :
    ∃ st, OwnOff st (cells.map (·.1)) ∧ (∀ p ∈ news, p.1 ∉ cells.map (·.1) → p ∈ st) ∧ (∀ p ∈ news, Still p.2 → p ∈ st) ∧ News h₀ L h (cells ++ st) := by
  obtain ⟨st, -, h2, h3, h4⟩ := split_by N cells hm
  refine ⟨st, h2, h3, fun p hp hs => h3 p hp fun hc => ?_, h4⟩
  obtain ⟨q, hq, e⟩ := List.mem_map.mp hc
  obtain ⟨a, o⟩ := p
  obtain ⟨b, o'⟩ := q
  obtain rfl : b = a := e
  exact hs.ne (hv _ hq) (news_one N hp (hm _ hq))
theorem law_split8S {h₀ h : Heap} {L : Addr} {c : Nat} {o8 o7 o6 o5 o4 o3 o2 o1 x1 x2 : Obj} {ps : Array Value} {news : List (Addr × Obj)} (N : News h₀ L h news) (hm : ∀ p ∈ ([(c + 1 + 1 + 1 + 1 + 1 + 1 + 1 + 1, o8), (c + 1 + 1 + 1 + 1 + 1 + 1 + 1, o7), (c + 1 + 1 + 1 + 1 + 1 + 1, o6), (c + 1 + 1 + 1 + 1 + 1, o5), (c + 1 + 1 + 1 + 1, o4), (c + 1 + 1 + 1, o3), (c + 1 + 1, o2), (c + 1, o1), (189, x1), (196, x2), (240, tabObj ps)] : List (Addr × Obj)), p ∈ news)
    (m8 : ∃ v, o8.data = .cell v) (m7 : ∃ v, o7.data = .cell v) (m6 : ∃ v, o6.data = .cell v) (m5 : ∃ v, o5.data = .cell v) (m4 : ∃ v, o4.data = .cell v) (m3 : ∃ v, o3.data = .cell v) (m2 : ∃ v, o2.data = .cell v) (m1 : ∃ v, o1.data = .cell v) (t1 : TabOk x1) (t2 : TabOk x2) :
    ∃ st, OwnOff st (movs c) ∧ (∀ p ∈ news, p.1 ∉ movs c → p ∈ st) ∧ (∀ p ∈ news, Still p.2 → p ∈ st) ∧ News h₀ L h ((c + 1 + 1 + 1 + 1 + 1 + 1 + 1 + 1, o8) :: (c + 1 + 1 + 1 + 1 + 1 + 1 + 1, o7) :: (c + 1 + 1 + 1 + 1 + 1 + 1, o6) :: (c + 1 + 1 + 1 + 1 + 1, o5) :: (c + 1 + 1 + 1 + 1, o4) :: (c + 1 + 1 + 1, o3) :: (c + 1 + 1, o2) :: (c + 1, o1) :: (189, x1) :: (196, x2) :: (240, tabObj ps) :: st) :=
  split_still N hm (fm (.inl m8) (fm (.inl m7) (fm (.inl m6) (fm (.inl m5) (fm (.inl m4) (fm (.inl m3) (fm (.inl m2) (fm (.inl m1) (fm (.inr (tab_cls t1)) (fm (.inr (tab_cls t2)) (fm (.inr rfl) fun _ h => absurd h List.not_mem_nil)))))))))))
theorem off_of {st : List (Addr × Obj)} {adr : List Addr} (h : OwnOff st adr) : ∀ p ∈ st, p.1 ∉ adr := fun p hp hm => h p hp _ hm rfl
theorem list11 {ns : List Int} (h : ns.length = 11) : ∃ a b c r, ns = a :: b :: c :: r ∧ r.length = 8 := by
  match ns, h with
  | a :: b :: c :: r, h => exact ⟨a, b, c, r, rfl, by simpa using h⟩
theorem ints3 {vs : List Value} {a b c : Int} {r : List Int} (h : IntsAre vs (a :: b :: c :: r)) : ∃ t u v ws, vs = .int a t :: .int b u :: .int c v :: ws ∧ IntsAre ws r := by
  obtain ⟨t, s, rfl, h1⟩ := ints_uncons h
  obtain ⟨u, s, rfl, h2⟩ := ints_uncons h1
  obtain ⟨v, s, rfl, h3⟩ := ints_uncons h2
  exact ⟨t, u, v, s, rfl, h3⟩
theorem end_good {s₁ s' : Shared} {cw : ClaimW} {cl : Str → Option Addr} {mean : ExcName → Option Value} {args : List WData} {tabs : List (Addr × Addr)} {r : Result} (hT : TabsAt tabs s₁.heap)
    (hold : ∀ a o, (ghostOf s₁.heap tabs).get? a = some o → s'.heap.get? a = some o) (hos : s'.os = s₁.os) (nr : ∀ cls, cw.raises args cls = false) (hbare : AllBare s'.gens) (hg : GrownAll tabs s'.heap) (hb : ∃ b, r = .ok (.ret (.bool b)) ∧ cw.post args (.bool b) args = true) : GoodWG cw cl mean args s₁ r s' := by
  obtain ⟨b, rfl, hp⟩ := hb
  refine ⟨.inl ⟨_, .bool b, [], rfl, nr, .bool b, hp, fun _ => ⟨.nil, fun _ ha => nomatch ha⟩⟩, ⟨fun a o e => ?_, fun a o e => ?_⟩, hos, hbare⟩
  all_goals
    by_cases hm : ∃ q ∈ tabs, q.2 = a
    case neg =>
      have ha := hold a o (ghost_ne e fun q => let ⟨z, hz, ez⟩ := List.mem_map.mp q; hm ⟨z, hz, ez⟩)
      first
      | exact .inl ha
      | exact ⟨o, ha⟩
    case pos =>
      obtain ⟨q, hq, ea⟩ := hm
      obtain ⟨ps, hps⟩ := hg.get q hq
      have hq2 := hT q hq
      have eo : o = tabObj #[] := by
        have := hq2.2
        rw [ea, e] at this
        exact Option.some.inj this
      subst eo
      first
      | exact ⟨_, ea ▸ hps⟩
      | exact .inr (.inl ⟨ea ▸ (hq2.1.tab hq2.2).isCodeTable, rfl, #[], ps, rfl, by rw [Array.empty_append]; exact ea ▸ hps⟩)
structure EndP (cw : ClaimW) (args : List WData) (s₁ : Shared) (r : Result) (s' : Shared) : Prop where
  keep : ∀ a o, (ghostOf s₁.heap [(193, 189), (200, 196), (244, 240)]).get? a = some o → s'.heap.get? a = some o
  os : s'.os = s₁.os
  nr : ∀ cls, cw.raises args cls = false
  bare : AllBare s'.gens
  grown : GrownAll [(193, 189), (200, 196), (244, 240)] s'.heap
  res : ∃ b, r = .ok (.ret (.bool b)) ∧ cw.post args (.bool b) args = true
theorem post_B {M : Model} {A : Around} {cd : Code} {s s₁ : Shared} {cw : ClaimW} {cl : Str → Option Addr} {mean : ExcName → Option Value} {args : List WData} (hT : TabsAt [(193, 189), (200, 196), (244, 240)] s₁.heap)
    (h : codeAny M A cd (fun r s' => EndP cw args s₁ r s') s) : codeAny M A cd (GoodWG cw cl mean args s₁) s :=
  codeAny_mono h fun _ _ q => end_good hT q.keep q.os q.nr q.bare q.grown q.res
theorem grown_three {h₀ h : Heap} {L : Addr} {news : List (Addr × Obj)} {o8 o9 : Obj} {ps0 : Array Value} (N : News h₀ L h news) (h8 : (189, o8) ∈ news) (h9 : (196, o9) ∈ news) (h10 : (240, tabObj ps0) ∈ news) (t8 : TabOk o8) (t9 : TabOk o9) : GrownAll [(193, 189), (200, 196), (244, 240)] h := by
  obtain ⟨ps, rfl, _⟩ := t8
  obtain ⟨qs, rfl, _⟩ := t9
  exact ⟨⟨ps, (N _ h8).1⟩, ⟨qs, (N _ h9).1⟩, ⟨ps0, (N _ h10).1⟩, trivial⟩
end
section
theorem off_DHC : True := by
  k_with_none
  trivial
open PySem PySem.W PyProof.Rows PySem.Calls
structure Rec2 (W H : Nat) (ws : List Str) : Prop where
  split : Txt.split (Txt.join "|" (rowsOf W H ws)) "|" = rowsOf W H ws
  ag : ∀ r ∈ (rowsOf (W : Int) (H : Int) ws).drop 1, ∃ a, (Txt.split r " ")[1]? = some a
  jl : (Txt.join "|" (rowsOf W H ws)).length ≤ 1000000
theorem sum_le_mul (b : Nat) : ∀ l : List Nat, (∀ x ∈ l, x ≤ b) → l.sum ≤ b * l.length
  | [], _ => by simp
  | x :: l, h => by
    have := sum_le_mul b l fun y hy => h y (.tail _ hy)
    have := h x (.head _)
    rw [List.sum_cons, List.length_cons, Nat.mul_add, Nat.mul_one]
    omega
theorem rec2 {W H : Nat} {ws : List Str} (W8 : Words8 ws) (hW : W ≤ 10) (hH : H ≤ W) : Rec2 W H ws := by
  refine ⟨rows_split (W8.free (.inr (by decide))), fun r hr => ?_, ?_⟩
  · have e := ags_is W H (ws := ws) (W8.free (.inl (by decide)))
    have hm : agOfRow r ∈ ((rowsOf W H ws).drop 1).map agOfRow := List.mem_map.mpr ⟨r, hr, rfl⟩
    rw [e] at hm
    obtain ⟨p, hp, e2⟩ := List.mem_map.mp hm
    have hp8 := (seams_lt hp).1
    refine ⟨ws[p], ?_⟩
    show agOfRow r = _
    rw [← e2, List.getElem?_eq_getElem hp8]
  · have e2 : (("|" : String) : Str).length = 1 := by decide
    have h1 := StrLaws.join_length_le (("|" : String) : Str) (rowsOf W H ws)
    have hi := run_inv (M := (W : Int)) (H := (H : Int)) (by omega) (by omega) ws W8.short
    have hl : (rowsOf W H ws).length ≤ 9 := by
      have := hi.ts
      rw [W8.len] at this
      unfold rowsOf
      simp
      omega
    have hs : ((rowsOf W H ws).map (·.length)).sum ≤ 3100 * ((rowsOf W H ws).map (·.length)).length := sum_le_mul _ _ fun x hx => by
      obtain ⟨r, hr, rfl⟩ := List.mem_map.mp hx
      exact rows_le (by omega) (by omega) W8.short (by rw [W8.len]; decide) r hr
    rw [List.length_map] at hs
    have e3 : Txt.join "|" (rowsOf W H ws) = Str.join "|" (rowsOf W H ws) := StrLaws.glued_eq_join _ _
    rw [e3]
    have : 3100 * (rowsOf W H ws).length ≤ 3100 * 9 := Nat.mul_le_mul_left _ hl
    rw [e2] at h1
    have : 1 * (rowsOf W H ws).length ≤ 9 := by omega
    omega
theorem mov_tab {c a : Addr} (h : a ∈ ([189, 196, 240] : List Addr)) : a ∈ movs c := .tail _ (.tail _ (.tail _ (.tail _ (.tail _ (.tail _ (.tail _ (.tail _ h)))))))
theorem far3 {a : Nat} (h : 240 < a) : @Ne Nat a 189 ∧ @Ne Nat a 196 ∧ @Ne Nat a 240 := ⟨Nat.ne_of_gt (Nat.lt_trans (by decide) h), Nat.ne_of_gt (Nat.lt_trans (by decide) h), Nat.ne_of_gt h⟩
theorem cells_far {c : Nat} {o8 o7 o6 o5 o4 o3 o2 o1 : Obj} {st : List (Addr × Obj)} (h : 240 < c) (hs : OwnOff st (movs c)) : ∀ p ∈ ((c + 1 + 1 + 1 + 1 + 1 + 1 + 1 + 1, o8) :: (c + 1 + 1 + 1 + 1 + 1 + 1 + 1, o7) :: (c + 1 + 1 + 1 + 1 + 1 + 1, o6) :: (c + 1 + 1 + 1 + 1 + 1, o5) :: (c + 1 + 1 + 1 + 1, o4) :: (c + 1 + 1 + 1, o3) :: (c + 1 + 1, o2) :: (c + 1, o1) :: st : List (Addr × Obj)), @Ne Nat p.1 189 ∧ @Ne Nat p.1 196 ∧ @Ne Nat p.1 240 := by
  have h1 := Nat.lt_succ_of_lt h
  have h2 := Nat.lt_succ_of_lt h1
  have h3 := Nat.lt_succ_of_lt h2
  have h4 := Nat.lt_succ_of_lt h3
  have h5 := Nat.lt_succ_of_lt h4
  have h6 := Nat.lt_succ_of_lt h5
  have h7 := Nat.lt_succ_of_lt h6
  exact fm (far3 (Nat.lt_succ_of_lt h7)) (fm (far3 h7) (fm (far3 h6) (fm (far3 h5) (fm (far3 h4) (fm (far3 h3) (fm (far3 h2) (fm (far3 h1) fun p hp => ⟨hs p hp 189 (mov_tab (.head _)), hs p hp 196 (mov_tab (.tail _ (.head _))), hs p hp 240 (mov_tab (.tail _ (.tail _ (.head _))))⟩)))))))
theorem off3 {l : List (Addr × Obj)} (h : ∀ p ∈ l, @Ne Nat p.1 189 ∧ @Ne Nat p.1 196 ∧ @Ne Nat p.1 240) : OwnOff l [189, 196, 240] := by
  intro p hp b hb
  rcases List.mem_cons.mp hb with rfl | hb
  · exact (h p hp).1
  rcases List.mem_cons.mp hb with rfl | hb
  · exact (h p hp).2.1
  rw [List.mem_singleton.mp hb]
  exact (h p hp).2.2
theorem dis4 {c : Nat} {w : Addr} (h : w ∉ movs c) : Dis [w, 189, 196, 240] := by
  have k : ∀ a ∈ ([189, 196, 240] : List Addr), Ap w a := fun a ha => ⟨fun e => h (e ▸ mov_tab ha)⟩
  exact ⟨⟨⟨k _ (.head _), k _ (.tail _ (.head _)), k _ (.tail _ (.tail _ (.head _))), trivial⟩, ⟨⟨by decide⟩, ⟨by decide⟩, trivial⟩, ⟨⟨by decide⟩, trivial⟩, trivial, trivial⟩⟩
theorem seg_sub {x w : Addr × Obj} {P Q st : List (Addr × Obj)} : ∀ p ∈ w :: (Q ++ (P ++ st)), p ∈ w :: x :: (P ++ (Q ++ st)) := by
  intro p hp
  rcases List.mem_cons.mp hp with rfl | hp
  · exact .head _
  refine .tail _ (.tail _ ?_)
  rcases List.mem_append.mp hp with hp | hp
  · exact List.mem_append_right _ (List.mem_append_left _ hp)
  rcases List.mem_append.mp hp with hp | hp
  · exact List.mem_append_left _ hp
  · exact List.mem_append_right _ (List.mem_append_right _ hp)
theorem rec_led {w x p8 p7 p6 p5 p4 p3 p2 p1 q1 q2 q3 : Addr × Obj} {st : List (Addr × Obj)} : ∀ p ∈ w :: q1 :: q2 :: q3 :: (p8 :: p7 :: p6 :: p5 :: p4 :: p3 :: p2 :: p1 :: st), p ∈ w :: x :: p8 :: p7 :: p6 :: p5 :: p4 :: p3 :: p2 :: p1 :: q1 :: q2 :: q3 :: st :=
  seg_sub (P := [p8, p7, p6, p5, p4, p3, p2, p1]) (Q := [q1, q2, q3])
theorem gathG {cells st E : List (Addr × Obj)} (hE : ∀ p ∈ E, ∀ q ∈ cells, @LT.lt Nat _ q.1 p.1) (hs : OwnOff st (cells.map (·.1))) : OwnOff (E ++ st) (cells.map (·.1)) := by
  intro p hp b hb
  rcases List.mem_append.mp hp with hp | hp
  · obtain ⟨q, hq, e⟩ := List.mem_map.mp hb
    exact e ▸ Nat.ne_of_gt (hE p hp q hq)
  · exact hs p hp b hb
theorem gath {c : Nat} {o8 o7 o6 o5 o4 o3 o2 o1 ow : Obj} {st E : List (Addr × Obj)} {wl : Addr}
    (hE : ∀ p ∈ E, @LT.lt Nat _ 240 p.1 ∧ @LT.lt Nat _ wl p.1 ∧ ∀ q ∈ ((c + 1 + 1 + 1 + 1 + 1 + 1 + 1 + 1, o8) :: (c + 1 + 1 + 1 + 1 + 1 + 1 + 1, o7) :: (c + 1 + 1 + 1 + 1 + 1 + 1, o6) :: (c + 1 + 1 + 1 + 1 + 1, o5) :: (c + 1 + 1 + 1 + 1, o4) :: (c + 1 + 1 + 1, o3) :: (c + 1 + 1, o2) :: (c + 1, o1) :: st : List (Addr × Obj)), @LT.lt Nat _ q.1 p.1)
    (hs : OwnOff st (movs c)) (hw : wl ∉ movs c) : OwnOff (E ++ (wl, ow) :: st) (movs c) := by
  refine gathG (cells := [(c + 1 + 1 + 1 + 1 + 1 + 1 + 1 + 1, o8), (c + 1 + 1 + 1 + 1 + 1 + 1 + 1, o7), (c + 1 + 1 + 1 + 1 + 1 + 1, o6), (c + 1 + 1 + 1 + 1 + 1, o5), (c + 1 + 1 + 1 + 1, o4), (c + 1 + 1 + 1, o3), (c + 1 + 1, o2), (c + 1, o1)] ++ [(189, ow), (196, ow), (240, ow)]) (fun p hp q hq => ?_) fun p hp b hb => ?_
  · obtain ⟨h1, -, h3⟩ := hE p hp
    rcases List.mem_append.mp hq with hq | hq
    · exact h3 q (List.mem_append_left st hq)
    · rcases List.mem_cons.mp hq with rfl | hq
      · exact Nat.lt_trans (show (189 : Nat) < 240 by decide) h1
      rcases List.mem_cons.mp hq with rfl | hq
      · exact Nat.lt_trans (show (196 : Nat) < 240 by decide) h1
      rw [List.mem_singleton.mp hq]
      exact h1
  · rcases List.mem_cons.mp hp with rfl | hp
    · intro e; have e2 : wl = b := e; exact hw (e2 ▸ hb)
    · exact hs p hp b hb
theorem seg_sub2 {A P Q nw st : List (Addr × Obj)} {w : Addr × Obj} : ∀ p ∈ P ++ (Q ++ ((A ++ nw) ++ w :: st)), p ∈ A ++ (Q ++ (w :: (nw ++ (P ++ st)))) := by
  intro p hp
  rcases List.mem_append.mp hp with hp | hp
  · exact List.mem_append_right _ (List.mem_append_right _ (.tail _ (List.mem_append_right _ (List.mem_append_left _ hp))))
  rcases List.mem_append.mp hp with hp | hp
  · exact List.mem_append_right _ (List.mem_append_left _ hp)
  rcases List.mem_append.mp hp with hp | hp
  · rcases List.mem_append.mp hp with hp | hp
    · exact List.mem_append_left _ hp
    · exact List.mem_append_right _ (List.mem_append_right _ (.tail _ (List.mem_append_left _ hp)))
  · rcases List.mem_cons.mp hp with rfl | hp
    · exact List.mem_append_right _ (List.mem_append_right _ (.head _))
    · exact List.mem_append_right _ (List.mem_append_right _ (.tail _ (List.mem_append_right _ (List.mem_append_right _ hp))))
theorem gath_led {p8 p7 p6 p5 p4 p3 p2 p1 q1 q2 q3 e d ua ru w : Addr × Obj} {nw st : List (Addr × Obj)} : ∀ p ∈ p8 :: p7 :: p6 :: p5 :: p4 :: p3 :: p2 :: p1 :: q1 :: q2 :: q3 :: ((e :: d :: ua :: ru :: nw) ++ w :: st),
    p ∈ e :: d :: ua :: ru :: q1 :: q2 :: q3 :: w :: (nw ++ (p8 :: p7 :: p6 :: p5 :: p4 :: p3 :: p2 :: p1 :: st)) :=
  seg_sub2 (A := [e, d, ua, ru]) (P := [p8, p7, p6, p5, p4, p3, p2, p1]) (Q := [q1, q2, q3])
theorem gath2 {c : Nat} {o8 o7 o6 o5 o4 o3 o2 o1 x1 x2 x3 : Obj} {st E : List (Addr × Obj)}
    (hE : ∀ p ∈ E, ∀ q ∈ ((c + 1 + 1 + 1 + 1 + 1 + 1 + 1 + 1, o8) :: (c + 1 + 1 + 1 + 1 + 1 + 1 + 1, o7) :: (c + 1 + 1 + 1 + 1 + 1 + 1, o6) :: (c + 1 + 1 + 1 + 1 + 1, o5) :: (c + 1 + 1 + 1 + 1, o4) :: (c + 1 + 1 + 1, o3) :: (c + 1 + 1, o2) :: (c + 1, o1) :: (189, x1) :: (196, x2) :: (240, x3) :: st : List (Addr × Obj)), @LT.lt Nat _ q.1 p.1)
    (hs : OwnOff st (movs c)) : OwnOff (E ++ st) (movs c) :=
  gathG (cells := [(c + 1 + 1 + 1 + 1 + 1 + 1 + 1 + 1, o8), (c + 1 + 1 + 1 + 1 + 1 + 1 + 1, o7), (c + 1 + 1 + 1 + 1 + 1 + 1, o6), (c + 1 + 1 + 1 + 1 + 1, o5), (c + 1 + 1 + 1 + 1, o4), (c + 1 + 1 + 1, o3), (c + 1 + 1, o2), (c + 1, o1), (189, x1), (196, x2), (240, x3)]) (fun p hp q hq => hE p hp q (List.mem_append_left st hq)) hs
theorem gath2_led {l E st : List (Addr × Obj)} : ∀ p ∈ l ++ (E ++ st), p ∈ E ++ (l ++ st) := by
  intro p hp
  rcases List.mem_append.mp hp with hp | hp
  · exact List.mem_append_right _ (List.mem_append_left _ hp)
  · rcases List.mem_append.mp hp with hp | hp
    · exact List.mem_append_left _ hp
    · exact List.mem_append_right _ (List.mem_append_right _ hp)
theorem off11 {c : Nat} {x : Addr} (h : x ∉ movs c) : @Ne Nat (c + 1 + 1 + 1 + 1 + 1 + 1 + 1 + 1) x ∧ @Ne Nat (c + 1 + 1 + 1 + 1 + 1 + 1 + 1) x ∧ @Ne Nat (c + 1 + 1 + 1 + 1 + 1 + 1) x ∧ @Ne Nat (c + 1 + 1 + 1 + 1 + 1) x ∧ True := by
  have k : ∀ a ∈ movs c, @Ne Nat a x := fun a ha e => h (e ▸ ha)
  exact ⟨k _ (.head _), k _ (.tail _ (.head _)), k _ (.tail _ (.tail _ (.head _))), k _ (.tail _ (.tail _ (.tail _ (.head _)))), trivial⟩
end
section
theorem off_DI : True := by
  k_with_none
  trivial
open PySem PySem.W PyProof.Rows PySem.Calls
noncomputable def dL (ts : List Str) : PyData := .list (ts.map PyData.str)
noncomputable def OkParts (ps : List (List Str)) : Prop := ∀ ts ∈ ps, OkTexts ts
theorem depth_list (ts : List Str) : PyData.depth (dL ts) = 1 := by
  unfold dL
  simp only [PyData.depth, depth_texts]
theorem canLay_parts : ∀ {ps : List (List Str)}, OkParts ps → PyData.canLayAll0 (ps.map dL) = true
  | [], _ => rfl
  | x :: r, h => by
    have h1 := canLay_parts (ps := r) fun y hy => h y (.tail _ hy)
    have h2 := canLay_texts (h x (.head _))
    simp [PyData.canLayAll0, PyData.canLay0, dL, h2, List.map_cons] at h1 ⊢
    exact h1
theorem depth_parts : ∀ ps : List (List Str), PyData.depthAll (ps.map dL) ≤ 1
  | [] => Nat.zero_le _
  | x :: r => by
    have h := depth_parts r
    rw [List.map_cons]
    simp only [PyData.depthAll, depth_list]
    omega
theorem shaped_parts {ps : List (List Str)} (h : OkParts ps) : SeqAt.shaped (.list (ps.map dL)) = true := by
  have h1 := canLay_parts h
  have h2 := depth_parts ps
  simp [SeqAt.shaped, PyData.canLay0, PyData.depth, h1]
  omega
theorem sameAll_parts : ∀ ps qs : List (List Str), PySem.Spec.sameAll (ps.map dL) (qs.map dL) = decide (ps = qs)
  | [], [] => by simp [PySem.Spec.sameAll]
  | [], _ :: _ => by simp [PySem.Spec.sameAll]
  | _ :: _, [] => by simp [PySem.Spec.sameAll]
  | a :: r, b :: t => by
    have e : PySem.Spec.same (dL a) (dL b) = decide (a = b) := same_texts a b
    simp only [List.map_cons, PySem.Spec.sameAll, e, sameAll_parts r t]
    by_cases h : a = b <;> by_cases h' : r = t <;> simp [h, h']
theorem same_parts (ps qs : List (List Str)) : PySem.Spec.same (.list (ps.map dL)) (.list (qs.map dL)) = decide (ps = qs) := by
  simp only [PySem.Spec.same]; exact sameAll_parts ps qs
theorem PartsIn.tl {news : List (Addr × Obj)} {v : Value} {vs : List Value} {p : List Str} {ps : List (List Str)} (H : PartsIn news (v :: vs) (p :: ps)) : PartsIn news vs ps :=
  ⟨Nat.succ.inj H.len, fun i q e => H.get (i + 1) q e⟩
theorem reads_parts {h₀ h : Heap} {L : Addr} {news : List (Addr × Obj)} (N : News h₀ L h news) : ∀ {ps : List (List Str)} {vs : List Value}, PartsIn news vs ps → ∃ as, ReadsAll h vs (ps.map dL) as
  | [], vs, H => by
    have := List.length_eq_zero_iff.mp H.len
    subst this
    exact ⟨_, .nil⟩
  | p :: ps, [], H => absurd H.len (by simp)
  | p :: ps, v :: vs, H => by
    obtain ⟨as, ha⟩ := reads_parts N H.tl
    obtain ⟨a, ws, n, e, hm, ht⟩ := H.get 0 p rfl
    obtain rfl : v = .ref a := Option.some.inj e
    exact ⟨_, .cons (reads_newData ⟨_, (N _ hm).1, rfl, n, rfl⟩ (carried_texts ht)) ha⟩
section
variable {prog : Program} {w : World} {A : Around} {E : Value → Shared → Prop} {s : Shared} {a b : Addr} {xs ys : List Value} {ps qs : List (List Str)} {Q : Value → Shared → Prop} {h₀ : Heap} {L : Addr} {news : List (Addr × Obj)} {n k : Nat}
theorem ne_parts (N : News h₀ L s.heap news) (ha : (a, lsO xs n) ∈ news) (hb : (b, lsO ys k) ∈ news) (hi : PartsIn news xs ps) (hj : PartsIn news ys qs) (ho1 : OkParts ps) (ho2 : OkParts qs) (hu : A.units + 64 < cLine) (h : Q (.bool (!decide (ps = qs))) s) :
    wpAny (model prog w) A (compareOp .NotEq (.ref a) (.ref b)) Q E s := by
  obtain ⟨as, h1⟩ := reads_parts N hi
  obtain ⟨bs, h2⟩ := reads_parts N hj
  exact ne_dataH_same (Reads.list (N _ ha).1 rfl rfl h1) (Reads.list (N _ hb).1 rfl rfl h2) (shaped_parts ho1) (shaped_parts ho2) hu (SeqAt.noMix_of_shape (.list (.list .str)) rfl _ _ (list_map_has fun _ => list_map_has fun _ => rfl) (list_map_has fun _ => list_map_has fun _ => rfl)) (by rw [same_parts]; exact h)
theorem eq_parts (N : News h₀ L s.heap news) (ha : (a, lsO xs n) ∈ news) (hb : (b, lsO ys k) ∈ news) (hi : PartsIn news xs ps) (hj : PartsIn news ys qs) (ho1 : OkParts ps) (ho2 : OkParts qs) (hu : A.units + 64 < cLine) (h : Q (.bool (decide (ps = qs))) s) :
    wpAny (model prog w) A (compareOp .Eq (.ref a) (.ref b)) Q E s := by
  obtain ⟨as, h1⟩ := reads_parts N hi
  obtain ⟨bs, h2⟩ := reads_parts N hj
  exact eq_dataH_same (Reads.list (N _ ha).1 rfl rfl h1) (Reads.list (N _ hb).1 rfl rfl h2) (shaped_parts ho1) (shaped_parts ho2) hu (SeqAt.noMix_of_shape (.list (.list .str)) rfl _ _ (list_map_has fun _ => list_map_has fun _ => rfl) (list_map_has fun _ => list_map_has fun _ => rfl)) (by rw [same_parts]; exact h)
end
end
section
theorem off_DJ : True := by
  k_with_none
  trivial
open PySem PySem.W PyProof.Rows PySem.Calls
noncomputable def wd (ws : List Str) (p : Nat) : Str := ws.getD p ""
theorem wdx_get {ws : List Str} {p : Nat} (h : p < ws.length) : ws[p]? = some (wd ws p) := by
  unfold wd
  rw [List.getD_eq_getElem?_getD, List.getElem?_eq_getElem h]
  rfl
noncomputable abbrev bg (W H : Nat) (ws : List Str) : Nat → Bool := at_ (flg W H ws)
noncomputable def agsOf (W H : Nat) (ws : List Str) : List Str := (seams W H ws).map (wd ws)
theorem bg_end {W H : Nat} {ws : List Str} {k : Nat} (h : ws.length ≤ k) : bg W H ws k = false := by
  show (flg W H ws).getD k false = false
  rw [List.getD_eq_getElem?_getD, List.getElem?_eq_none (by rw [flg_len]; exact h)]
  rfl
theorem bg_ok {W H0 H1 : Nat} {ws : List Str} (k : Nat) : (mdF .o (bg W H0 ws) (bg W H1 ws) k).ok (bg W H0 ws k) (bg W H1 ws k) = true := turns_ok W (szs ws) .o H0 _ H1 _ trivial k
section
variable {ws : List Str} (W8 : Words8 ws)
include W8
theorem seams_8 (W H : Nat) : seams W H ws = (List.range 8).filter (bg W H ws) := by rw [seams_is, W8.len]
theorem wd_inj {i j : Nat} (hi : i < 8) (hj : j < 8) (h : wd ws i = wd ws j) : i = j := W8.inj hi hj (by rw [wdx_get (by rw [W8.len]; exact hi), wdx_get (by rw [W8.len]; exact hj), h])
theorem wd_ok {p : Nat} (h : p < 8) : PyData.strOk (wd ws p) = true := W8.ok _ (List.mem_of_getElem? (wdx_get (by rw [W8.len]; exact h)))
theorem map_wd_ok {l : List Nat} (h : ∀ p ∈ l, p < 8) : OkTexts (l.map (wd ws)) := fun x hx => by
  obtain ⟨p, hp, rfl⟩ := List.mem_map.mp hx
  exact wd_ok W8 (h p hp)
theorem seams_lt8 {W H : Nat} : ∀ p ∈ seams W H ws, p < 8 := fun p hp => by have := (seams_lt hp).1; rw [W8.len] at this; exact this
theorem seams_len8 {W H : Nat} : (seams W H ws).length ≤ 8 := by
  rw [seams_8 W8]
  exact Nat.le_trans (List.length_filter_le _ _) (by simp)
theorem agsOf_ok {W H : Nat} : OkTexts (agsOf W H ws) := map_wd_ok W8 (seams_lt8 W8)
theorem agsOf_len {W H : Nat} : (agsOf W H ws).length ≤ 8 := by
  unfold agsOf
  rw [List.length_map]
  exact seams_len8 W8
theorem ags_eq (W H : Nat) : ((rowsOf W H ws).drop 1).map agOf = agsOf W H ws := by
  have e := ags_is W H (ws := ws) (W8.free (.inl (by decide)))
  have e2 : ((rowsOf W H ws).drop 1).map agOf = (((rowsOf W H ws).drop 1).map agOfRow).map fun o => o.getD "" := by
    rw [List.map_map]; rfl
  rw [e2, e, List.map_map]
  refine List.map_congr_left fun p hp => ?_
  show (ws[p]?).getD "" = wd ws p
  rw [wdx_get (by rw [W8.len]; exact seams_lt8 W8 p hp)]
  rfl
noncomputable def keptOf (f g : Nat → Bool) (ws : List Str) : List Str := ((List.range 8).filter fun k => f k && g k).map (wd ws)
omit W8 in
theorem kept_comm (f g : Nat → Bool) : keptOf f g ws = keptOf g f ws := by
  unfold keptOf
  congr 1
  exact List.filter_congr fun x _ => Bool.and_comm _ _
theorem kept_is (W H0 H1 : Nat) : ((agsOf W H0 ws).filter fun k => (agsOf W H1 ws).any (· == k)) = keptOf (bg W H0 ws) (bg W H1 ws) ws := by
  unfold agsOf keptOf
  rw [seams_8 W8, seams_8 W8, ← filter_and, List.filter_map]
  congr 1
  refine List.filter_congr fun x hx => ?_
  have hx8 : x < 8 := List.mem_range.mp (List.mem_filter.mp hx).1
  show (((List.range 8).filter (bg W H1 ws)).map (wd ws)).any (· == wd ws x) = _
  rw [List.any_map]
  rw [Bool.eq_iff_iff, List.any_eq_true, List.any_eq_true]
  constructor
  · rintro ⟨y, hy, e⟩
    exact ⟨y, hy, by rw [wd_inj W8 (List.mem_range.mp (List.mem_filter.mp hy).1) hx8 (eq_of_beq e)]; exact beq_self_eq_true x⟩
  · rintro ⟨y, hy, e⟩
    rw [eq_of_beq e] at hy
    exact ⟨x, hy, beq_self_eq_true _⟩
theorem kept_ok (f g : Nat → Bool) : OkTexts (keptOf f g ws) := map_wd_ok W8 fun p hp => List.mem_range.mp (List.mem_filter.mp hp).1
omit W8 in
theorem kept_len (f g : Nat → Bool) : (keptOf f g ws).length ≤ 8 := by
  unfold keptOf
  rw [List.length_map]
  exact Nat.le_trans (List.length_filter_le _ _) (by simp)
noncomputable def tld (f g : Nat → Bool) (k : Nat) : Bool := Nat.ble (lastF g k) (lastF f k)
noncomputable def tldT (f g : Nat → Bool) (k : Nat) : Str := if tld f g k = true then "True" else "False"
theorem last_7 (W H : Nat) {k : Nat} (hk : k ≤ 8) : lastF (bg W H ws) (min 7 k) = lastF (bg W H ws) k := by
  rcases Nat.lt_or_ge 7 k with h | h
  · have : k = 8 := by omega
    subst this
    show _ = if bg W H ws 8 then 9 else lastF (bg W H ws) 7
    rw [bg_end (by rw [W8.len]; exact Nat.le_refl _)]
    rfl
  · rw [Nat.min_eq_right h]
theorem rules_is (W H : Nat) (v : Bool) : ((pathsOf (rowsOf W H ws)).map fun p => (p, v)) = (((List.range 8).filter (bg W H ws)).map fun p => (p, v)).map fun r => (rowTxt (ws.take r.1), r.2) := by
  rw [paths_is, seams_8 W8, List.map_map, List.map_map]
  rfl
theorem rules_len (W H : Nat) (v : Bool) : ((pathsOf (rowsOf W H ws)).map fun p => (p, v)).length ≤ 8 := by
  rw [List.length_map, paths_is, List.length_map]
  exact seams_len8 W8
theorem rules_short (W H : Nat) (v : Bool) : ∀ q ∈ (pathsOf (rowsOf W H ws)).map fun p => (p, v), q.1.length ≤ 40 := fun q hq => by
  rw [rules_is W8] at hq
  obtain ⟨r, _, rfl⟩ := List.mem_map.mp hq
  exact W8.name_le
theorem acc_one (W H k : Nat) (hk : k ≤ 8) (v : Bool) : accN k v 0 (((List.range 8).filter (bg W H ws)).map fun p => (p, v)) = lastF (bg W H ws) k := by
  rw [acc_range, if_neg (by decide)]
  exact last_7 W8 W H hk
theorem pre8 {W H : Nat} {v : Bool} : ∀ r ∈ ((List.range 8).filter (bg W H ws)).map fun p => (p, v), r.1 ≤ 8 := fun r hr => by
  obtain ⟨p, hp, rfl⟩ := List.mem_map.mp hr
  exact Nat.le_of_lt (List.mem_range.mp (List.mem_filter.mp hp).1)
theorem allow_both (W H0 H1 : Nat) {k : Nat} (hk : k ≤ 8) : allowOf (rowTxt (ws.take k)) (((pathsOf (rowsOf W H0 ws)).map fun p => (p, true)) ++ (pathsOf (rowsOf W H1 ws)).map fun p => (p, false)) = tld (bg W H0 ws) (bg W H1 ws) k := by
  rw [rules_is W8, rules_is W8, ← List.map_append, allow_is W8 hk (fun r hr => (List.mem_append.mp hr).elim (pre8 W8 r) (pre8 W8 r)), acc_app, acc_app]
  have e1 : accN k false 0 (((List.range 8).filter (bg W H0 ws)).map fun p => (p, true)) = 0 := acc_other k false _ 0
  have e2 : accN k true (accN k true 0 (((List.range 8).filter (bg W H0 ws)).map fun p => (p, true))) (((List.range 8).filter (bg W H1 ws)).map fun p => (p, false)) = _ := acc_other k true _ _
  rw [e2, e1, acc_one W8 W H0 k hk, acc_one W8 W H1 k hk]
  rfl
theorem allow_turned (W H0 H1 : Nat) {k : Nat} (hk : k ≤ 8) : allowOf (rowTxt (ws.take k)) (((pathsOf (rowsOf W H1 ws)).map fun p => (p, false)) ++ (pathsOf (rowsOf W H0 ws)).map fun p => (p, true)) = tld (bg W H0 ws) (bg W H1 ws) k := by
  rw [rules_is W8, rules_is W8, ← List.map_append, allow_is W8 hk (fun r hr => (List.mem_append.mp hr).elim (pre8 W8 r) (pre8 W8 r)), acc_app, acc_app]
  have e1 : accN k true 0 (((List.range 8).filter (bg W H1 ws)).map fun p => (p, false)) = 0 := acc_other k true _ 0
  have e2 : accN k false (accN k false 0 (((List.range 8).filter (bg W H1 ws)).map fun p => (p, false))) (((List.range 8).filter (bg W H0 ws)).map fun p => (p, true)) = _ := acc_other k false _ _
  rw [e2, e1, acc_one W8 W H0 k hk, acc_one W8 W H1 k hk]
  rfl
theorem last_is {W H k : Nat} (hk : k ≤ 8) {M : Int} (h1 : M ∈ (-1 : Int) :: ((seams W H ws).filter fun p => decide (p ≤ k)).map fun (x : Nat) => (x : Int)) (h2 : ∀ a, a ∈ (-1 : Int) :: ((seams W H ws).filter fun p => decide (p ≤ k)).map (fun (x : Nat) => (x : Int)) → a ≤ M) : M = (lastF (bg W H ws) k : Int) - 1 := by
  have key : ∀ j, (lastF (bg W H ws) j = 0 ∧ ∀ p, p ≤ j → bg W H ws p = false) ∨ (∃ p, lastF (bg W H ws) j = p + 1 ∧ p ≤ j ∧ bg W H ws p = true ∧ ∀ q, q ≤ j → bg W H ws q = true → q ≤ p) := by
    intro j
    induction j with
    | zero =>
      show ((if bg W H ws 0 then 1 else 0) = 0 ∧ _) ∨ (∃ p, (if bg W H ws 0 then 1 else 0) = p + 1 ∧ _)
      cases e : bg W H ws 0 with
      | true => exact .inr ⟨0, rfl, Nat.le_refl _, e, fun q hq _ => hq⟩
      | false => exact .inl ⟨rfl, fun p hp => by rw [Nat.le_zero.mp hp]; exact e⟩
    | succ j ih =>
      show ((if bg W H ws (j + 1) then j + 2 else lastF (bg W H ws) j) = 0 ∧ _) ∨ (∃ p, (if bg W H ws (j + 1) then j + 2 else lastF (bg W H ws) j) = p + 1 ∧ _)
      cases e : bg W H ws (j + 1) with
      | true => exact .inr ⟨j + 1, rfl, Nat.le_refl _, e, fun q hq _ => hq⟩
      | false =>
        have le : ∀ q, q ≤ j + 1 → bg W H ws q = true → q ≤ j := fun q hq hb => by
          rcases Nat.lt_or_ge j q with h | h
          · have : q = j + 1 := by omega
            rw [this, e] at hb
            exact absurd hb (by decide)
          · exact h
        rcases ih with ⟨i1, i2⟩ | ⟨p, i1, i2, i3, i4⟩
        · refine .inl ⟨i1, fun p hp => ?_⟩
          cases hb : bg W H ws p with
          | false => rfl
          | true => rw [← hb]; exact i2 p (le p hp hb)
        · exact .inr ⟨p, i1, Nat.le_succ_of_le i2, i3, fun q hq hb => i4 q (le q hq hb) hb⟩
  have hmem : ∀ p : Nat, p ≤ k → bg W H ws p = true → ((p : Nat) : Int) ∈ (-1 : Int) :: ((seams W H ws).filter fun p => decide (p ≤ k)).map fun (x : Nat) => (x : Int) := fun p hp hb => by
    refine .tail _ (List.mem_map.mpr ⟨p, List.mem_filter.mpr ⟨?_, decide_eq_true hp⟩, rfl⟩)
    rw [seams_8 W8]
    refine List.mem_filter.mpr ⟨List.mem_range.mpr ?_, hb⟩
    rcases Nat.lt_or_ge p 8 with h | h
    · exact h
    · rw [bg_end (by rw [W8.len]; exact h)] at hb
      exact absurd hb (by decide)
  have hof : ∀ a, a ∈ (-1 : Int) :: ((seams W H ws).filter fun p => decide (p ≤ k)).map (fun (x : Nat) => (x : Int)) → a = -1 ∨ ∃ p : Nat, a = p ∧ p ≤ k ∧ bg W H ws p = true := fun a ha => by
    rcases List.mem_cons.mp ha with e | ha
    · exact .inl e
    · obtain ⟨p, hp, rfl⟩ := List.mem_map.mp ha
      obtain ⟨q1, q2⟩ := List.mem_filter.mp hp
      exact .inr ⟨p, rfl, of_decide_eq_true q2, (seams_lt q1).2⟩
  rcases key k with ⟨i1, i2⟩ | ⟨p, i1, i2, i3, i4⟩
  · rw [i1]
    rcases hof M h1 with e | ⟨p, _, e2, e3⟩
    · rw [e]; rfl
    · rw [i2 p e2] at e3
      exact absurd e3 (by decide)
  · rw [i1]
    have hp := h2 _ (hmem p i2 i3)
    rcases hof M h1 with e | ⟨q, e1, e2, e3⟩
    · omega
    · have := i4 q e2 e3
      omega
omit W8 in
theorem tld_le {f g : Nat → Bool} {k : Nat} {a b : Int} (ha : a = (lastF f k : Int) - 1) (hb : b = (lastF g k : Int) - 1) : tld f g k = decide (b ≤ a) := by
  unfold tld
  rw [ha, hb, Bool.eq_iff_iff, Nat.ble_eq, decide_eq_true_iff]
  omega
noncomputable def trn (f g : Nat → Bool) (k : Nat) : Bool := !(tld f g k) && (Nat.beq k 0 || tld f g (k - 1))
theorem turns_is (W H0 H1 : Nat) : (((List.range 9).filter (trn (bg W H0 ws) (bg W H1 ws))).length : Int) = ((agsOf W H1 ws).length : Int) - ((keptOf (bg W H0 ws) (bg W H1 ws) ws).length : Int) := by
  have e1 : (List.range 9).filter (trn (bg W H0 ws) (bg W H1 ws)) = (List.range 9).filter fun k => bg W H1 ws k && !(bg W H0 ws k) := List.filter_congr fun k _ => turn_is bg_ok k
  have e2 : (List.range 9).filter (fun k => bg W H1 ws k && !(bg W H0 ws k)) = (List.range 8).filter fun k => bg W H1 ws k && !(bg W H0 ws k) := by
    rw [show (9 : Nat) = 8 + 1 from rfl, List.range_succ, List.filter_append, List.filter_cons_of_neg (by rw [bg_end (k := 8) (by rw [W8.len]; exact Nat.le_refl _)]; simp), List.filter_nil, List.append_nil]
  have e3 := filter_count (bg W H0 ws) (bg W H1 ws) (List.range 8)
  rw [e1, e2]
  unfold agsOf keptOf
  rw [List.length_map, List.length_map, seams_8 W8]
  omega
theorem ends_1 (W H0 H1 : Nat) : (agsOf W H0 ws).drop ((agsOf W H0 ws).length - (keptOf (bg W H0 ws) (bg W H1 ws) ws).length) = keptOf (bg W H0 ws) (bg W H1 ws) ws := by
  unfold agsOf keptOf
  rw [List.length_map, List.length_map, seams_8 W8, ← List.map_drop]
  congr 1
  exact filter_drop _ (range_lt 8) fun i j _ _ h1 h2 h3 => met_same bg_ok h1 h2 h3
theorem ends_2 (W H0 H1 : Nat) : (agsOf W H1 ws).drop ((agsOf W H1 ws).length - (keptOf (bg W H0 ws) (bg W H1 ws) ws).length) = keptOf (bg W H0 ws) (bg W H1 ws) ws := by
  rw [kept_comm]
  exact ends_1 W8 W H1 H0
theorem kept_le1 (W H0 H1 : Nat) : (keptOf (bg W H0 ws) (bg W H1 ws) ws).length ≤ (agsOf W H0 ws).length := by
  rw [← kept_is W8]
  exact List.length_filter_le _ _
theorem kept_le2 (W H0 H1 : Nat) : (keptOf (bg W H0 ws) (bg W H1 ws) ws).length ≤ (agsOf W H1 ws).length := by
  rw [kept_comm]
  exact kept_le1 W8 W H1 H0
end
end
section
theorem off_DK : True := by
  k_with_none
  trivial
open PySem PySem.W PyProof.Rows PySem.Calls
structure DuosIn (news : List (Addr × Obj)) (vs : List Value) (ps : List (Int × Int)) : Prop where
  len : vs.length = ps.length
  get : ∀ (i : Nat) p, ps[i]? = some p → ∃ a us n, (vs[i]? : Option Value) = some (Value.ref a) ∧ (a, lsO us n) ∈ news ∧ IntsAre us [p.1, p.2]
theorem DuosIn.nil {news : List (Addr × Obj)} : DuosIn news [] [] := ⟨rfl, fun i f h => by simp at h⟩
theorem DuosIn.mono {news news' : List (Addr × Obj)} {vs : List Value} {ps : List (Int × Int)} (H : DuosIn news vs ps) (h : ∀ p ∈ news, p ∈ news') : DuosIn news' vs ps :=
  ⟨H.len, fun i f e => let ⟨T, t, u, h1, h2, h3⟩ := H.get i f e; ⟨T, t, u, h1, h _ h2, h3⟩⟩
theorem DuosIn.snoc {news : List (Addr × Obj)} {vs us : List Value} {ps : List (Int × Int)} {a : Addr} {n : Nat} {p : Int × Int} (h : DuosIn news vs ps) (h1 : (a, lsO us n) ∈ news) (h2 : IntsAre us [p.1, p.2]) : DuosIn news (vs ++ [.ref a]) (ps ++ [p]) := by
  refine ⟨by simp [h.len], fun i q e => ?_⟩
  rcases Nat.lt_trichotomy i ps.length with hi | hi | hi
  · rw [List.getElem?_append_left hi] at e
    obtain ⟨x, us', n', k1, k2, k3⟩ := h.get i q e
    exact ⟨x, us', n', by rw [List.getElem?_append_left (by rw [h.len]; exact hi)]; exact k1, k2, k3⟩
  · subst hi
    obtain rfl : p = q := by simpa using e
    exact ⟨a, us, n, by rw [← h.len]; simp, h1, h2⟩
  · rw [List.getElem?_eq_none (by simp; omega)] at e
    exact absurd e (by simp)
theorem PartsIn.snoc {news : List (Addr × Obj)} {vs ws : List Value} {ps : List (List Str)} {p : List Str} {a : Addr} {n : Nat} (H : PartsIn news vs ps) (h : (a, lsO ws n) ∈ news) (ht : TextsAre ws p) : PartsIn news (vs ++ [.ref a]) (ps ++ [p]) := H.append (.one h ht)
section
variable {prog : Program} {w : World} {A : Around} {E : Value → Shared → Prop} {s : Shared} {h₀ : Heap} {L l : Addr} {m : Str → Option Value} {news : List (Addr × Obj)} {Q : Value → Shared → Prop}
theorem slice_from_T {value slice : PySem.Expr} {vs : List Value} {ts : List Str} {n : Nat} {a : Int} {tk : Tok} (F : Fr h₀ L s.heap m) (N : News h₀ L s.heap news) (hl : (l, lsO vs n) ∈ news) (hT : TextsAre vs ts) (h0 : 0 ≤ a) (h1 : a ≤ ts.length) (h2 : ts.length ≤ 1000)
    (h : ∀ D vs' h', Fr h₀ L h' m → News h₀ L h' ((D, lsO vs' 0) :: news) → (∀ p ∈ news, p.1 < D) → TextsAre vs' (ts.drop a.toNat) → Q (.ref D) { s with heap := h' })
    (hs : subscripted slice false (.ref l) (.ref s.heap.objs.size) = operate [.ref s.heap.objs.size, .ref l] (getItem (.ref l) (.ref s.heap.objs.size))) (ht : ∀ r, letTemporaryGo value (.ref l) r = pure ()) :
    wpAny (model prog w) A (subscriptTail value slice (.ref l) (.ref s.heap.objs.size)) Q E { s with heap := s.heap.push { cls := .type "slice", data := .fields #[.int a tk, .none, .none] } } := by
  obtain ⟨a, rfl⟩ := Int.eq_ofNat_of_zero_le h0
  refine kmk_slice F N ⟨_, (N _ hl).1, rfl, n, rfl⟩ (.int _ _) .none (fun D h' F' N' l1 => h D (vs.drop a) h' F' ?_ l1 (by simpa using hT.drop a)) hs ht (by rw [List.size_toArray, sizeLine_eq, hT.length]; omega)
  rw [slicePick_from vs.toArray a (by rw [List.size_toArray, hT.length]; omega)] at N'
  exact N'
theorem ne_parts_same {a b : Addr} {xs ys : List Value} {ps qs : List (List Str)} {n k : Nat} (e : ps = qs) (N : News h₀ L s.heap news) (ha : (a, lsO xs n) ∈ news) (hb : (b, lsO ys k) ∈ news) (hi : PartsIn news xs ps) (hj : PartsIn news ys qs) (ho1 : OkParts ps) (ho2 : OkParts qs) (hu : A.units + 64 < cLine) (h : Q (.bool false) s) :
    wpAny (model prog w) A (compareOp .NotEq (.ref a) (.ref b)) Q E s := ne_parts N ha hb hi hj ho1 ho2 hu (by rw [decide_eq_true e]; exact h)
theorem eq_parts_same {a b : Addr} {xs ys : List Value} {ps qs : List (List Str)} {n k : Nat} (e : ps = qs) (N : News h₀ L s.heap news) (ha : (a, lsO xs n) ∈ news) (hb : (b, lsO ys k) ∈ news) (hi : PartsIn news xs ps) (hj : PartsIn news ys qs) (ho1 : OkParts ps) (ho2 : OkParts qs) (hu : A.units + 64 < cLine) (h : Q (.bool true) s) :
    wpAny (model prog w) A (compareOp .Eq (.ref a) (.ref b)) Q E s := eq_parts N ha hb hi hj ho1 ho2 hu (by rw [decide_eq_true e]; exact h)
theorem ne_ints_same {x : Int} {t u : Tok} (h : Q (.bool false) s) : wpAny (model prog w) A (compareOp .NotEq (.int x t) (.int x u)) Q E s := by
  k_steps
  rw [bne_self_eq_false]
  exact h
end
theorem tld_no (b : Bool) : ((if b = true then Str.ofString "True" else Str.ofString "False") == Str.ofString "False") = !b := by cases b <;> decide
theorem eq_told {prog : Program} {w : World} {A : Around} {E : Value → Shared → Prop} {s : Shared} {Q : Value → Shared → Prop} {f g : Nat → Bool} {k : Nat} {t u : Tok} (h : Q (.bool (!(tld f g k))) s) : wpAny (model prog w) A (compareOp .Eq (.str (tldT f g k) t) (.str (Str.ofString "False") u)) Q E s := by
  k_steps
  have e : (tldT f g k == Str.ofString "False") = !(tld f g k) := tld_no _
  rw [e]
  exact h
theorem parts_two {news : List (Addr × Obj)} {a b : Addr} {xs ys : List Value} {n k : Nat} {p q : List Str} (h1 : (a, lsO xs n) ∈ news) (t1 : TextsAre xs p) (h2 : (b, lsO ys k) ∈ news) (t2 : TextsAre ys q) : PartsIn news [.ref a, .ref b] [p, q] :=
  (PartsIn.one h1 t1).append (PartsIn.one h2 t2)
theorem ok_two {p q : List Str} (h1 : OkTexts p) (h2 : OkTexts q) : OkParts [p, q] := fun ts h => by
  rcases List.mem_cons.mp h with rfl | h
  · exact h1
  · rw [List.mem_singleton.mp h]; exact h2
theorem own_new {cells nw st : List (Addr × Obj)} {D : Addr} {o : Obj} (hc : ∀ p ∈ cells, p ∈ nw) (hoff : ∀ p ∈ nw, @Ne Nat p.1 D) (hs : OwnOff st (cells.map (·.1))) : OwnOff ((D, o) :: st) (cells.map (·.1)) := by
  intro p hp b hb
  rcases List.mem_cons.mp hp with rfl | hp
  · obtain ⟨q, hq, e⟩ := List.mem_map.mp hb
    exact fun e2 => hoff q (hc q hq) (e.trans e2.symm)
  · exact hs p hp b hb
theorem name_ok {ws : List Str} (W8 : Words8 ws) (k : Nat) : JoinOk "" ((ws.take k).map fun w => Str.ofString " " ++ w) = true := joinOk_of 40 (by decide) (by rw [List.length_map, List.length_take, W8.len]; omega) (by
  intro t ht
  obtain ⟨w, hw', rfl⟩ := List.mem_map.mp ht
  have := W8.short _ (List.mem_of_mem_take hw')
  have e : (Str.ofString " " ++ w).length = (Str.ofString " ").length + w.length := cat_length _ _
  rw [e]
  have e : (Str.ofString " ").length = 1 := rfl
  omega)
end
section
theorem off_DL : True := by
  k_with_none
  trivial
open PySem PySem.W PyProof.Rows PySem.Calls
noncomputable def lastP (W H0 H1 : Nat) (ws : List Str) (k : Nat) : Int × Int := ((lastF (bg W H0 ws) k : Int) - 1, (lastF (bg W H1 ws) k : Int) - 1)
theorem tldT_ok (f g : Nat → Bool) : ∀ k, PyData.strOk (tldT f g k) = true := fun k => by
  unfold tldT
  cases tld f g k <;> decide +kernel
theorem tld_ok (f g : Nat → Bool) : OkTexts ((List.range 9).map (tldT f g)) := fun x hx => by
  obtain ⟨k, _, rfl⟩ := List.mem_map.mp hx
  exact tldT_ok f g k
theorem two_short {R1 R2 : List (Str × Bool)} (h1 : ∀ q ∈ R1, q.1.length ≤ 40) (h2 : ∀ q ∈ R2, q.1.length ≤ 40) : ∀ q ∈ R1 ++ R2, q.1.length ≤ 1000 := fun q hq =>
  Nat.le_trans ((List.mem_append.mp hq).elim (h1 q) (h2 q)) (by decide)
theorem keep_on {x : Addr × Obj} {cells st led nw : List (Addr × Obj)} (hk : ∀ p ∈ led, p ∈ nw) (hc : ∀ p ∈ cells, p ∈ led) (hs : ∀ p ∈ st, p ∈ led) : ∀ p ∈ cells ++ st, p ∈ x :: nw := fun p hp =>
  .tail _ (hk p ((List.mem_append.mp hp).elim (hc p) (hs p)))
theorem keep_new {x : Addr × Obj} {cells st led nw : List (Addr × Obj)} (hk : ∀ p ∈ led, p ∈ nw) (hc : ∀ p ∈ cells, p ∈ led) (hs : ∀ p ∈ st, p ∈ led) : ∀ p ∈ cells ++ x :: st, p ∈ x :: nw := fun p hp =>
  (List.mem_append.mp hp).elim (fun h => .tail _ (hk p (hc p h))) fun h => (List.mem_cons.mp h).elim (fun e => e ▸ .head _) fun h => .tail _ (hk p (hs p h))
theorem tld_yes (b : Bool) : ((if b = true then Str.ofString "True" else Str.ofString "False") == Str.ofString "True") = b := by cases b <;> decide
theorem eq_toldT {prog : Program} {w : World} {A : Around} {E : Value → Shared → Prop} {s : Shared} {Q : Value → Shared → Prop} {f g : Nat → Bool} {k : Nat} {t u : Tok} (h : Q (.bool (tld f g k)) s) : wpAny (model prog w) A (compareOp .Eq (.str (tldT f g k) t) (.str (Str.ofString "True") u)) Q E s := by
  k_steps
  have e : (tldT f g k == Str.ofString "True") = tld f g k := tld_yes _
  rw [e]
  exact h
theorem tldT_at {f g : Nat → Bool} {k : Nat} {x : Int} (h : x.toNat = k) (hk : k < 9) : ((List.range 9).map (tldT f g))[x.toNat]? = some (tldT f g k) := by
  rw [h, List.getElem?_map, List.getElem?_range hk]; rfl
section
variable {f g : Nat → Bool} {k : Nat}
theorem trn_no1 (h : tld f g k = true) : trn f g k = false := by unfold trn; rw [h]; rfl
theorem trn_0 (h : tld f g k = false) (h0 : (0 : Int) + (k : Int) * 1 = 0) : trn f g k = true := by
  have : k = 0 := by omega
  unfold trn
  rw [h, this]; rfl
theorem trn_yes (h : tld f g k = false) (h1 : tld f g (k - 1) = true) : trn f g k = true := by
  unfold trn
  rw [h, h1, Bool.or_true]; rfl
theorem trn_no2 (h : tld f g k = false) (h0 : ¬ (0 : Int) + (k : Int) * 1 = 0) (h1 : tld f g (k - 1) = false) : trn f g k = false := by
  have : Nat.beq k 0 = false := by
    cases k with
    | zero => exact absurd rfl h0
    | succ k => rfl
  unfold trn
  rw [h, h1, this]; rfl
end
section
variable {p : Nat → Bool} {i : Nat} {ys : List Value}
theorem cnt_yes {v : Value} (hJ : ys.length = ((List.range i).filter p).length) (h : p i = true) : (ys ++ [v]).length = ((List.range (i + 1)).filter p).length := by
  rw [List.range_succ, List.filter_append, List.length_append, List.length_append, hJ, List.filter_cons_of_pos h]; rfl
theorem cnt_no (hJ : ys.length = ((List.range i).filter p).length) (h : p i = false) : ys.length = ((List.range (i + 1)).filter p).length := by
  rw [List.range_succ, List.filter_append, List.length_append, hJ, List.filter_cons_of_neg (by rw [h]; decide)]; rfl
end
theorem ends_at {ws : List Str} (W8 : Words8 ws) {W H0 H1 : Nat} {st : List (Addr × Obj)} {a1 a2 : Addr} {us1 us2 : List Value} {n1 n2 i : Nat} {v : Value} (h1 : (a1, lsO us1 n1) ∈ st) (t1 : TextsAre us1 (agsOf W H0 ws)) (h2 : (a2, lsO us2 n2) ∈ st) (t2 : TextsAre us2 (agsOf W H1 ws))
    (hv : [Value.ref a1, Value.ref a2][i]? = some v) {C : Prop} (k : ∀ a us n A, v = .ref a → (a, lsO us n) ∈ st → TextsAre us A → A.length ≤ 8 → (keptOf (bg W H0 ws) (bg W H1 ws) ws).length ≤ A.length → A.drop (((A.length : Nat) : Int) - (((keptOf (bg W H0 ws) (bg W H1 ws) ws).length : Nat) : Int)).toNat = keptOf (bg W H0 ws) (bg W H1 ws) ws → C) : C := by
  match i, hv with
  | 0, hv => exact k a1 us1 n1 _ (Option.some.inj hv).symm h1 t1 (agsOf_len W8) (kept_le1 W8 W H0 H1) (by rw [Int.toNat_sub]; exact ends_1 W8 W H0 H1)
  | 1, hv => exact k a2 us2 n2 _ (Option.some.inj hv).symm h2 t2 (agsOf_len W8) (kept_le2 W8 W H0 H1) (by rw [Int.toNat_sub]; exact ends_2 W8 W H0 H1)
theorem led_cells {pre cells st led : List (Addr × Obj)} (h : led = pre ++ (cells ++ st)) : ∀ p ∈ cells, p ∈ led := fun _ hp => h ▸ List.mem_append_right _ (List.mem_append_left _ hp)
theorem led_st {pre cells st led : List (Addr × Obj)} (h : led = pre ++ (cells ++ st)) : ∀ p ∈ st, p ∈ led := fun _ hp => h ▸ List.mem_append_right _ (List.mem_append_right _ hp)
theorem EntV.elim {C : Prop} {P : Params} {pm : Value} {news : List (Addr × Obj)} {e : Addr} {A : List Str} {R : List (Str × Bool)} (H : EntV P pm news e A R)
    (k : ∀ d t1 t2 t3 t4 ua ru us nu rs nr, (e, instObj 59 d) ∈ news → (d, entD P t1 t2 t3 t4 ua ru) ∈ news → (ua, lsO us nu) ∈ news → (ru, lsO rs nr) ∈ news → TextsAre us A → RulesIn P pm news rs R → C) : C := by
  obtain ⟨d, t1, t2, t3, t4, ua, ru, us, nu, rs, nr, h1, h2, h3, h4, h5, h6⟩ := H
  exact k d t1 t2 t3 t4 ua ru us nu rs nr h1 h2 h3 h4 h5 h6
theorem SeamsIn.elim {C : Prop} {news : List (Addr × Obj)} {vs : List Value} {Ss : List (List Nat)} {i : Nat} {S : List Nat} {v : Value} (h : SeamsIn news vs Ss) (e : Ss[i]? = some S) (hv : vs[i]? = some v) (k : ∀ a us n, v = .ref a → (a, lsO us n) ∈ news → IntsAre us (S.map fun (x : Nat) => (x : Int)) → C) : C := by
  obtain ⟨a, us, n, h1, h2, h3⟩ := h.get i S e
  exact k a us n (Option.some.inj (hv.symm.trans h1)) h2 h3
theorem DuosIn.elim {C : Prop} {news : List (Addr × Obj)} {vs : List Value} {ps : List (Int × Int)} {i : Nat} {p : Int × Int} {v : Value} (h : DuosIn news vs ps) (e : ps[i]? = some p) (hv : vs[i]? = some v) (k : ∀ a tx ty n, v = .ref a → (a, lsO [.int p.1 tx, .int p.2 ty] n) ∈ news → C) : C := by
  obtain ⟨a, us, n, h1, h2, h3⟩ := h.get i p e
  obtain ⟨t, u, rfl⟩ := ints2 h3
  exact k a t u n (Option.some.inj (hv.symm.trans h1)) h2
theorem ints_at {C : Prop} {vs : List Value} {S : List Nat} {j : Nat} {v : Value} (h : IntsAre vs (S.map fun (x : Nat) => (x : Int))) (hv : vs[j]? = some v) (k : ∀ (p : Nat) t, v = .int ((p : Nat) : Int) t → S[j]? = some p → C) : C := by
  obtain ⟨x, t, e1, e2⟩ := ints_get h hv
  rw [List.getElem?_map] at e2
  obtain ⟨p, e3, rfl⟩ := Option.map_eq_some_iff.mp e2
  exact k p t e1 e3
theorem texts_elim {C : Prop} {vs : List Value} {ts : List Str} {j : Nat} {v : Value} (h : TextsAre vs ts) (hv : vs[j]? = some v) (k : ∀ x t, v = .str x t → ts[j]? = some x → C) : C := by
  obtain ⟨x, t, e1, e2⟩ := texts_get h hv
  exact k x t e1 e2
theorem at_some {α : Type} {C : Prop} {l : List α} {i : Nat} (h : i < l.length) (k : ∀ x, l[i]? = some x → C) : C := k _ (List.getElem?_eq_getElem h)
theorem nmd {α : Type} {C : Prop} (x : α) (k : ∀ y, y = x → C) : C := k x rfl
theorem nums_elim {C : Prop} {vs : List Value} {ns : List Int} (hl : ns.length = 11) (h : IntsAre vs ns) (hb : ∀ x ∈ ns, 0 ≤ x ∧ x ≤ 200000000)
    (k : ∀ n0 n1 n2 nr u0 u1 u2 nvs, vs = .int n0 u0 :: .int n1 u1 :: .int n2 u2 :: nvs → IntsAre (.int n0 u0 :: .int n1 u1 :: .int n2 u2 :: nvs) (n0 :: n1 :: n2 :: nr) → nr.length = 8 → nvs.length = nr.length → 0 ≤ n0 ∧ n0 ≤ 200000000 → 0 ≤ n1 ∧ n1 ≤ 200000000 → 0 ≤ n2 ∧ n2 ≤ 200000000 → C) : C := by
  obtain ⟨a, b, c, r, rfl, hr⟩ := list11 hl
  obtain ⟨t, u, v, ws, rfl, hw⟩ := ints3 h
  exact k a b c r t u v ws rfl h hr hw.length (hb a (.head _)) (hb b (.tail _ (.head _))) (hb c (.tail _ (.tail _ (.head _))))
theorem width_elim {C : Prop} {n : Int} (k : ∀ W : Nat, 3 + n.fmod 8 = (W : Int) → 3 ≤ W → W ≤ 10 → C) : C := by
  have h0 := fmod0 n (b := 8) (by decide)
  have h1 := Int.fmod_lt_of_pos n (b := 8) (by decide)
  exact k (3 + n.fmod 8).toNat (by omega) (by omega) (by omega)
theorem heads_elim {C : Prop} {vs : List Value} {a b : Int} {W : Nat} (h : IntsAre vs [a.fmod ((W : Int) + 1), b.fmod ((W : Int) + 1)]) (k : ∀ (H0 H1 : Nat) t u, vs = [.int (H0 : Int) t, .int (H1 : Int) u] → H0 ≤ W → H1 ≤ W → C) : C := by
  obtain ⟨t, u, rfl⟩ := ints2 h
  have p := fun x : Int => fmod0 x (b := (W : Int) + 1) (by omega)
  have q := fun x : Int => Int.fmod_lt_of_pos x (b := (W : Int) + 1) (by omega)
  have pa := p a
  have qa := q a
  have pb := p b
  have qb := q b
  clear p q
  exact k (a.fmod ((W : Int) + 1)).toNat (b.fmod ((W : Int) + 1)).toNat t u (by rw [Int.toNat_of_nonneg pa, Int.toNat_of_nonneg pb]) (by omega) (by omega)
theorem at_k {i : Nat} : ((0 : Int) + (i : Int) * 1).toNat = i := by omega
theorem at_pred {i : Nat} : ((0 : Int) + (i : Int) * 1 - 1).toNat = i - 1 := by omega
theorem at_3k {i : Nat} : (3 + ((0 : Int) + (i : Int) * 1)).toNat = i + 3 := by omega
theorem pred_lt {i n : Nat} (h : i < n) : i - 1 < n := Nat.lt_of_le_of_lt (Nat.sub_le i 1) h
theorem both_le {H0 H1 W H i : Nat} (h0 : H0 ≤ W) (h1 : H1 ≤ W) (h : [H0, H1][i]? = some H) : H ≤ W := by
  rcases List.mem_cons.mp (List.mem_of_getElem? h) with e | e
  · rw [e]; exact h0
  · rw [List.mem_singleton.mp e]; exact h1
end
section
theorem off_DH : True := by
  k_with_none
  trivial
open PySem PySem.W PyProof.Rows PySem.Calls
theorem on_DH0 : True := by
 k_with_none
 k_with "li" => ((try simp only [List.length_nil, List.length_append, List.length_cons, ptV_length]); k_extra "om")
 k_with "ax" => first | assumption | exact ja0 ‹_› | exact ja1 ‹_› | exact je1 ‹_› | exact ja2 ‹_› | exact ja3 ‹_› | exact ja4 ‹_› | exact ja5 ‹_› | exact je5 ‹_› | exact ja6 ‹_› | exact ja7 ‹_› | exact je7 ‹_› | exact ja8 ‹_› | exact ja9 ‹_› | exact je13 ‹_› | exact je14 ‹_›
 k_with "nx" => with_reducible (first | (refine Nat.ne_of_lt ?_; (repeat (first | exact js | refine jl ?_)); all_goals k_extra "ax") | (refine Nat.ne_of_gt ?_; (repeat (first | exact js | refine jl ?_)); all_goals k_extra "ax") | k_extra "ax" | (refine Ne.symm ?_; k_extra "ax"))
 k_with "rm" => ((with_reducible first | exact room0 ‹_› | refine room1 ‹_› ?_ | refine room2 ‹_› ?_ | refine room3 ‹_› ?_ | refine room4 ‹_› ?_); all_goals exact rfl)
 k_with "om" => first | (with_reducible first | k_extra "ax" | exact jn ‹_› | exact jn (ja0 ‹_›) | (refine Nat.lt_trans ?_ ‹_›; k_extra "ax")) | decide | omega
 k_with "hk" => (with_reducible first | (refine hKq _ _ ?_; clear hKq; (try clear Kq)) | (refine hKt _ _ ?_; clear hKt; (try clear Kt)) | (refine hK0 _ _ ?_; clear hK0; (try clear K0)))
 k_with "q:k_ne" => (refine neN ?_; (try dsimp only); first | k_extra "nx" | omega)
 k_with "q:sub9" => row_timed "f" (fail; (repeat' (first | (refine fm (by k_mem) ?_) | exact List.forall_mem_nil _ | (intro pZ hpZ; (repeat (first | with_reducible_and_instances exact hpZ | with_reducible_and_instances exact List.mem_append_right _ hpZ | refine List.Mem.tail _ ?_)); done) | exact fun _ hpZ => hpZ | (intro pZ hpZ; (repeat (first | exact hpZ | exact List.mem_append_right _ hpZ | refine List.Mem.tail _ ?_))))))
 k_with "q:steps9" => row_timed "f" (fail; (repeat' (first | (k_extra "hk"; (try dsimp only)) | (k_unfold; (try dsimp only)) | walk1 | (dsimp only; walk1) | (leave1; walk_say "STEP leave1"; try dsimp only))))
 k_with "q:k_room" => row_timed "f" (fail; ((try simp only [depth_under_make, depth_under_kw, depth_in1, depth_deeper]); (try dsimp only); first | k_extra "rm" | omega))
 k_with "q:k_units" => row_timed "f" (fail; ((try simp only [Around.deeper_units, Around.in1_units, Around.mark_units]); (try dsimp only); first | k_extra "rm" | omega))
 k_with "q:k_mem" => row_timed "f" (fail; (with_reducible_and_instances (repeat (first | exact List.Mem.head _ | refine List.Mem.tail _ ?_)); done))
 k_with "q:subscriptTail" => row_timed "f" (fail; (k_here; (with_reducible show wpAny _ _ (subscriptTail _ _ (Value.ref _) (Value.int _ _)) _ _ _); k_dflt (refine' item_T ?NZ ?hlZ ?hTZ ?h0Z ?hiZ ?hxZ ?_ ?slZ; (case NZ => k_asm); (case hlZ => k_mem); (case hTZ => k_asm); (case h0Z | hiZ => (k_extra "li")); (case hxZ => first | assumption | exact rfl); (case slZ => with_unfolding_all rfl); k_whole); intro t'Z))
 k_with "q:eval Name" => row_timed "f" (fail; (k_here; (with_reducible show wpAny _ _ (eval (Expr.Name _ _) (compEnvC _ _ _ _)) _ _ _); k_dflt (refine' lcf_cell ?NZ ?cZ ?mZ ?dZ ?_ ?aZ ?bZ; (case aZ => rfl); (case bZ => kernel_rfl); (case NZ => k_asm); (case cZ => rfl); (case mZ => k_mem); (case dZ => first | rfl | k_asm); k_whole)))
 k_with "q:eval Name" => row_timed "f" (fail; (k_here; (with_reducible show wpAny _ _ (eval (Expr.Name _ _) (compEnvC _ _ _ _)) _ _ _); k_dflt (refine LCgL.ld_own (by k_asm) (by k_mem) (by assumption) (by assumption) ?_)))
 k_with "q:eval ListComp" => row_timed "f" (fail; (k_here; (refine hold ?_)))
 k_with "q:exec Assign cons ListComp" => row_timed "f" (fail; (k_here; (refine hold ?_)))
 k_with "q:exec Assign cons ListComp" => row_timed "f" (fail; (k_here; k_dflt (refine wpAny_Assign_Name ?_)))
 k_with "q:subscriptTail Name Slice ref ref" => row_timed "f" (fail; (k_here; (with_reducible show wpAny _ _ (subscriptTail _ _ (Value.ref _) (Value.ref _)) _ _ _); k_dflt (refine' slice_run_V ?FZ ?NZ ?lZ ?h0Z ?h1Z ?habZ ?h2Z ?_ ?sZ ?tZ; (case FZ | NZ => k_asm); (case lZ => k_mem); (case h0Z => k_extra "om"); (case h1Z => (simp only [List.length_cons]; k_extra "om")); (case habZ => k_extra "om"); (case h2Z => (simp only [List.length_cons]; k_extra "om")); (case sZ => with_unfolding_all rfl); (case tZ => intro _; rfl); k_whole); intro D'Z h'Z F'Z N'Z l1Z; (try k_lt l1Z)))
 k_with "q:binaryOp Mult str int" => row_timed "f" (fail; (k_here; k_dflt (refine SB.mul (mulOk_of 16 16 (by exact Nat.le_of_ble_eq_true rfl) (by k_extra "om") (by k_extra "om") (by decide) (by decide)) ?_); intro _ _))
 k_with "q:call ref" => row_timed "f" (fail; (k_here; (refine hold ?_)))
 k_with "q:k_all" => row_timed "f" (fail; (refine' OwnOff.ne ?kaAZ ?kaBZ; (case kaAZ => with_reducible assumption); (case kaBZ => (repeat (first | exact List.Mem.head _ | refine List.Mem.tail _ ?_)))))
 k_with "q:tl9" => row_timed "f" (fail; (repeat (first | with_reducible_and_instances exact hp | refine List.Mem.tail _ ?_)))
 k_with "q:EndP" => row_timed "f" (fail; (refine hold ?_))
 k_with "q:subscriptTail Name Slice ref ref" => row_timed "f" (fail; (k_here; (with_reducible show wpAny _ _ (subscriptTail _ _ (Value.ref _) (Value.ref _)) _ _ _); k_dflt (refine' slice_upto_T ?FZ ?NZ ?lZ ?TZ ?h0Z ?h1Z ?h2Z ?_ ?sZ ?tZ; (case FZ | NZ => k_asm); (case lZ => k_mem); (case TZ => k_asm); (case h0Z | h1Z | h2Z => (k_extra "li")); (case sZ => with_unfolding_all rfl); (case tZ => intro _; rfl); k_whole); intro D'Z ws'Z h'Z F'Z N'Z l1Z hT'Z; (try k_lt l1Z)))
 k_with "q:call builtin:str.join" => row_timed "f" (fail; (k_here; k_dflt (refine' join_K ?NZ ?hDZ ?htZ ?hokZ ?_; (case NZ => k_asm); (case hDZ => k_mem); (case htZ => first | assumption | exact TextsAre.snoc (by assumption)); (case hokZ => assumption); k_whole); intro t'Z k'Z))
 k_with "q:call builtin:max" => row_timed "f" (fail; (k_here; (with_reducible show wpAny _ _ (call (Value.builtin "max") [Value.ref _]) _ _ _); k_dflt (refine' max_V ?hhZ ?FZ ?NZ ?hlZ ?hiZ ?hneZ ?_; (case hhZ => rfl); (case FZ | NZ => k_asm); (case hlZ => k_mem); (case hiZ => exact ints_app (.cons _ _ .nil) (by assumption)); (case hneZ => (simp only [List.length_append, List.length_cons]; k_extra "om")); k_whole); intro h'Z M'Z t'Z tk'Z F'Z N'Z hM1'Z hM2'Z))
 k_with "q:binaryOp Add ref ref" => row_timed "f" (fail; (k_here; k_dflt (refine' addls_V ?FZ ?NZ ?hlZ ?hbZ ?hzZ ?_; (case FZ | NZ => k_asm); (case hlZ | hbZ => k_mem); (case hzZ => (simp only [List.length_cons, List.length_nil]; k_extra "om")); k_whole); intro D'Z h'Z F'Z N'Z l1Z; (try k_lt l1Z)))
 k_with "q:call type:str" => row_timed "f" (fail; (k_here; (with_reducible show wpAny _ _ (call (Value.type "str") [Value.bool _]) _ _ _); k_dflt (refine P.str_of_bool ?_)))
 k_with "q:compareOp NotEq ref ref" => row_timed "f" (fail; (k_here; k_dflt (refine' ne_texts_same ?eZ ?NZ ?haZ ?hbZ ?hiZ ?hjZ ?oaZ ?obZ ?huZ ?_; (case NZ => k_asm); (case haZ | hbZ => k_mem); (case hiZ | hjZ => k_asm); (case eZ => rfl); (case oaZ | obZ => assumption); (case huZ => k_units); k_whole)))
 k_with "q:compareOp Eq str str" => row_timed "f" (fail; (k_here; first | with_reducible refine eq_told ?_ | with_reducible refine eq_toldT ?_))
 k_with "q:compareOp NotEq int int" => row_timed "f" (fail; (k_here; with_reducible refine ne_ints_same ?_))
 k_with "q:call builtin:len" => row_timed "f" (fail; (k_here; (with_reducible show wpAny _ _ (call (Value.builtin "len") [Value.ref _]) _ _ _); k_dflt (refine' len_V ?NZ ?hlZ ?hkZ ?hzZ ?_; (case NZ => k_asm); (case hlZ => k_mem); (case hkZ => assumption); (case hzZ => k_extra "om"); k_whole); intro t'Z k'Z))
 k_with "q:subscriptTail Name Slice ref ref" => row_timed "f" (fail; (k_here; (with_reducible show wpAny _ _ (subscriptTail _ _ (Value.ref _) (Value.ref _)) _ _ _); k_dflt (refine' slice_from_T ?FZ ?NZ ?lZ ?TZ ?h0Z ?h1Z ?h2Z ?_ ?sZ ?tZ; (case FZ | NZ => k_asm); (case lZ => k_mem); (case TZ => k_asm); (case h0Z | h1Z | h2Z => k_extra "om"); (case sZ => with_unfolding_all rfl); (case tZ => intro _; rfl); k_whole); intro D'Z ws'Z h'Z F'Z N'Z l1Z hT'Z; (try k_lt l1Z)))
 k_with "q:compareOp Eq ref ref" => row_timed "f" (fail; (k_here; (refine hold ?_)))
 trivial
theorem t1 : PySem.Challenge.rw_wn0107_02.Holds := hd (by
  k_fill
  intro w s₀ s₁ mg mb G Y fa o pm cd doc dV kV ho hd hcd hD hmg hg args vals as hpre hlay hrd hwl hlo
  have KX := km_in_of Y
  have hT8 := km_tabs_of Y
  have X := (Ground.X G).1
  have V := (Ground.X G).2
  refine Ground.open G ?_
  intro T B D TE TW
  have hT9 : TabsAt [(193,189),(200,196),(244,240)] s₁.heap := fm ⟨codeHd_of_K (c := 193) (P := 189) KX (by kernel_rfl), hT8 189 (by k_mem)⟩ (fm ⟨codeHd_of_K (c := 200) (P := 196) KX (by kernel_rfl), hT8 196 (by k_mem)⟩ (fm ⟨codeHd_of_K (c := 244) (P := 240) KX (by kernel_rfl), hT8 240 (by k_mem)⟩ (fun _ h => absurd h List.not_mem_nil)))
  clear hmg
  wrow_args hpre hlay hrd hwl hlo
  refine enter_call ?_
  w_top on
  refine post_B hT9 ?_
  w_call any ho hd hcd hD T F
  clear hd
  kn_ghosts F T
  k_drop
  (try dsimp only)
  refine wp_gen ?_
  intro K0 E0 hK0 hE0
  walk_at "steps9"
  show wpAny _ _ _ _ _ _
  exact by
   rename IntsAre _ _ => hI
   rename ¬ _ < _ => hlen
   have hlen' := hlen
   rename Heap.IsList _ _ _ => hS
   rename News _ _ _ _ => N0
   refine ex_obj8 N0 ?_
   rintro o8 o7 o6 o5 o4 o3 o2 o1 rfl rfl rfl rfl rfl rfl rfl rfl
   exact by
    rename o8.data = _ => e8
    rename o7.data = _ => e7
    rename o6.data = _ => e6
    rename o5.data = _ => e5
    rename o4.data = _ => e4
    rename o3.data = _ => e3
    rename o2.data = _ => e2
    rename o1.data = _ => e1
    have d8 : o8.data = .cell none := e8
    have d7 : o7.data = .cell none := e7
    have d6 : o6.data = .cell none := e6
    have d5 : o5.data = .cell none := e5
    have d4 : o4.data = .cell none := e4
    have d3 : o3.data = .cell none := e3
    have d2 : o2.data = .cell none := e2
    have d1 : o1.data = .cell none := e1
    clear e1 e2 e3 e4 e5 e6 e7 e8
    generalize s₁.heap.objs.size = S0 at *
    generalize hgh : ghostOf s₁.heap [(193, 189), (200, 196), (244, 240)] = hh9 at *
    generalize hdr : s₁.drawn = dr9 at *
    generalize hos : s₁.os = os9 at *
    refine numbers_in (by k_asm) (by k_asm) (by k_asm) (by k_asm) (by exact rfl) (by exact rfl) N0 hS hI (by k_extra "om") (AllBare.of_eq hg) (by k_room) (by k_units) ?_
    intro h9 tk9 gs9 nl ns9 ns c F9 G9 N9 hns hl11 hb hfr
    refine ex_fr F9 ?_
    intro mB hmB FB
    exact by
     clear N0 F9 hmB
     k_lt hfr
     have g189 : @LT.lt Nat _ 189 S0 := by k_extra "ax"
     have g196 : @LT.lt Nat _ 196 S0 := by k_extra "ax"
     have g240 : @LT.lt Nat _ 240 S0 := by k_extra "ax"
     refine nums_elim hl11 hns hb fun n0 n1 n2 nr u0 u1 u2 nvs hv9 hns' hnr hnl hb0 hb1 hb2 => ?_
     rw [hv9] at N9
     have hm0 := fmod0 n0 (b := 8) (by decide)
     have hm1 := Int.fmod_lt_of_pos n0 (b := 8) (by decide)
     clear hl11 hns hb hv9
     (try dsimp only)
     walk_at "steps9"
     show wpAny _ _ _ _ _ _
     exact by
      rename News _ _ _ _ => N9
      refine ex_c8 N9 ?_
      rintro nl o8 o7 o6 o5 o4 o3 oW oN rfl rfl rfl rfl rfl rfl rfl rfl rfl
      rename oN.data = _ => dN
      rename oW.data = _ => dW
      refine width_elim (n := n0) fun W hW hW3 hW10 => ?_
      have hW' : 3 + ((n0 :: n1 :: n2 :: nr).getD (Int.toNat 0) 0).fmod 8 = ((W : Nat) : Int) := hW
      rw [hW'] at dW
      clear hW hW' hm0 hm1
      have dN' : oN.data = .cell (some (.ref nl)) := dN
      have dW' : ∃ t, oW.data = .cell (some (.int ((W : Nat) : Int) t)) := ⟨_, dW⟩
      refine dW'.elim fun tW dW9 => ?_
      clear dN dW dW'
      exact by
       refine' comp_assign (B := BName "n") (cl := [(Str.ofString "width", S0 + 1 + 1)]) ?cF ?cL ?csw ?ccl ?cce ?cki ?cna ?cas ?chy ?chp ?_ ?chs
       case cF => k_asm
       case cL => exact rfl
       case csw => kernel_rfl
       case ccl => kernel_rfl
       case cce => decide
       case cki => rfl
       case cna => decide
       case cas => exact fun C => asg_name (by rfl) (by rfl)
       case chy => kernel_rfl
       case chp => kernel_rfl
       case chs => intro _; kernel_rfl
       walk_at "steps9"
       exact by
        rename News _ _ _ _ => N9
        refine ex_led N9 ?_
        intro led hled N9'
        have hIh : IntsAre [.int n1 u1, .int n2 u2] [n1, n2] := .cons _ _ (.cons _ _ .nil)
        have hmW : (S0 + 1 + 1, oW) ∈ led := by rw [hled]; k_mem
        refine' SrcG.of (fun i ys nw => IntsAre ys (([n1, n2].map fun x => x.fmod ((W : Int) + 1)).take i) ∧ ∀ p ∈ led, p ∈ nw) ?W ?F ?N ?G ?S ?J0 ?B ?turn ?fin
        case W => exact src_list (vs := [.int n1 u1, .int n2 u2]) (by rfl) N9' (by rw [hled]; exact .head _) (by simp)
        case F => k_asm
        case N => exact N9'
        case G => exact G9
        case S => rw [hled]; exact .head _
        case J0 => exact ⟨.nil, fun p hp => hp⟩
        case B => exact fun i v ys news _ _ _ => ⟨_, rfl⟩
        case turn =>
          refine turn_plain ?_
          rintro i v bs ys nw I oI C oC D2 mC h9 tk9 gs9 E' hi hv rfl ⟨hJ, hkeep⟩ hsrc G9 hNs hm2 F9 N10 off three hyl
          refine wp_gen ?_
          intro Kt Et hKt hEt
          exact by
           refine (ints_get hIh hv).elim fun x q => q.elim fun tx q => ?_
           have hn9 := hm2 "n" _ rfl
           rw [q.1] at hn9
           have hx0 : ([n1, n2].map fun x => x.fmod ((W : Int) + 1))[i]? = some (x.fmod ((W : Int) + 1)) := by rw [List.getElem?_map, q.2]; rfl
           have N11 := subN (b := (I, oI) :: (C, oC) :: (D2, lsO ys ys.length) :: (S0 + 1 + 1, oW) :: nw) N10 (by
             exact fm (.head _) (fm (.tail _ (.head _)) (fm (.tail _ (.tail _ (.head _))) (fm (.tail _ (.tail _ (.tail _ (hkeep _ hmW)))) (fun p hp => .tail _ (.tail _ (.tail _ hp)))))))
           clear N9 N9'
           (try dsimp only)
           walk_at "steps9"
           exact by
            (try refine hKt _ _ ?_)
            show EndG _ _ _ _ _ _ _ _ _ _ _ _ _
            refine EndG.same G9 F9 N10 (fun b o e => e) off hsrc ⟨?_, hkeep⟩
            rw [List.take_add_one, hx0]
            exact ints_snoc hJ _ _
        case fin =>
          rintro hl hvs nw h9 tk9 gs9 ⟨hJ, hkeep⟩ G9 F9 N10 hoff
          exact by
           refine heads_elim hJ fun H0 H1 th0 th1 q' hW0 hW1 => ?_
           rw [q'] at N10
           have hcl := led_cells (pre := [_, _]) (cells := [_, _, _, _, _, _, _, _, _, _, _]) (st := []) hled
           have hnl : (nl, lsO (.int n0 u0 :: .int n1 u1 :: .int n2 u2 :: nvs) c) ∈ led := by rw [hled]; k_mem
           have hn3 : @Ne Nat (S0 + 1 + 1 + 1) hl := hoff _ (hkeep _ (hcl (S0 + 1 + 1 + 1, o3) (by k_mem)))
           have hn4 : @Ne Nat (S0 + 1 + 1 + 1 + 1) hl := hoff _ (hkeep _ (hcl (S0 + 1 + 1 + 1 + 1, o4) (by k_mem)))
           have N11 := subN (b := (hl, lsO [.int ((H0 : Nat) : Int) th0, .int ((H1 : Nat) : Int) th1] 2) :: (nl, lsO (.int n0 u0 :: .int n1 u1 :: .int n2 u2 :: nvs) c) :: (S0 + 1 + 1 + 1 + 1 + 1 + 1 + 1 + 1, o8) :: (S0 + 1 + 1 + 1 + 1 + 1 + 1 + 1, o7) :: (S0 + 1 + 1 + 1 + 1 + 1 + 1, o6) :: (S0 + 1 + 1 + 1 + 1 + 1, o5) :: (S0 + 1 + 1 + 1 + 1, o4) :: (S0 + 1 + 1 + 1, o3) :: (S0 + 1 + 1, oW) :: (S0 + 1, oN) :: (189, tabObj #[]) :: (196, tabObj #[]) :: (240, tabObj #[]) :: []) N10 (fm (.head _) (fm (.tail _ (hkeep _ hnl)) (keep_on (cells := [_, _, _, _, _, _, _, _, _, _, _]) hkeep hcl fun _ h => absurd h List.not_mem_nil)))
           clear N9 N9' N10 hled hkeep hmW hcl hnl hoff
           (repeat (rename _ < _ ∧ _ => hz9; clear hz9))
           exact by
            (try dsimp only)
            walk_at "steps9"
            exact by
             refine comp_gen (B := BName "k") (by k_asm) (by with_unfolding_all rfl) (by decide) (by rfl) (by decide) (fun C => asg_name (by rfl) (by rfl)) ?_
             walk_at "steps9"
             exact by
              rename News _ _ _ _ => N9
              refine ex_led N9 ?_
              intro led hled N9'
              have hmN : (S0 + 1, oN) ∈ led := by rw [hled]; k_mem
              have hmn : (nl, lsO (.int n0 u0 :: .int n1 u1 :: .int n2 u2 :: nvs) c) ∈ led := by rw [hled]; k_mem
              refine' SrcG.of (fun i ys nw => TextsAre ys ((List.range i).map (wordE nr)) ∧ ∀ p ∈ led, p ∈ nw) ?W ?F ?N ?G ?S ?J0 ?B ?turn2 ?fin2
              case W => exact src_range (by rfl) (by assumption) (small_one (by decide) (by decide) (by decide) (by decide)) (rangeSize_nat _ _) (by decide)
              case F => k_asm
              case N => exact N9'
              case G => exact G9
              case S => trivial
              case J0 => exact ⟨by simpa using TextsAre.nil, fun p hp => hp⟩
              case B => exact fun i v ys news _ _ _ => ⟨_, rfl⟩
              case turn2 =>
                refine turn_plain ?_
                rintro i v bs ys nw I oI C oC D2 mC h9 tk9 gs9 E' hi ⟨t, rfl⟩ rfl ⟨hJ, hkeep⟩ hsrc G9 hNs hm2 F9 N10 off three hyl
                refine wp_gen ?_
                intro Kt Et hKt hEt
                exact by
                 have hi8 : i < 8 := hi
                 have hn9 := hm2 "k" _ rfl
                 refine at_some (l := nr) (by rw [hnr]; exact hi8) fun x hx => ?_
                 have hX : (n0 :: n1 :: n2 :: nr).getD (3 + (0 + (i : Int) * 1)).toNat 0 = nr.getD i 0 := by
                   rw [at_3k]
                   rfl
                 have hf0 := fmod0 ((n0 :: n1 :: n2 :: nr).getD (3 + (0 + (i : Int) * 1)).toNat 0) (b := 4) (by decide)
                 have hf1 := Int.fmod_lt_of_pos ((n0 :: n1 :: n2 :: nr).getD (3 + (0 + (i : Int) * 1)).toNat 0) (b := 4) (by decide)
                 have N11 := subN (b := (I, oI) :: (C, oC) :: (D2, lsO ys ys.length) :: (S0 + 1, oN) :: (nl, lsO (.int n0 u0 :: .int n1 u1 :: .int n2 u2 :: nvs) c) :: nw) N10 (by
                   exact fm (.head _) (fm (.tail _ (.head _)) (fm (.tail _ (.tail _ (.head _))) (fm (.tail _ (.tail _ (.tail _ (hkeep _ hmN)))) (fm (.tail _ (.tail _ (.tail _ (hkeep _ hmn)))) (fun p hp => .tail _ (.tail _ (.tail _ hp))))))))
                 clear N9 N9'
                 (try dsimp only)
                 walk_at "steps9"
                 exact by
                  (try refine hKt _ _ ?_)
                  show EndG _ _ _ _ _ _ _ _ _ _ _ _ _
                  refine EndG.same G9 F9 N10 (fun b o e => e) off hsrc ⟨?_, hkeep⟩
                  rw [List.range_succ, List.map_append, List.map_singleton]
                  rw [hX]
                  exact TextsAre.snoc hJ
              case fin2 =>
                rintro wl wvs nw h9 tk9 gs9 ⟨hJ, hkeep⟩ G9 F9 N10 hoff
                exact by
                 have hJ' : TextsAre wvs ((List.range 8).map (wordE nr)) := hJ
                 have W8 := words8 nr
                 generalize hws : (List.range 8).map (wordE nr) = ws at hJ' W8
                 have hwv : wvs.length = 8 := by rw [hJ'.length, W8.len]
                 have hcl := led_cells (pre := [_, _]) (cells := [_, _, _, _, _, _, _, _, _, _, _]) (st := []) hled
                 have hhl : (hl, lsO [.int ((H0 : Nat) : Int) th0, .int ((H1 : Nat) : Int) th1] 2) ∈ led := by rw [hled]; k_mem
                 have hw3 : @Ne Nat (S0 + 1 + 1 + 1) wl := hoff _ (hkeep _ (hcl (S0 + 1 + 1 + 1, o3) (by k_mem)))
                 have hw4 : @Ne Nat (S0 + 1 + 1 + 1 + 1) wl := hoff _ (hkeep _ (hcl (S0 + 1 + 1 + 1 + 1, o4) (by k_mem)))
                 have N11 := subN (b := (wl, lsO wvs wvs.length) :: (hl, lsO [.int ((H0 : Nat) : Int) th0, .int ((H1 : Nat) : Int) th1] 2) :: (S0 + 1 + 1 + 1 + 1 + 1 + 1 + 1 + 1, o8) :: (S0 + 1 + 1 + 1 + 1 + 1 + 1 + 1, o7) :: (S0 + 1 + 1 + 1 + 1 + 1 + 1, o6) :: (S0 + 1 + 1 + 1 + 1 + 1, o5) :: (S0 + 1 + 1 + 1 + 1, o4) :: (S0 + 1 + 1 + 1, o3) :: (S0 + 1 + 1, oW) :: (S0 + 1, oN) :: (189, tabObj #[]) :: (196, tabObj #[]) :: (240, tabObj #[]) :: []) N10 (fm (.head _) (fm (.tail _ (hkeep _ hhl)) (keep_on (cells := [_, _, _, _, _, _, _, _, _, _, _]) hkeep hcl fun _ h => absurd h List.not_mem_nil)))
                 clear N9 N9' N10 hled hkeep hJ hmN hmn hcl hhl hoff hI
                 (repeat (rename _ < _ ∧ _ => hz9; clear hz9))
                 exact by
                  (try dsimp only)
                  walk_at "steps9"
                  exact by
                   rename News _ _ _ _ => N9
                   rename Obj => oD
                   rename oD.data = _ => dD
                   refine comp_gen (B := BName "head") (by k_asm) (by with_unfolding_all rfl) (by decide) (by rfl) (by decide) (fun C => asg_name (by rfl) (by rfl)) ?_
                   walk_at "steps9"
                   exact by
                    rename News _ _ _ _ => N9
                    refine ex_led N9 ?_
                    intro led hled N9'
                    have hmW : (S0 + 1 + 1, oW) ∈ led := by rw [hled]; k_mem
                    have hmD : (S0 + 1 + 1 + 1, oD) ∈ led := by rw [hled]; k_mem
                    have hml : (wl, lsO wvs wvs.length) ∈ led := by rw [hled]; k_mem
                    have hIh : IntsAre [.int ((H0 : Nat) : Int) th0, .int ((H1 : Nat) : Int) th1] ([H0, H1].map fun (x : Nat) => (x : Int)) := .cons _ _ (.cons _ _ .nil)
                    refine' SrcG.of (fun i ys nw => SeamsIn nw ys (([H0, H1].map fun H => seams W H ws).take i) ∧ ∀ p ∈ led, p ∈ nw) ?W ?F ?N ?G ?S ?J0 ?B ?turn3 ?fin3
                    case W => exact src_list (vs := [.int ((H0 : Nat) : Int) th0, .int ((H1 : Nat) : Int) th1]) (by rfl) N9' (by rw [hled]; k_mem) (by simp)
                    case F => k_asm
                    case N => exact N9'
                    case G => exact G9
                    case S => rw [hled]; k_mem
                    case J0 => exact ⟨SeamsIn.nil, fun p hp => hp⟩
                    case B => exact fun i v ys news _ _ _ => ⟨_, rfl⟩
                    case turn3 =>
                      refine turn_plain ?_
                      rintro i v bs ys nw I oI C oC D2 mC h9 tk9 gs9 E' hi hv rfl ⟨hJ, hkeep⟩ hsrc G9 hNs hm2 F9 N10 off three hyl
                      refine wp_gen ?_
                      intro Kt Et hKt hEt
                      exact by
                       refine ints_at hIh hv fun H tx ex hH => ?_
                       have hn9 := hm2 "head" _ rfl
                       rw [ex] at hn9
                       have hHW := both_le hW0 hW1 hH
                       have hSx : ([H0, H1].map fun H => seams W H ws)[i]? = some (seams W H ws) := by rw [List.getElem?_map, hH]; rfl
                       have N11 := subN (b := (I, oI) :: (C, oC) :: (D2, lsO ys ys.length) :: (S0 + 1 + 1, oW) :: (S0 + 1 + 1 + 1, oD) :: (wl, lsO wvs wvs.length) :: nw) N10 (by
                         exact fm (.head _) (fm (.tail _ (.head _)) (fm (.tail _ (.tail _ (.head _))) (fm (.tail _ (.tail _ (.tail _ (hkeep _ hmW)))) (fm (.tail _ (.tail _ (.tail _ (hkeep _ hmD)))) (fm (.tail _ (.tail _ (.tail _ (hkeep _ hml)))) (fun p hp => .tail _ (.tail _ (.tail _ hp)))))))))
                       clear N9 N9'
                       (try dsimp only)
                       walk_at "steps9"
                       exact by
                        show wpAny _ _ _ _ _ _
                        rename News _ _ _ _ => N12
                        refine seams_in (by k_asm) (by k_asm) (by k_asm) (by k_asm) (by exact rfl) (by exact rfl) (wl := wl) (n9 := wvs.length) (own := (I, oI) :: (C, oC) :: (D2, lsO ys ys.length) :: nw) (subN N12 (fm (.tail _ (.tail _ (.tail _ (.tail _ (.tail _ (.head _)))))) (fm (.head _) (fm (.tail _ (.head _)) (fm (.tail _ (.tail _ (.head _))) fun p hp => .tail _ (.tail _ (.tail _ (.tail _ (.tail _ (.tail _ hp)))))))))) hJ' hHW (by k_extra "om") (by rw [W8.len]; decide) W8.short G9 (by k_room) (by k_units) ?_
                        intro h8 tk8 gs8 sl svs sn F8 G8 N13 hIs hlt
                        (try refine hKt _ _ ?_)
                        show EndG _ _ _ _ _ _ _ _ _ _ _ _ _
                        refine' EndG.of ((sl, lsO svs sn) :: nw) G8 F8 N13 ?sub ?off (.tail _ hsrc) ⟨?_, fun p hp => .tail _ (hkeep p hp)⟩
                        case sub => exact fm (.tail _ (.tail _ (.head _))) (fm (.tail _ (.tail _ (.tail _ (.head _)))) (fm (.tail _ (.tail _ (.tail _ (.tail _ (.head _))))) (fm (.head _) fun p hp => .tail _ (.tail _ (.tail _ (.tail _ (.tail _ hp)))))))
                        case off => exact fm ⟨Nat.ne_of_gt (hlt (I, oI) (.tail _ (.head _))), Nat.ne_of_gt (hlt (C, oC) (.tail _ (.tail _ (.head _)))), Nat.ne_of_gt (hlt (D2, lsO ys ys.length) (.tail _ (.tail _ (.tail _ (.head _)))))⟩ off
                        rw [List.take_add_one, hSx]
                        exact (hJ.mono fun p hp => .tail _ hp).snoc (.head _) hIs
                    case fin3 =>
                      rintro ml mvs nw h9 tk9 gs9 ⟨hJ, hkeep⟩ G9 F9 N10 hoff
                      exact by
                       have hml9 : mvs.length = 2 := hJ.len
                       have hcl := led_cells (pre := [_, _]) (cells := [_, _, _, _, _, _, _, _, _, _, _]) (st := []) hled
                       have hhl : (hl, lsO [.int ((H0 : Nat) : Int) th0, .int ((H1 : Nat) : Int) th1] 2) ∈ led := by rw [hled]; k_mem
                       refine (law_split8S N10 (fun p hp => .tail _ (hkeep p (hcl p hp))) ⟨_, d8⟩ ⟨_, d7⟩ ⟨_, d6⟩ ⟨_, d5⟩ ⟨_, d4⟩ ⟨_, dD⟩ ⟨_, dW9⟩ ⟨_, dN'⟩ tabOk_nil tabOk_nil).elim fun st q => ?_
                       have hso := q.1
                       have hss := q.2.2.1
                       have N11 := q.2.2.2
                       have hwst : (wl, lsO wvs wvs.length) ∈ st := hss _ (.tail _ (hkeep _ hml)) still_list
                       have hhst : (hl, lsO [.int ((H0 : Nat) : Int) th0, .int ((H1 : Nat) : Int) th1] 2) ∈ st := hss _ (.tail _ (hkeep _ hhl)) still_list
                       have hmst : (ml, lsO mvs mvs.length) ∈ st := hss _ (.head _) still_list
                       have hJ2 : SeamsIn st mvs [seams W H0 ws, seams W H1 ws] := ⟨hJ.len, fun i S e => (hJ.get i S e).elim fun a z => z.elim fun us z => z.elim fun n z => ⟨a, us, n, z.1, hss _ (.tail _ z.2.1) still_list, z.2.2⟩⟩
                       clear N9 N9' N10 hled hkeep hJ hcl q
                       have N12 := subN (b := (wl, lsO wvs wvs.length) :: (hl, lsO [.int ((H0 : Nat) : Int) th0, .int ((H1 : Nat) : Int) th1] 2) :: (S0 + 1 + 1 + 1 + 1 + 1 + 1 + 1 + 1, o8) :: (S0 + 1 + 1 + 1 + 1 + 1 + 1 + 1, o7) :: (S0 + 1 + 1 + 1 + 1 + 1 + 1, o6) :: (S0 + 1 + 1 + 1 + 1 + 1, o5) :: (S0 + 1 + 1 + 1 + 1, o4) :: (S0 + 1 + 1 + 1, oD) :: (S0 + 1 + 1, oW) :: (S0 + 1, oN) :: (189, tabObj #[]) :: (196, tabObj #[]) :: (240, tabObj #[]) :: st) N11 (by
                         have e1 := hwst
                         have e2 := hhst
                         intro p hp
                         rcases List.mem_cons.mp hp with hp | hp
                         · rw [hp]; exact .tail _ (.tail _ (.tail _ (.tail _ (.tail _ (.tail _ (.tail _ (.tail _ (.tail _ (.tail _ (.tail _ e1))))))))))
                         · rcases List.mem_cons.mp hp with hp | hp
                           · rw [hp]; exact .tail _ (.tail _ (.tail _ (.tail _ (.tail _ (.tail _ (.tail _ (.tail _ (.tail _ (.tail _ (.tail _ e2))))))))))
                           · exact hp)
                       clear N11
                       exact by
                        (try dsimp only)
                        walk_at "steps9"
                        exact by
                         show wpAny _ _ _ _ _ _
                         rename News _ _ _ _ => N9
                         rename Obj => oS
                         rename oS.data = _ => dS
                         have R0 := rec2 W8 hW10 hW0
                         have R1 := rec2 W8 hW10 hW1
                         have eH0 : (List.map (fun (x : Nat) => (x : Int)) [H0, H1]).getD (Int.toNat 0) 0 = ((H0 : Nat) : Int) := rfl
                         rw [eH0]
                         have l3 : @LT.lt Nat _ 240 S0 := by k_extra "ax"
                         have hbo : ∀ p ∈ (S0 + 1 + 1 + 1 + 1 + 1 + 1 + 1 + 1, o8) :: (S0 + 1 + 1 + 1 + 1 + 1 + 1 + 1, o7) :: (S0 + 1 + 1 + 1 + 1 + 1 + 1, o6) :: (S0 + 1 + 1 + 1 + 1 + 1, o5) :: (S0 + 1 + 1 + 1 + 1, oS) :: (S0 + 1 + 1 + 1, oD) :: (S0 + 1 + 1, oW) :: (S0 + 1, oN) :: st, @Ne Nat p.1 189 ∧ @Ne Nat p.1 196 ∧ @Ne Nat p.1 240 := cells_far l3 hso
                         have hwo := off_of hso _ hwst
                         have hho := off_of hso _ hhst
                         refine record_in (by k_asm) (by k_asm) (by k_asm) (by k_asm) (by exact rfl) (by exact rfl) (wl := wl) (n := wvs.length) (o1 := tabObj #[]) (o2 := tabObj #[]) (ps := #[]) (kw := []) (own := (S0 + 1 + 1 + 1 + 1 + 1 + 1 + 1 + 1, o8) :: (S0 + 1 + 1 + 1 + 1 + 1 + 1 + 1, o7) :: (S0 + 1 + 1 + 1 + 1 + 1 + 1, o6) :: (S0 + 1 + 1 + 1 + 1 + 1, o5) :: (S0 + 1 + 1 + 1 + 1, oS) :: (S0 + 1 + 1 + 1, oD) :: (S0 + 1 + 1, oW) :: (S0 + 1, oN) :: st) (subN N9 (rec_led (x := (hl, _)))) hJ' (by k_extra "om") (by k_extra "om") R0.split R0.ag R0.jl (by rw [W8.len]; decide) (by rw [W8.len]; decide) W8.short W8.wp tabOk_nil tabOk_nil (.inl rfl) G9 (dis4 hwo) (off3 hbo) (by k_room) (by k_units) ?_
                         intro h9 tk9 gs9 x1 x2 ps1 nw1 e1 d1' t1 t2 t3 t4 ua1 ru1 uv1 rv1 nu1 nr1 F9 G9 T1 T2 L1 N10 hfr1 hU1 hR1
                         exact by
                          obtain ⟨st1, hst1⟩ : ∃ l, l = ((e1, instObj 59 d1') :: (d1', entD w.params t1 t2 t3 t4 ua1 ru1) :: (ua1, lsO uv1 nu1) :: (ru1, lsO rv1 nr1) :: nw1) ++ (wl, lsO wvs wvs.length) :: st := ⟨_, rfl⟩
                          have hso1 : OwnOff st1 (movs S0) := by rw [hst1]; exact gath hfr1 hso hwo
                          have hs1 : ∀ p ∈ st, p ∈ st1 := fun p hp => by rw [hst1]; exact List.mem_append_right _ (.tail _ hp)
                          have hw1 : (wl, lsO wvs wvs.length) ∈ st1 := hs1 _ hwst
                          have hh1 : (hl, lsO [.int ((H0 : Nat) : Int) th0, .int ((H1 : Nat) : Int) th1] 2) ∈ st1 := hs1 _ hhst
                          have V1 : EntV w.params ((mg (Str.ofString "__name__")).getD .none) st1 e1 (((rowsOf W H0 ws).drop 1).map agOf) ((pathsOf (rowsOf W H0 ws)).map fun p => (p, true)) := by
                            rw [hst1]
                            exact ⟨d1', t1, t2, t3, t4, ua1, ru1, uv1, nu1, rv1, nr1, .head _, .tail _ (.head _), .tail _ (.tail _ (.head _)), .tail _ (.tail _ (.tail _ (.head _))), hU1, hR1.mono (fun p hp => List.mem_append_left _ (.tail _ (.tail _ (.tail _ (.tail _ ((List.mem_append.mp hp).elim (fun h => h) fun h => absurd h List.not_mem_nil))))))⟩
                          have N13 := subN (b := (wl, lsO wvs wvs.length) :: (hl, lsO [.int ((H0 : Nat) : Int) th0, .int ((H1 : Nat) : Int) th1] 2) :: (S0 + 1 + 1 + 1 + 1 + 1 + 1 + 1 + 1, o8) :: (S0 + 1 + 1 + 1 + 1 + 1 + 1 + 1, o7) :: (S0 + 1 + 1 + 1 + 1 + 1 + 1, o6) :: (S0 + 1 + 1 + 1 + 1 + 1, o5) :: (S0 + 1 + 1 + 1 + 1, oS) :: (S0 + 1 + 1 + 1, oD) :: (S0 + 1 + 1, oW) :: (S0 + 1, oN) :: (189, x1) :: (196, x2) :: (240, tabObj ps1) :: st1) N10 (fm (.tail _ (.tail _ (.tail _ (.tail _ (.tail _ (.tail _ (.tail _ (.head _)))))))) (fm (.tail _ (.tail _ (.tail _ (.tail _ (.tail _ (.tail _ (.tail _ (.tail _ (List.mem_append_right _ (.tail _ (.tail _ (.tail _ (.tail _ (.tail _ (.tail _ (.tail _ (.tail _ hhst))))))))))))))))) (by rw [hst1]; exact gath_led)))
                          clear N9 N10
                          exact by
                           (try dsimp only)
                           walk_at "steps9"
                           exact by
                            show wpAny _ _ _ _ _ _
                            rename News _ _ _ _ => N9
                            have eH1 : (List.map (fun (x : Nat) => (x : Int)) [H0, H1]).getD (Int.toNat 1) 0 = ((H1 : Nat) : Int) := rfl
                            rw [eH1]
                            have hbo1 : ∀ p ∈ (S0 + 1 + 1 + 1 + 1 + 1 + 1 + 1 + 1, o8) :: (S0 + 1 + 1 + 1 + 1 + 1 + 1 + 1, o7) :: (S0 + 1 + 1 + 1 + 1 + 1 + 1, o6) :: (S0 + 1 + 1 + 1 + 1 + 1, o5) :: (S0 + 1 + 1 + 1 + 1, oS) :: (S0 + 1 + 1 + 1, oD) :: (S0 + 1 + 1, oW) :: (S0 + 1, oN) :: st1, @Ne Nat p.1 189 ∧ @Ne Nat p.1 196 ∧ @Ne Nat p.1 240 := cells_far l3 hso1
                            refine record_in (by k_asm) (by k_asm) (by k_asm) (by k_asm) (by exact rfl) (by exact rfl) (wl := wl) (n := wvs.length) (o1 := x1) (o2 := x2) (ps := ps1) (kw := nw1 ++ []) (own := (S0 + 1 + 1 + 1 + 1 + 1 + 1 + 1 + 1, o8) :: (S0 + 1 + 1 + 1 + 1 + 1 + 1 + 1, o7) :: (S0 + 1 + 1 + 1 + 1 + 1 + 1, o6) :: (S0 + 1 + 1 + 1 + 1 + 1, o5) :: (S0 + 1 + 1 + 1 + 1, oS) :: (S0 + 1 + 1 + 1, oD) :: (S0 + 1 + 1, oW) :: (S0 + 1, oN) :: st1) (subN N9 (rec_led (x := (hl, _)))) hJ' (by k_extra "om") (by k_extra "om") R1.split R1.ag R1.jl (by rw [W8.len]; decide) (by rw [W8.len]; decide) W8.short W8.wp T1 T2 L1 G9 (dis4 hwo) (off3 hbo1) (by k_room) (by k_units) ?_
                            intro h9 tk9 gs9 x3 x4 ps2 nw2 e2 d2' t5 t6 t7 t8 ua2 ru2 uv2 rv2 nu2 nr2 F9 G9 T3 T4 L2 N10 hfr2 hU2 hR2
                            exact by
                             obtain ⟨st2, hst2⟩ : ∃ l, l = ((e2, instObj 59 d2') :: (d2', entD w.params t5 t6 t7 t8 ua2 ru2) :: (ua2, lsO uv2 nu2) :: (ru2, lsO rv2 nr2) :: nw2) ++ (wl, lsO wvs wvs.length) :: st1 := ⟨_, rfl⟩
                             have hso2 : OwnOff st2 (movs S0) := by rw [hst2]; exact gath hfr2 hso1 hwo
                             have hs2 : ∀ p ∈ st1, p ∈ st2 := fun p hp => by rw [hst2]; exact List.mem_append_right _ (.tail _ hp)
                             have hw2 : (wl, lsO wvs wvs.length) ∈ st2 := hs2 _ hw1
                             have hh2 : (hl, lsO [.int ((H0 : Nat) : Int) th0, .int ((H1 : Nat) : Int) th1] 2) ∈ st2 := hs2 _ hh1
                             have V2 : EntV w.params ((mg (Str.ofString "__name__")).getD .none) st2 e2 (((rowsOf W H1 ws).drop 1).map agOf) ((pathsOf (rowsOf W H1 ws)).map fun p => (p, false)) := by
                               rw [hst2]
                               exact ⟨d2', t5, t6, t7, t8, ua2, ru2, uv2, nu2, rv2, nr2, .head _, .tail _ (.head _), .tail _ (.tail _ (.head _)), .tail _ (.tail _ (.tail _ (.head _))), hU2, hR2.mono (fun p hp => (List.mem_append.mp hp).elim (fun h => List.mem_append_left _ (.tail _ (.tail _ (.tail _ (.tail _ h))))) fun h => List.mem_append_right _ (.tail _ (by rw [hst1]; exact List.mem_append_left _ (.tail _ (.tail _ (.tail _ (.tail _ ((List.mem_append.mp h).elim (fun h => h) fun h => absurd h List.not_mem_nil))))))))⟩
                             have N13 := subN (b := (wl, lsO wvs wvs.length) :: (hl, lsO [.int ((H0 : Nat) : Int) th0, .int ((H1 : Nat) : Int) th1] 2) :: (S0 + 1 + 1 + 1 + 1 + 1 + 1 + 1 + 1, o8) :: (S0 + 1 + 1 + 1 + 1 + 1 + 1 + 1, o7) :: (S0 + 1 + 1 + 1 + 1 + 1 + 1, o6) :: (S0 + 1 + 1 + 1 + 1 + 1, o5) :: (S0 + 1 + 1 + 1 + 1, oS) :: (S0 + 1 + 1 + 1, oD) :: (S0 + 1 + 1, oW) :: (S0 + 1, oN) :: (189, x3) :: (196, x4) :: (240, tabObj ps2) :: st2) N10 (fm (.tail _ (.tail _ (.tail _ (.tail _ (.tail _ (.tail _ (.tail _ (.head _)))))))) (fm (.tail _ (.tail _ (.tail _ (.tail _ (.tail _ (.tail _ (.tail _ (.tail _ (List.mem_append_right _ (.tail _ (.tail _ (.tail _ (.tail _ (.tail _ (.tail _ (.tail _ (.tail _ hh1))))))))))))))))) (by rw [hst2]; exact gath_led)))
                             clear N9 N10
                             have V1' := V1.mono hs2
                             have J2 := (hJ2.mono hs1).mono hs2
                             exact by
                              (try dsimp only)
                              walk_at "steps9"
                              exact by
                               have q11 : (e1, instObj 59 d1') ∈ st2 := hs2 _ (by rw [hst1]; exact .head _)
                               have q12 : (d1', entD w.params t1 t2 t3 t4 ua1 ru1) ∈ st2 := hs2 _ (by rw [hst1]; exact .tail _ (.head _))
                               have q13 : (ua1, lsO uv1 nu1) ∈ st2 := hs2 _ (by rw [hst1]; exact .tail _ (.tail _ (.head _)))
                               have q21 : (e2, instObj 59 d2') ∈ st2 := by rw [hst2]; exact .head _
                               have q22 : (d2', entD w.params t5 t6 t7 t8 ua2 ru2) ∈ st2 := by rw [hst2]; exact .tail _ (.head _)
                               have q23 : (ua2, lsO uv2 nu2) ∈ st2 := by rw [hst2]; exact .tail _ (.tail _ (.head _))
                               have hms2 : (ml, lsO mvs mvs.length) ∈ st2 := hs2 _ (hs1 _ hmst)
                               have A1 : TextsAre uv1 (agsOf W H0 ws) := ags_eq W8 W H0 ▸ hU1
                               have A2 : TextsAre uv2 (agsOf W H1 ws) := ags_eq W8 W H1 ▸ hU2
                               rename News _ _ _ _ => N9
                               have hin : ∀ p ∈ st2, p ∈ (wl, lsO wvs wvs.length) :: (hl, lsO [.int ((H0 : Nat) : Int) th0, .int ((H1 : Nat) : Int) th1] 2) :: (S0 + 1 + 1 + 1 + 1 + 1 + 1 + 1 + 1, o8) :: (S0 + 1 + 1 + 1 + 1 + 1 + 1 + 1, o7) :: (S0 + 1 + 1 + 1 + 1 + 1 + 1, o6) :: (S0 + 1 + 1 + 1 + 1 + 1, o5) :: (S0 + 1 + 1 + 1 + 1, oS) :: (S0 + 1 + 1 + 1, oD) :: (S0 + 1 + 1, oW) :: (S0 + 1, oN) :: (189, x3) :: (196, x4) :: (240, tabObj ps2) :: st2 := fun p hp => .tail _ (.tail _ (.tail _ (.tail _ (.tail _ (.tail _ (.tail _ (.tail _ (.tail _ (.tail _ (.tail _ (.tail _ (.tail _ hp))))))))))))
                               have N13 := subN (b := (e1, instObj 59 d1') :: (d1', entD w.params t1 t2 t3 t4 ua1 ru1) :: (e2, instObj 59 d2') :: (d2', entD w.params t5 t6 t7 t8 ua2 ru2) :: (wl, lsO wvs wvs.length) :: (ml, lsO mvs mvs.length) :: (S0 + 1 + 1 + 1 + 1 + 1 + 1 + 1 + 1, o8) :: (S0 + 1 + 1 + 1 + 1 + 1 + 1 + 1, o7) :: (S0 + 1 + 1 + 1 + 1 + 1 + 1, o6) :: (S0 + 1 + 1 + 1 + 1 + 1, o5) :: (S0 + 1 + 1 + 1 + 1, oS) :: (S0 + 1 + 1 + 1, oD) :: (S0 + 1 + 1, oW) :: (S0 + 1, oN) :: (189, x3) :: (196, x4) :: (240, tabObj ps2) :: st2) N9 (fm (hin _ q11) (fm (hin _ q12) (fm (hin _ q21) (fm (hin _ q22) (fm (.head _) (fm (hin _ hms2) (fun p hp => .tail _ (.tail _ hp))))))))
                               clear N9 hin hbo hbo1 hfr1 hfr2 hoff hwo hho R0 R1 eH0 eH1
                               (repeat (rename _ < _ ∧ _ => hz9; clear hz9))
                               exact by
                                walk_at "steps9"
                                exact by
                                 (try dsimp only)
                                 show wpAny _ _ _ _ _ _
                                 rename News _ _ _ _ => N9
                                 rename Addr => D0
                                 refine' comp_gen (B := BName "row") (cl := [(Str.ofString "words", S0 + 1 + 1 + 1)]) ?cF ?ccl ?cce ?cki ?cna ?cas ?_ ?chs
                                 case cF => k_asm
                                 case ccl => kernel_rfl
                                 case cce => decide
                                 case cki => rfl
                                 case cna => decide
                                 case cas => exact fun C => asg_name (by rfl) (by rfl)
                                 case chs => intro _; kernel_rfl
                                 (try dsimp only)
                                 walk_at "steps9"
                                 exact by
                                  rename News _ _ _ _ => N9
                                  refine ex_led N9 ?_
                                  intro led hled N9'
                                  have hstl := led_st (pre := [_, _, _, _, _, _, _]) (cells := [_, _, _, _, _, _, _, _, _, _, _]) hled
                                  have hcl := led_cells (pre := [_, _, _, _, _, _, _]) (cells := [_, _, _, _, _, _, _, _, _, _, _]) hled
                                  have hD0 : (D0, lsO [.ref ua1, .ref ua2] 0) ∈ led := by rw [hled]; exact .head _
                                  have hmD : (S0 + 1 + 1 + 1, oD) ∈ led := hcl _ (by k_mem)
                                  have hwl2 := hstl _ hw2
                                  refine' SrcG.of (fun i ys nw => PartsIn nw ys (([seams W H0 ws, seams W H1 ws].take i).map fun S => S.map (wd ws)) ∧ ∀ p ∈ led, p ∈ nw) ?W2 ?F ?N ?G ?S ?J0 ?B ?turn4 ?fin4
                                  case W2 => exact src_list (vs := mvs) (by rfl) N9' (hstl _ hms2) (by k_extra "om")
                                  case F => k_asm
                                  case N => exact N9'
                                  case G => exact G9
                                  case S => exact hstl _ hms2
                                  case J0 => exact ⟨PartsIn.nil, fun p hp => hp⟩
                                  case B => exact fun i v ys news _ _ _ => ⟨_, rfl⟩
                                  case turn4 =>
                                    refine turn_plain ?_
                                    rintro i v bs ys nw I oI C oC D2 mC h9 tk9 gs9 E' hi hv rfl ⟨hJ, hkeep⟩ hsrc G9 hNs hm2 F9 N10 off three hyl
                                    refine wp_gen ?_
                                    intro Kt Et hKt hEt
                                    exact by
                                     refine at_some (l := [seams W H0 ws, seams W H1 ws]) (by rw [← J2.len]; exact hi) fun S hS => ?_
                                     refine J2.elim hS hv fun ra us un hvr hra hus => ?_
                                     have hn9 := hm2 "row" _ rfl
                                     rw [hvr] at hn9
                                     have hrm := hstl _ hra
                                     have hS8 : S.length ≤ 8 ∧ ∀ p ∈ S, p < 8 := by
                                       have := List.mem_of_getElem? hS
                                       simp only [List.mem_cons, List.not_mem_nil, or_false] at this
                                       rcases this with e | e <;> rw [e] <;> exact ⟨seams_len8 W8, seams_lt8 W8⟩
                                     have husl : us.length = S.length := by rw [hus.length, List.length_map]
                                     have N11 := subN (b := (I, oI) :: (C, oC) :: (D2, lsO ys ys.length) :: (S0 + 1 + 1 + 1, oD) :: (wl, lsO wvs wvs.length) :: (ra, lsO us un) :: nw) N10 (fm (.head _) (fm (.tail _ (.head _)) (fm (.tail _ (.tail _ (.head _))) (fm (.tail _ (.tail _ (.tail _ (hkeep _ hmD)))) (fm (.tail _ (.tail _ (.tail _ (hkeep _ hwl2)))) (fm (.tail _ (.tail _ (.tail _ (hkeep _ hrm)))) (fun p hp => .tail _ (.tail _ (.tail _ hp)))))))))
                                     clear N9 N9' N10
                                     (try dsimp only)
                                     walk_at "steps9"
                                     exact by
                                      show wpAny _ _ _ _ _ _
                                      refine' comp_gen (B := BName "p") (cl := [(Str.ofString "words", S0 + 1 + 1 + 1)]) ?cF ?ccl ?cce ?cki ?cna ?cas ?_ ?chs
                                      case cF => k_asm
                                      case ccl => kernel_rfl
                                      case cce => decide
                                      case cki => rfl
                                      case cna => decide
                                      case cas => exact fun C => asg_name (by rfl) (by rfl)
                                      case chs => intro _; kernel_rfl
                                      (try dsimp only)
                                      walk_at "steps9"
                                      exact by
                                       rename News _ _ _ _ => N12
                                       refine ex_led N12 ?_
                                       intro led2 hled2 N12'
                                       have hmD2 : (S0 + 1 + 1 + 1, oD) ∈ led2 := by rw [hled2]; k_mem
                                       have hwl3 : (wl, lsO wvs wvs.length) ∈ led2 := by rw [hled2]; k_mem
                                       refine' SrcG.of (fun j zs nw2 => TextsAre zs ((S.take j).map (wd ws)) ∧ ∀ p ∈ led2, p ∈ nw2) ?W2 ?F ?N ?G ?S ?J0 ?B ?turn5 ?fin5
                                       case W2 => exact src_list (vs := us) (by rfl) N12' (by rw [hled2]; k_mem) (by k_extra "om")
                                       case F => k_asm
                                       case N => exact N12'
                                       case G => exact G9
                                       case S => rw [hled2]; k_mem
                                       case J0 => exact ⟨by simpa using TextsAre.nil, fun p hp => hp⟩
                                       case B => exact fun i v ys news _ _ _ => ⟨_, rfl⟩
                                       case turn5 =>
                                         refine turn_plain ?_
                                         rintro j v5 bs zs nw2 I2 oI2 C2 oC2 D3 mC2 h9 tk9 gs9 E2 hj hv5 rfl ⟨hJ5, hkeep5⟩ hsrc5 G9 hNs2 hm5 F9 N13 off5 three5 hzl
                                         refine wp_gen ?_
                                         intro Kt Et hKt hEt
                                         exact by
                                          refine ints_at hus hv5 fun p tx ex hp => ?_
                                          have hn5 := hm5 "p" _ rfl
                                          rw [ex] at hn5
                                          have hp8 := hS8.2 p (List.mem_of_getElem? hp)
                                          have hwd : ws[((p : Nat) : Int).toNat]? = some (wd ws p) := wdx_get (by rw [W8.len]; exact hp8)
                                          have N14 := subN (b := (I2, oI2) :: (C2, oC2) :: (D3, lsO zs zs.length) :: (S0 + 1 + 1 + 1, oD) :: (wl, lsO wvs wvs.length) :: nw2) N13 (fm (.head _) (fm (.tail _ (.head _)) (fm (.tail _ (.tail _ (.head _))) (fm (.tail _ (.tail _ (.tail _ (hkeep5 _ hmD2)))) (fm (.tail _ (.tail _ (.tail _ (hkeep5 _ hwl3)))) (fun p hp => .tail _ (.tail _ (.tail _ hp))))))))
                                          clear N12 N12' N13
                                          (try dsimp only)
                                          walk_at "steps9"
                                          exact by
                                           (try refine hKt _ _ ?_)
                                           show EndG _ _ _ _ _ _ _ _ _ _ _ _ _
                                           rename News _ _ _ _ => N15
                                           refine' EndG.of nw2 G9 (by k_asm) N15 ?sub off5 hsrc5 ⟨?_, hkeep5⟩
                                           case sub => walk_at "sub9"
                                           rw [List.take_add_one, hp, Option.toList_some, List.map_append, List.map_singleton]
                                           exact TextsAre.snoc hJ5
                                       case fin5 =>
                                         rintro D5 zs nw2 h9 tk9 gs9 ⟨hJ5, hkeep5⟩ G9 F9 N13 hoff5
                                         exact by
                                          have e5 : S.take us.length = S := List.take_of_length_le (by rw [husl]; exact Nat.le_refl _)
                                          rw [e5] at hJ5
                                          (try dsimp only)
                                          (try refine hKt _ _ ?_)
                                          show EndG _ _ _ _ _ _ _ _ _ _ _ _ _
                                          rw [hled2] at hkeep5
                                          refine' EndG.of ((D5, lsO zs zs.length) :: nw) G9 F9 N13 ?sub ?off (.tail _ hsrc) ⟨?_, fun p hp => .tail _ (hkeep p hp)⟩
                                          case sub => exact fm (.tail _ (hkeep5 _ (.head _))) (fm (.tail _ (hkeep5 _ (.tail _ (.head _)))) (fm (.tail _ (hkeep5 _ (.tail _ (.tail _ (.head _))))) (fm (.head _) fun p hp => .tail _ (hkeep5 p (.tail _ (.tail _ (.tail _ (.tail _ (.tail _ (.tail _ hp))))))))))
                                          case off => exact fm ⟨Ne.symm (hoff5 _ (hkeep5 _ (.head _))), Ne.symm (hoff5 _ (hkeep5 _ (.tail _ (.head _)))), Ne.symm (hoff5 _ (hkeep5 _ (.tail _ (.tail _ (.head _)))))⟩ off
                                          rw [List.take_add_one, hS, Option.toList_some, List.map_append, List.map_singleton]
                                          exact (hJ.mono fun p hp => .tail _ hp).snoc (.head _) hJ5
                                  case fin4 =>
                                    rintro cl cvs nw h9 tk9 gs9 ⟨hJ, hkeep⟩ G9 F9 N10 hoffc
                                    exact by
                                     have e4 : [seams W H0 ws, seams W H1 ws].take mvs.length = [seams W H0 ws, seams W H1 ws] := List.take_of_length_le (by rw [J2.len]; exact Nat.le_refl _)
                                     rw [e4] at hJ
                                     have hk : ∀ p ∈ st2, p ∈ nw := fun p hp => hkeep p (hstl p hp)
                                     have hPa : PartsIn ((cl, lsO cvs cvs.length) :: nw) [.ref ua1, .ref ua2] [agsOf W H0 ws, agsOf W H1 ws] := parts_two (.tail _ (hk _ q13)) A1 (.tail _ (hk _ q23)) A2
                                     have hPb : PartsIn ((cl, lsO cvs cvs.length) :: nw) cvs [agsOf W H0 ws, agsOf W H1 ws] := hJ.mono fun p hp => .tail _ hp
                                     have hok := ok_two (agsOf_ok W8 (W := W) (H := H0)) (agsOf_ok W8 (W := W) (H := H1))
                                     (try dsimp only)
                                     refine ne_parts_same rfl N10 (.tail _ (hkeep _ hD0)) (.head _) hPa hPb hok hok (by k_units) ?_
                                     have N11 := subN (b := (S0 + 1 + 1 + 1 + 1 + 1 + 1 + 1 + 1, o8) :: (S0 + 1 + 1 + 1 + 1 + 1 + 1 + 1, o7) :: (S0 + 1 + 1 + 1 + 1 + 1 + 1, o6) :: (S0 + 1 + 1 + 1 + 1 + 1, o5) :: (S0 + 1 + 1 + 1 + 1, oS) :: (S0 + 1 + 1 + 1, oD) :: (S0 + 1 + 1, oW) :: (S0 + 1, oN) :: (189, x3) :: (196, x4) :: (240, tabObj ps2) :: st2) N10 (keep_on (cells := [_, _, _, _, _, _, _, _, _, _, _]) hkeep hcl hstl)
                                     clear N9 N9' N10 hled hkeep hJ hPa hPb hcl hmD hwl2 hstl hD0 hk hoffc
                                     exact by
                                      (try dsimp only)
                                      walk_at "steps9"
                                      exact by
                                       show wpAny _ _ _ _ _ _
                                       rename News _ _ _ _ => N9
                                       have hrl1 := rules_len W8 W H0 true
                                       have hrl2 := rules_len W8 W H1 false
                                       have hal1 := agsOf_len W8 (W := W) (H := H0)
                                       have hal2 := agsOf_len W8 (W := W) (H := H1)
                                       rw [ags_eq W8] at V1' V2
                                       have hkp := kept_is W8 W H0 H1
                                       have hkp2 := kept_is W8 W H1 H0
                                       rw [kept_comm] at hkp2
                                       refine merge_VJ (by k_asm) (by k_asm) (by k_asm) (by k_asm) (by exact rfl) (by exact rfl) N9 V1' V2 (fun p hp => by walk_at "tl9") (by k_extra "om") (by k_extra "om") (by k_extra "om") (by k_extra "om") (by k_room) (by k_units) ?_
                                       intro h9 tk9 eb fresh1 F9 N10 VB off9
                                       exact by
                                        rw [hkp] at VB
                                        refine nmd (fresh1 ++ st2) fun st3 hst3 => ?_
                                        have hso3 : OwnOff st3 (movs S0) := by rw [hst3]; exact gath2 off9 hso2
                                        have hs3 : ∀ p ∈ st2, p ∈ st3 := fun p hp => by rw [hst3]; exact List.mem_append_right _ hp
                                        have N11 := subN (b := (S0 + 1 + 1 + 1 + 1 + 1 + 1 + 1 + 1, o8) :: (S0 + 1 + 1 + 1 + 1 + 1 + 1 + 1, o7) :: (S0 + 1 + 1 + 1 + 1 + 1 + 1, o6) :: (S0 + 1 + 1 + 1 + 1 + 1, o5) :: (S0 + 1 + 1 + 1 + 1, oS) :: (S0 + 1 + 1 + 1, oD) :: (S0 + 1 + 1, oW) :: (S0 + 1, oN) :: (189, x3) :: (196, x4) :: (240, tabObj ps2) :: st3) N10 (by rw [hst3]; exact gath2_led (l := [_, _, _, _, _, _, _, _, _, _, _]))
                                        rw [← hst3] at VB
                                        have V1'' := V1'.mono hs3
                                        have V2' := V2.mono hs3
                                        clear N9 N10 off9
                                        exact by
                                         (try dsimp only)
                                         walk_at "steps9"
                                         exact by
                                          show wpAny _ _ _ _ _ _
                                          rename News _ _ _ _ => N9
                                          rename Obj => oB
                                          rename oB.data = _ => dB
                                          refine merge_VJ (by k_asm) (by k_asm) (by k_asm) (by k_asm) (by exact rfl) (by exact rfl) N9 V2' V1'' (fun p hp => by walk_at "tl9") (by k_extra "om") (by k_extra "om") (by k_extra "om") (by k_extra "om") (by k_room) (by k_units) ?_
                                          intro h9 tk9 et fresh2 F9 N10 VT off9
                                          exact by
                                           rw [hkp2] at VT
                                           refine nmd (fresh2 ++ st3) fun st4 hst4 => ?_
                                           have hso4 : OwnOff st4 (movs S0) := by rw [hst4]; exact gath2 off9 hso3
                                           have hs4 : ∀ p ∈ st3, p ∈ st4 := fun p hp => by rw [hst4]; exact List.mem_append_right _ hp
                                           have N11 := subN (b := (S0 + 1 + 1 + 1 + 1 + 1 + 1 + 1 + 1, o8) :: (S0 + 1 + 1 + 1 + 1 + 1 + 1 + 1, o7) :: (S0 + 1 + 1 + 1 + 1 + 1 + 1, o6) :: (S0 + 1 + 1 + 1 + 1 + 1, oB) :: (S0 + 1 + 1 + 1 + 1, oS) :: (S0 + 1 + 1 + 1, oD) :: (S0 + 1 + 1, oW) :: (S0 + 1, oN) :: (189, x3) :: (196, x4) :: (240, tabObj ps2) :: st4) N10 (by rw [hst4]; exact gath2_led (l := [_, _, _, _, _, _, _, _, _, _, _]))
                                           rw [← hst4] at VT
                                           have VB' := VB.mono hs4
                                           clear N9 N10 off9
                                           exact by
                                            (try dsimp only)
                                            walk_at "steps9"
                                            exact by
                                             show wpAny _ _ _ _ _ _
                                             rename News _ _ _ _ => N9
                                             rename Obj => oT
                                             rename oT.data = _ => dT
                                             have hl8 := W8.len
                                             refine' comp_assign (B := BName "k") (cl := [(Str.ofString "words", S0 + 1 + 1 + 1)]) ?cF ?cL ?csw ?ccl ?cce ?cki ?cna ?cas ?chy ?chp ?_ ?chs
                                             case cF => k_asm
                                             case cL => exact rfl
                                             case csw => kernel_rfl
                                             case ccl => kernel_rfl
                                             case cce => decide
                                             case cki => rfl
                                             case cna => decide
                                             case cas => exact fun C => asg_name (by rfl) (by rfl)
                                             case chy => kernel_rfl
                                             case chp => kernel_rfl
                                             case chs => intro _; kernel_rfl
                                             (try dsimp only)
                                             walk_at "steps9"
                                             exact by
                                              rename News _ _ _ _ => N9
                                              refine ex_led N9 ?_
                                              intro led hled N9'
                                              have hstl := led_st (pre := []) (cells := [_, _, _, _, _, _, _, _, _, _, _]) hled
                                              have hcl := led_cells (pre := []) (cells := [_, _, _, _, _, _, _, _, _, _, _]) hled
                                              have hmD : (S0 + 1 + 1 + 1, oD) ∈ led := hcl _ (by k_mem)
                                              have hwl2 := hstl _ (hs4 _ (hs3 _ hw2))
                                              refine' SrcG.of (fun i ys nw => TextsAre ys ((List.range i).map fun k => rowTxt (ws.take k)) ∧ ∀ p ∈ led, p ∈ nw) ?W4 ?F ?N ?G ?S ?J0 ?B ?turn4 ?fin4
                                              case W4 => exact src_range (by rfl) (by assumption) (small_one (by decide) (by decide) (by decide) (by decide)) (rangeSize_nat _ _) (by decide)
                                              case F => k_asm
                                              case N => exact N9'
                                              case G => exact G9
                                              case S => trivial
                                              case J0 => exact ⟨by simpa using TextsAre.nil, fun p hp => hp⟩
                                              case B => exact fun i v ys news _ _ _ => ⟨_, rfl⟩
                                              case turn4 =>
                                                refine turn_plain ?_
                                                rintro i v bs ys nw I oI C oC D2 mC h9 tk9 gs9 E' hi ⟨t, rfl⟩ rfl ⟨hJ, hkeep⟩ hsrc G9 hNs hm2 F9 N10 off three hyl
                                                refine wp_gen ?_
                                                intro Kt Et hKt hEt
                                                exact by
                                                 have hi9 : i < 9 := hi
                                                 have hn9 := hm2 "k" _ rfl
                                                 have N11 := subN (b := (I, oI) :: (C, oC) :: (D2, lsO ys ys.length) :: (S0 + 1 + 1 + 1, oD) :: (wl, lsO wvs wvs.length) :: nw) N10 (fm (.head _) (fm (.tail _ (.head _)) (fm (.tail _ (.tail _ (.head _))) (fm (.tail _ (.tail _ (.tail _ (hkeep _ hmD)))) (fm (.tail _ (.tail _ (.tail _ (hkeep _ hwl2)))) (fun p hp => .tail _ (.tail _ (.tail _ hp))))))))
                                                 clear N9 N9' N10
                                                 (try dsimp only)
                                                 walk_at "steps9"
                                                 exact by
                                                  show wpAny _ _ _ _ _ _
                                                  refine' comp_gen (B := BName "word") (cl := []) ?cF ?ccl ?cce ?cki ?cna ?cas ?_ ?chs
                                                  case cF => k_asm
                                                  case ccl => kernel_rfl
                                                  case cce => decide
                                                  case cki => rfl
                                                  case cna => decide
                                                  case cas => exact fun C => asg_name (by rfl) (by rfl)
                                                  case chs => intro _; kernel_rfl
                                                  (try dsimp only)
                                                  walk_at "steps9"
                                                  exact by
                                                   rename News _ _ _ _ => N12
                                                   rename TextsAre _ (List.take _ _) => hT
                                                   rw [at_k] at hT
                                                   rename Addr => D4
                                                   refine ex_led N12 ?_
                                                   intro led2 hled2 N12'
                                                   have htl := hT.length
                                                   have htl2 : (ws.take i).length ≤ 8 := by rw [List.length_take, hl8]; k_extra "om"
                                                   refine' SrcG.of (fun j zs nw2 => TextsAre zs (((ws.take i).take j).map fun w => Str.ofString " " ++ w) ∧ ∀ p ∈ led2, p ∈ nw2) ?W4 ?F ?N ?G ?S ?J0 ?B ?turn5 ?fin5
                                                   case W4 => exact src_list (by rfl) N12' (by rw [hled2]; exact .head _) (by k_extra "om")
                                                   case F => k_asm
                                                   case N => exact N12'
                                                   case G => exact G9
                                                   case S => rw [hled2]; exact .head _
                                                   case J0 => exact ⟨by simpa using TextsAre.nil, fun p hp => hp⟩
                                                   case B => exact fun i v ys news _ _ _ => ⟨_, rfl⟩
                                                   case turn5 =>
                                                     refine turn_plain ?_
                                                     rintro j v5 bs zs nw2 I2 oI2 C2 oC2 D3 mC2 h9 tk9 gs9 E2 hj hv5 rfl ⟨hJ5, hkeep5⟩ hsrc5 G9 hNs2 hm5 F9 N13 off5 three5 hzl
                                                     refine wp_gen ?_
                                                     intro Kt Et hKt hEt
                                                     exact by
                                                      refine texts_elim hT hv5 fun wx tw ex hx5 => ?_
                                                      have hwx := W8.short _ (List.mem_of_mem_take (List.mem_of_getElem? hx5))
                                                      have hn5 := hm5 "word" _ rfl
                                                      rw [ex] at hn5
                                                      clear N12 N12'
                                                      (try dsimp only)
                                                      walk_at "steps9"
                                                      exact by
                                                       (try refine hKt _ _ ?_)
                                                       show EndG _ _ _ _ _ _ _ _ _ _ _ _ _
                                                       refine EndG.same G9 F9 N13 (fun b o e => e) off5 hsrc5 ⟨?_, hkeep5⟩
                                                       rw [take_succ' hx5, List.map_append, List.map_singleton]
                                                       exact TextsAre.snoc hJ5
                                                   case fin5 =>
                                                     rintro D5 zs nw2 h9 tk9 gs9 ⟨hJ5, hkeep5⟩ G9 F9 N13 hoff5
                                                     exact by
                                                      rw [htl, List.take_length] at hJ5
                                                      rw [hled2] at hkeep5
                                                      have N14 := subN (b := (D5, lsO zs zs.length) :: (I, oI) :: (C, oC) :: (D2, lsO ys ys.length) :: nw) N13 (fm (.head _) (fm (.tail _ (hkeep5 _ (.tail _ (.head _)))) (fm (.tail _ (hkeep5 _ (.tail _ (.tail _ (.head _))))) (fm (.tail _ (hkeep5 _ (.tail _ (.tail _ (.tail _ (.head _)))))) fun p hp => .tail _ (hkeep5 p (.tail _ (.tail _ (.tail _ (.tail _ (.tail _ (.tail _ hp)))))))))))
                                                      have hjk := name_ok W8 i
                                                      clear N12 N12' N13 hled2 hkeep5
                                                      (try dsimp only)
                                                      walk_at "steps9"
                                                      exact by
                                                       (try refine hKt _ _ ?_)
                                                       show EndG _ _ _ _ _ _ _ _ _ _ _ _ _
                                                       rename News _ _ _ _ => N15
                                                       refine' EndG.of nw G9 (by k_asm) N15 ?sub off hsrc ⟨?_, hkeep⟩
                                                       case sub => walk_at "sub9"
                                                       rw [List.range_succ, List.map_append, List.map_singleton]
                                                       exact TextsAre.snoc hJ
                                              case fin4 =>
                                                rintro nm nmv nw h9 tk9 gs9 ⟨hJ, hkeep⟩ G9 F9 N10 hoffn
                                                exact by
                                                 have hNm : TextsAre nmv ((List.range 9).map fun k => rowTxt (ws.take k)) := hJ
                                                 refine nmd ((nm, lsO nmv nmv.length) :: st4) fun st5 hst5 => ?_
                                                 have hso5 : OwnOff st5 (movs S0) := by rw [hst5]; exact own_new (fun p hp => hkeep p (hcl p hp)) hoffn hso4
                                                 have hs5 : ∀ p ∈ st4, p ∈ st5 := fun p hp => by rw [hst5]; exact .tail _ hp
                                                 have hnm5 : (nm, lsO nmv nmv.length) ∈ st5 := by rw [hst5]; exact .head _
                                                 have N11 := subN (b := (S0 + 1 + 1 + 1 + 1 + 1 + 1 + 1 + 1, o8) :: (S0 + 1 + 1 + 1 + 1 + 1 + 1 + 1, o7) :: (S0 + 1 + 1 + 1 + 1 + 1 + 1, oT) :: (S0 + 1 + 1 + 1 + 1 + 1, oB) :: (S0 + 1 + 1 + 1 + 1, oS) :: (S0 + 1 + 1 + 1, oD) :: (S0 + 1 + 1, oW) :: (S0 + 1, oN) :: (189, x3) :: (196, x4) :: (240, tabObj ps2) :: st5) N10 (by rw [hst5]; exact keep_new (cells := [_, _, _, _, _, _, _, _, _, _, _]) hkeep hcl hstl)
                                                 clear N9 N9' N10 hled hkeep hJ hcl hmD hwl2 hstl hoffn
                                                 exact by
                                                  (try dsimp only)
                                                  walk_at "steps9"
                                                  exact by
                                                   show wpAny _ _ _ _ _ _
                                                   refine' comp_assignJ (cl := [(Str.ofString "seams", S0 + 1 + 1 + 1 + 1)]) ?cF ?cL ?csw ?ccl ?cki ?cna ?cxc ?ccf ?cpc ?chy ?chp ?_ ?chs
                                                   case cF => k_asm
                                                   case cL => exact rfl
                                                   case csw => kernel_rfl
                                                   case ccl => kernel_rfl
                                                   case cki => rfl
                                                   case cna => decide
                                                   case cxc => rfl
                                                   case ccf => intro k; rfl
                                                   case cpc => intro h; rfl
                                                   case chy => kernel_rfl
                                                   case chp => kernel_rfl
                                                   case chs => intro _; kernel_rfl
                                                   (try dsimp only)
                                                   walk_at "steps9"
                                                   exact by
                                                    rename News _ _ _ _ => N9
                                                    refine ex_led N9 ?_
                                                    intro led hled N9'
                                                    have hstl := led_st (pre := []) (cells := [_, _, _, _, _, _, _, _, _, _, _]) hled
                                                    have hcl := led_cells (pre := []) (cells := [_, _, _, _, _, _, _, _, _, _, _]) hled
                                                    have hmS : (S0 + 1 + 1 + 1 + 1, oS) ∈ led := hcl _ (by k_mem)
                                                    have hst2l : ∀ p ∈ st2, p ∈ led := fun p hp => hstl _ (hs5 _ (hs4 _ (hs3 _ hp)))
                                                    have hmll := hst2l _ hms2
                                                    refine' SrcCJ.of (fun i ys nw => DuosIn nw ys ((List.range i).map (lastP W H0 H1 ws)) ∧ ∀ p ∈ led, p ∈ nw) ?W5 ?F ?N ?G ?J0 ?turn4 ?fin4
                                                    case W5 => exact src_range (by rfl) (by assumption) (small_one (by decide) (by decide) (by decide) (by decide)) (rangeSize_nat _ _) (by decide)
                                                    case F => k_asm
                                                    case N => exact N9'
                                                    case G => exact G9
                                                    case J0 => exact ⟨by simpa using DuosIn.nil, fun p hp => hp⟩
                                                    case turn4 =>
                                                      rintro i v ys K I oI C oC D hh tkh gsh nw E' hi ⟨t, rfl⟩ ⟨hJ, hkeep⟩ G9 F9 N10 off three hK hyl
                                                      refine wpAny_tests_nil ?_
                                                      rw [if_pos rfl]
                                                      refine wp_gen ?_
                                                      intro Kt Et hKt hEt
                                                      exact by
                                                       have hi9 : i < 9 := hi
                                                       have N11 := subN (b := (I, oI) :: (C, oC) :: (D, lsO ys ys.length) :: (K, cellO (some (Value.int (0 + (i : Int) * 1) t))) :: (S0 + 1 + 1 + 1 + 1, oS) :: (ml, lsO mvs mvs.length) :: nw) N10 (fm (.head _) (fm (.tail _ (.head _)) (fm (.tail _ (.tail _ (.head _))) (fm (.tail _ (.tail _ (.tail _ (.head _)))) (fm (.tail _ (.tail _ (.tail _ (.tail _ (hkeep _ hmS))))) (fm (.tail _ (.tail _ (.tail _ (.tail _ (hkeep _ hmll))))) (fun p hp => .tail _ (.tail _ (.tail _ (.tail _ hp))))))))))
                                                       clear N9 N9' N10
                                                       (try dsimp only)
                                                       walk_at "steps9"
                                                       exact by
                                                        show wpAny _ _ _ _ _ _
                                                        refine' comp_gen (B := BName "row") (cl := [(Str.ofString "k", K)]) ?cF ?ccl ?cce ?cki ?cna ?cas ?_ ?chs
                                                        case cF => k_asm
                                                        case ccl => kernel_rfl
                                                        case cce => decide
                                                        case cki => rfl
                                                        case cna => decide
                                                        case cas => exact fun C => asg_name (by rfl) (by rfl)
                                                        case chs => intro _; kernel_rfl
                                                        (try dsimp only)
                                                        walk_at "steps9"
                                                        exact by
                                                         rename News _ _ _ _ => N12
                                                         refine ex_led N12 ?_
                                                         intro led2 hled2 N12'
                                                         have hK2 : (K, cellO (some (Value.int (0 + (i : Int) * 1) t))) ∈ led2 := by rw [hled2]; k_mem
                                                         have hml2 : (ml, lsO mvs mvs.length) ∈ led2 := by rw [hled2]; k_mem
                                                         have hnw2 : ∀ p ∈ nw, p ∈ led2 := fun p hp => by rw [hled2]; walk_at "tl9"
                                                         refine' SrcG.of (fun j zs nw2 => IntsAre zs (([H0, H1].take j).map fun H => (lastF (bg W H ws) i : Int) - 1) ∧ ∀ p ∈ led2, p ∈ nw2) ?W5 ?F ?N ?G ?S ?J0 ?B ?turn5 ?fin5
                                                         case W5 => exact src_list (vs := mvs) (by rfl) N12' hml2 (by k_extra "om")
                                                         case F => k_asm
                                                         case N => exact N12'
                                                         case G => exact G9
                                                         case S => exact hml2
                                                         case J0 => exact ⟨.nil, fun p hp => hp⟩
                                                         case B => exact fun i v ys news _ _ _ => ⟨_, rfl⟩
                                                         case turn5 =>
                                                           refine turn_plain ?_
                                                           rintro j v5 bs zs nw2 I2 oI2 C2 oC2 D3 mC2 h9 tk9 gs9 E2 hj hv5 rfl ⟨hJ5, hkeep5⟩ hsrc5 G9 hNs2 hm5 F9 N13 off5 three5 hzl
                                                           refine wp_gen ?_
                                                           intro Kt Et hKt hEt
                                                           exact by
                                                            have hj2 : j < [H0, H1].length := Nat.lt_of_lt_of_eq hj J2.len
                                                            refine at_some hj2 fun H hH => ?_
                                                            have hS : [seams W H0 ws, seams W H1 ws][j]? = some (seams W H ws) := by
                                                              have : ([H0, H1].map fun H => seams W H ws)[j]? = some (seams W H ws) := by rw [List.getElem?_map, hH]; rfl
                                                              exact this
                                                            refine J2.elim hS hv5 fun ra us un hvr hra0 hus => ?_
                                                            have hn5 := hm5 "row" _ rfl
                                                            rw [hvr] at hn5
                                                            have hra := hkeep5 _ (hnw2 _ (hkeep _ (hst2l _ hra0)))
                                                            have husl : us.length = (seams W H ws).length := by rw [hus.length, List.length_map]
                                                            have hsl := seams_len8 W8 (W := W) (H := H)
                                                            have N14 := subN (b := (I2, oI2) :: (C2, oC2) :: (D3, lsO zs zs.length) :: (K, cellO (some (Value.int (0 + (i : Int) * 1) t))) :: (ra, lsO us un) :: nw2) N13 (fm (.head _) (fm (.tail _ (.head _)) (fm (.tail _ (.tail _ (.head _))) (fm (.tail _ (.tail _ (.tail _ (hkeep5 _ hK2)))) (fm (.tail _ (.tail _ (.tail _ hra))) (fun p hp => .tail _ (.tail _ (.tail _ hp))))))))
                                                            clear N12 N12' N13
                                                            (try dsimp only)
                                                            walk_at "steps9"
                                                            exact by
                                                             show wpAny _ _ _ _ _ _
                                                             refine' comp_gen (B := BName "p") (cl := [(Str.ofString "k", K)]) ?cF ?ccl ?cce ?cki ?cna ?cas ?_ ?chs
                                                             case cF => k_asm
                                                             case ccl => kernel_rfl
                                                             case cce => decide
                                                             case cki => rfl
                                                             case cna => decide
                                                             case cas => exact fun C => asg_name (by rfl) (by rfl)
                                                             case chs => intro _; kernel_rfl
                                                             (try dsimp only)
                                                             walk_at "steps9"
                                                             exact by
                                                              rename News _ _ _ _ => N12
                                                              rename Addr => Dm
                                                              refine ex_led N12 ?_
                                                              intro led3 hled3 N12'
                                                              have hK3 : (K, cellO (some (Value.int (0 + (i : Int) * 1) t))) ∈ led3 := by rw [hled3]; k_mem
                                                              have hra3 : (ra, lsO us un) ∈ led3 := by rw [hled3]; k_mem
                                                              refine' SrcG.of (fun l qs nw3 => IntsAre qs ((((seams W H ws).take l).filter fun p => decide (p ≤ i)).map fun (x : Nat) => (x : Int)) ∧ ∀ p ∈ led3, p ∈ nw3) ?W5 ?F ?N ?G ?S ?J0 ?B ?turn6 ?fin6
                                                              case W5 => exact src_list (vs := us) (by rfl) N12' hra3 (by k_extra "om")
                                                              case F => k_asm
                                                              case N => exact N12'
                                                              case G => exact G9
                                                              case S => exact hra3
                                                              case J0 => exact ⟨.nil, fun p hp => hp⟩
                                                              case B => exact fun i v ys news _ _ _ => ⟨_, rfl⟩
                                                              case turn6 =>
                                                                refine turn_test ?_
                                                                rintro l v6 bs qs nw3 I3 oI3 C3 oC3 D4 mC3 h9 tk9 gs9 E3 hl hv6 rfl ⟨hJ6, hkeep6⟩ hsrc6 G9 hNs3 hm6 F9 N13 off6 three6 hql
                                                                exact by
                                                                 refine ints_at hus hv6 fun p tx ex hp => ?_
                                                                 have hn6 := hm6 "p" _ rfl
                                                                 rw [ex] at hn6
                                                                 have N14 := subN (b := (I3, oI3) :: (C3, oC3) :: (D4, lsO qs qs.length) :: (K, cellO (some (Value.int (0 + (i : Int) * 1) t))) :: nw3) N13 (fm (.head _) (fm (.tail _ (.head _)) (fm (.tail _ (.tail _ (.head _))) (fm (.tail _ (.tail _ (.tail _ (hkeep6 _ hK3)))) (fun p hp => .tail _ (.tail _ (.tail _ hp)))))))
                                                                 clear N12 N12' N13
                                                                 (try dsimp only)
                                                                 walk_at "steps9"
                                                                 · rename News _ _ _ _ => N17
                                                                   have hc : ((p : Nat) : Int) ≤ 0 + (i : Int) * 1 := by assumption
                                                                   refine' EndG.of nw3 G9 (by k_asm) N17 ?sub off6 hsrc6 ⟨?_, hkeep6⟩
                                                                   case sub => walk_at "sub9"
                                                                   rw [List.take_add_one, hp, Option.toList_some, List.filter_append, List.filter_cons_of_pos (by exact decide_eq_true (by k_extra "om")), List.map_append]
                                                                   exact ints_snoc hJ6 _ _
                                                                 · rename News _ _ _ _ => N17
                                                                   have hc : ¬ ((p : Nat) : Int) ≤ 0 + (i : Int) * 1 := by assumption
                                                                   refine' EndG.of nw3 G9 (by k_asm) N17 ?sub off6 hsrc6 ⟨?_, hkeep6⟩
                                                                   case sub => walk_at "sub9"
                                                                   rw [List.take_add_one, hp, Option.toList_some, List.filter_append, List.filter_cons_of_neg (by rw [decide_eq_false (by k_extra "om")]; decide), List.filter_nil, List.append_nil]
                                                                   exact hJ6
                                                              case fin6 =>
                                                                rintro D7 qs nw3 h9 tk9 gs9 ⟨hJ6, hkeep6⟩ G9 F9 N13 hoff6
                                                                exact by
                                                                 rw [husl, List.take_length] at hJ6
                                                                 have hql8 : qs.length ≤ 8 := by rw [hJ6.length, List.length_map]; exact Nat.le_trans (List.length_filter_le _ _) hsl
                                                                 rw [hled3] at hkeep6
                                                                 have N14 := subN (b := (D7, lsO qs qs.length) :: (Dm, _) :: (I2, oI2) :: (C2, oC2) :: (D3, lsO zs zs.length) :: nw2) N13 (fm (.head _) (fm (.tail _ (hkeep6 _ (.head _))) (fm (.tail _ (hkeep6 _ (.tail _ (.head _)))) (fm (.tail _ (hkeep6 _ (.tail _ (.tail _ (.head _))))) (fm (.tail _ (hkeep6 _ (.tail _ (.tail _ (.tail _ (.head _)))))) fun p hp => .tail _ (hkeep6 p (.tail _ (.tail _ (.tail _ (.tail _ (.tail _ (.tail _ hp))))))))))))
                                                                 clear N12 N12' N13 hled3 hkeep6
                                                                 (try dsimp only)
                                                                 walk_at "steps9"
                                                                 exact by
                                                                  have hM1 := ‹_ ∈ [(-1 : Int)] ++ List.map (fun (x : Nat) => (x : Int)) _›
                                                                  have hM2 := ‹∀ a, a ∈ [(-1 : Int)] ++ List.map (fun (x : Nat) => (x : Int)) _ → a ≤ _›
                                                                  have hM := last_is W8 (W := W) (H := H) (k := i) (Nat.le_of_lt_succ hi9) hM1 hM2
                                                                  rename News _ _ _ _ => N15
                                                                  (try refine hKt _ _ ?_)
                                                                  show EndG _ _ _ _ _ _ _ _ _ _ _ _ _
                                                                  refine' EndG.of nw2 G9 (by k_asm) N15 ?sub off5 hsrc5 ⟨?_, hkeep5⟩
                                                                  case sub => walk_at "sub9"
                                                                  rw [List.take_add_one, hH, Option.toList_some, List.map_append, List.map_singleton, ← hM]
                                                                  exact ints_snoc hJ5 _ _
                                                         case fin5 =>
                                                           rintro D5 zs nw2 h9 tk9 gs9 ⟨hJ5, hkeep5⟩ G9 F9 N13 hoff5
                                                           exact by
                                                            have e5 : [H0, H1].take mvs.length = [H0, H1] := List.take_of_length_le (by rw [hml9]; exact Nat.le_refl _)
                                                            rw [e5] at hJ5
                                                            have hz2 : IntsAre zs [(lastP W H0 H1 ws i).1, (lastP W H0 H1 ws i).2] := hJ5
                                                            rw [hled2] at hkeep5
                                                            have u1 := hkeep5 _ (.head _)
                                                            have u2 := hkeep5 _ (.tail _ (.head _))
                                                            have u3 := hkeep5 _ (.tail _ (.tail _ (.head _)))
                                                            have u4 := hkeep5 _ (.tail _ (.tail _ (.tail _ (.head _))))
                                                            (try dsimp only)
                                                            (try refine hKt _ _ ?_)
                                                            show EndCJ _ _ _ _ _ _ _ _ _ _ _ _ _ _
                                                            refine ⟨h9, tk9, gs9, (D5, lsO zs zs.length) :: nw, rfl, G9, F9, subN N13 ?sub, ?off, ?jj, fun p hp => .tail _ (hkeep p hp)⟩
                                                            case sub => exact fm (.tail _ u1) (fm (.tail _ u2) (fm (.tail _ u3) (fm (.tail _ u4) (fm (.head _) fun p hp => .tail _ (hkeep5 p (.tail _ (.tail _ (.tail _ (.tail _ (.tail _ (.tail _ hp)))))))))))
                                                            case off => exact fm ⟨Ne.symm (hoff5 _ u1), Ne.symm (hoff5 _ u2), Ne.symm (hoff5 _ u3), Ne.symm (hoff5 _ u4)⟩ fun p hp => ⟨(off p (.tail _ hp)).1, (off p (.tail _ hp)).2.1, (off p (.tail _ hp)).2.2, hK p hp⟩
                                                            case jj =>
                                                              rw [List.range_succ, List.map_append, List.map_singleton]
                                                              exact (hJ.mono fun p hp => .tail _ hp).snoc (.head _) hz2
                                                    case fin4 =>
                                                      rintro la lav nw h9 tk9 gs9 ⟨hJ, hkeep⟩ G9 F9 N10 hoffl
                                                      exact by
                                                       have hLa : DuosIn nw lav ((List.range 9).map (lastP W H0 H1 ws)) := hJ
                                                       refine (law_split8S N10 (fun p hp => .tail _ (hkeep p (hcl p hp))) ⟨_, d8⟩ ⟨_, d7⟩ ⟨_, dT⟩ ⟨_, dB⟩ ⟨_, dS⟩ ⟨_, dD⟩ ⟨_, dW9⟩ ⟨_, dN'⟩ T3 T4).elim fun st6 q => ?_
                                                       have hso6 := q.1
                                                       have hss6 := q.2.2.1
                                                       have N11 := q.2.2.2
                                                       have hs6 : ∀ p ∈ st5, p ∈ st6 := fun p hp => q.2.1 _ (.tail _ (hkeep p (hstl p hp))) (off_of hso5 p hp)
                                                       have hLa6 : DuosIn st6 lav ((List.range 9).map (lastP W H0 H1 ws)) := ⟨hLa.len, fun i p e => (hLa.get i p e).elim fun a z => z.elim fun us z => z.elim fun n z => ⟨a, us, n, z.1, hss6 _ (.tail _ z.2.1) still_list, z.2.2⟩⟩
                                                       have hla6 : (la, lsO lav lav.length) ∈ st6 := hss6 _ (.head _) still_list
                                                       have hlal : lav.length = 9 := hLa.len
                                                       have N12 := subN (b := (la, lsO lav lav.length) :: (S0 + 1 + 1 + 1 + 1 + 1 + 1 + 1 + 1, o8) :: (S0 + 1 + 1 + 1 + 1 + 1 + 1 + 1, o7) :: (S0 + 1 + 1 + 1 + 1 + 1 + 1, oT) :: (S0 + 1 + 1 + 1 + 1 + 1, oB) :: (S0 + 1 + 1 + 1 + 1, oS) :: (S0 + 1 + 1 + 1, oD) :: (S0 + 1 + 1, oW) :: (S0 + 1, oN) :: (189, x3) :: (196, x4) :: (240, tabObj ps2) :: st6) N11 (fm (.tail _ (.tail _ (.tail _ (.tail _ (.tail _ (.tail _ (.tail _ (.tail _ (.tail _ (.tail _ (.tail _ hla6))))))))))) (fun p hp => hp))
                                                       clear N9 N9' N10 N11 hled hkeep hJ hcl hmS hmll hst2l hstl hoffl hLa hss6 q
                                                       exact by
                                                        (try dsimp only)
                                                        walk_at "steps9"
                                                        exact by
                                                         show wpAny _ _ _ _ _ _
                                                         refine' comp_assign (B := BName "pair") (cl := []) ?cF ?cL ?csw ?ccl ?cce ?cki ?cna ?cas ?chy ?chp ?_ ?chs
                                                         case cF => k_asm
                                                         case cL => exact rfl
                                                         case csw => kernel_rfl
                                                         case ccl => kernel_rfl
                                                         case cce => decide
                                                         case cki => rfl
                                                         case cna => decide
                                                         case cas => exact fun C => asg_name (by rfl) (by rfl)
                                                         case chy => kernel_rfl
                                                         case chp => kernel_rfl
                                                         case chs => intro _; kernel_rfl
                                                         (try dsimp only)
                                                         walk_at "steps9"
                                                         exact by
                                                          rename News _ _ _ _ => N9
                                                          refine ex_led N9 ?_
                                                          intro led hled N9'
                                                          have hstl := led_st (pre := [_]) (cells := [_, _, _, _, _, _, _, _, _, _, _]) hled
                                                          have hcl := led_cells (pre := [_]) (cells := [_, _, _, _, _, _, _, _, _, _, _]) hled
                                                          refine' SrcG.of (fun i ys nw => TextsAre ys ((List.range i).map (tldT (bg W H0 ws) (bg W H1 ws))) ∧ ∀ p ∈ led, p ∈ nw) ?W6 ?F ?N ?G ?S ?J0 ?B ?turn4 ?fin4
                                                          case W6 => exact src_list (vs := lav) (by rfl) N9' (hstl _ hla6) (by k_extra "om")
                                                          case F => k_asm
                                                          case N => exact N9'
                                                          case G => exact G9
                                                          case S => exact hstl _ hla6
                                                          case J0 => exact ⟨by simpa using TextsAre.nil, fun p hp => hp⟩
                                                          case B => exact fun i v ys news _ _ _ => ⟨_, rfl⟩
                                                          case turn4 =>
                                                            refine turn_plain ?_
                                                            rintro i v bs ys nw I oI C oC D2 mC h9 tk9 gs9 E' hi hv rfl ⟨hJ, hkeep⟩ hsrc G9 hNs hm2 F9 N10 off three hyl
                                                            refine wp_gen ?_
                                                            intro Kt Et hKt hEt
                                                            exact by
                                                             have hi9 : i < 9 := hlal ▸ hi
                                                             have hp : ((List.range 9).map (lastP W H0 H1 ws))[i]? = some (lastP W H0 H1 ws i) := by rw [List.getElem?_map, List.getElem?_range hi9]; rfl
                                                             refine hLa6.elim hp hv fun pa tx ty un hvr hpa0 => ?_
                                                             have hn9 := hm2 "pair" _ rfl
                                                             rw [hvr] at hn9
                                                             have hpa := hkeep _ (hstl _ hpa0)
                                                             refine nmd (lastP W H0 H1 ws i).1 fun x hx => nmd (lastP W H0 H1 ws i).2 fun y hy => ?_
                                                             rw [← hx, ← hy] at hpa
                                                             have hIp : IntsAre [.int x tx, .int y ty] [x, y] := .cons _ _ (.cons _ _ .nil)
                                                             have N11 := subN (b := (I, oI) :: (C, oC) :: (D2, lsO ys ys.length) :: (pa, lsO [.int x tx, .int y ty] un) :: nw) N10 (fm (.head _) (fm (.tail _ (.head _)) (fm (.tail _ (.tail _ (.head _))) (fm (.tail _ (.tail _ (.tail _ hpa))) (fun p hp => .tail _ (.tail _ (.tail _ hp)))))))
                                                             clear N9 N9' N10 hpa0
                                                             (try dsimp only)
                                                             walk_at "steps9"
                                                             · rename List.getD _ _ _ ≤ List.getD _ _ _ => hc
                                                               have hc' : y ≤ x := hc
                                                               have e : tldT (bg W H0 ws) (bg W H1 ws) i = Str.ofString "True" := by
                                                                 unfold tldT
                                                                 rw [tld_le (f := bg W H0 ws) (g := bg W H1 ws) (k := i) hx hy, decide_eq_true hc']
                                                                 rfl
                                                               rename News _ _ _ _ => N13
                                                               (try refine hKt _ _ ?_)
                                                               show EndG _ _ _ _ _ _ _ _ _ _ _ _ _
                                                               refine' EndG.of nw G9 (by k_asm) N13 ?sub off hsrc ⟨?_, hkeep⟩
                                                               case sub => walk_at "sub9"
                                                               rw [List.range_succ, List.map_append, List.map_singleton, e]
                                                               exact TextsAre.snoc hJ
                                                             · rename ¬ List.getD _ _ _ ≤ List.getD _ _ _ => hc
                                                               have hc' : ¬ y ≤ x := hc
                                                               have e : tldT (bg W H0 ws) (bg W H1 ws) i = Str.ofString "False" := by
                                                                 unfold tldT
                                                                 rw [tld_le (f := bg W H0 ws) (g := bg W H1 ws) (k := i) hx hy, decide_eq_false hc']
                                                                 rfl
                                                               rename News _ _ _ _ => N13
                                                               (try refine hKt _ _ ?_)
                                                               show EndG _ _ _ _ _ _ _ _ _ _ _ _ _
                                                               refine' EndG.of nw G9 (by k_asm) N13 ?sub off hsrc ⟨?_, hkeep⟩
                                                               case sub => walk_at "sub9"
                                                               rw [List.range_succ, List.map_append, List.map_singleton, e]
                                                               exact TextsAre.snoc hJ
                                                          case fin4 =>
                                                            rintro tl tlv nw h9 tk9 gs9 ⟨hJ, hkeep⟩ G9 F9 N10 hofft
                                                            exact by
                                                             have hT9 : TextsAre tlv ((List.range 9).map (tldT (bg W H0 ws) (bg W H1 ws))) := by rw [hlal] at hJ; exact hJ
                                                             refine nmd ((tl, lsO tlv tlv.length) :: st6) fun st7 hst7 => ?_
                                                             have hso7 : OwnOff st7 (movs S0) := by rw [hst7]; exact own_new (fun p hp => hkeep p (hcl p hp)) hofft hso6
                                                             have hs7 : ∀ p ∈ st6, p ∈ st7 := fun p hp => by rw [hst7]; exact .tail _ hp
                                                             have htl7 : (tl, lsO tlv tlv.length) ∈ st7 := by rw [hst7]; exact .head _
                                                             have hnm7 := hs7 _ (hs6 _ hnm5)
                                                             have N11 := subN (b := (nm, lsO nmv nmv.length) :: (S0 + 1 + 1 + 1 + 1 + 1 + 1 + 1 + 1, o8) :: (S0 + 1 + 1 + 1 + 1 + 1 + 1 + 1, o7) :: (S0 + 1 + 1 + 1 + 1 + 1 + 1, oT) :: (S0 + 1 + 1 + 1 + 1 + 1, oB) :: (S0 + 1 + 1 + 1 + 1, oS) :: (S0 + 1 + 1 + 1, oD) :: (S0 + 1 + 1, oW) :: (S0 + 1, oN) :: (189, x3) :: (196, x4) :: (240, tabObj ps2) :: st7) N10 (fm (.tail _ (hkeep _ (hstl _ (hs6 _ hnm5)))) (by rw [hst7]; exact keep_new (cells := [_, _, _, _, _, _, _, _, _, _, _]) hkeep hcl hstl))
                                                             clear N9 N9' N10 hled hkeep hJ hcl hstl hofft
                                                             exact by
                                                              (try dsimp only)
                                                              walk_at "steps9"
                                                              exact by
                                                               show wpAny _ _ _ _ _ _
                                                               refine' comp_gen (B := BName "name") (cl := [(Str.ofString "both", S0 + 1 + 1 + 1 + 1 + 1)]) ?cF ?ccl ?cce ?cki ?cna ?cas ?_ ?chs
                                                               case cF => k_asm
                                                               case ccl => kernel_rfl
                                                               case cce => decide
                                                               case cki => rfl
                                                               case cna => decide
                                                               case cas => exact fun C => asg_name (by rfl) (by rfl)
                                                               case chs => intro _; kernel_rfl
                                                               (try dsimp only)
                                                               walk_at "steps9"
                                                               exact by
                                                                rename News _ _ _ _ => N9
                                                                refine ex_led N9 ?_
                                                                intro led hled N9'
                                                                have hstl := led_st (pre := [_]) (cells := [_, _, _, _, _, _, _, _, _, _, _]) hled
                                                                have hcl := led_cells (pre := [_]) (cells := [_, _, _, _, _, _, _, _, _, _, _]) hled
                                                                have hmB : (S0 + 1 + 1 + 1 + 1 + 1, oB) ∈ led := hcl _ (by k_mem)
                                                                have h47 : ∀ p ∈ st4, p ∈ st7 := fun p hp => hs7 _ (hs6 _ (hs5 _ hp))
                                                                have hsh1 := rules_short W8 W H0 true
                                                                have hsh2 := rules_short W8 W H1 false
                                                                refine' SrcG.of (fun i ys nw => TextsAre ys ((List.range i).map (tldT (bg W H0 ws) (bg W H1 ws))) ∧ ∀ p ∈ led, p ∈ nw) ?W7 ?F ?N ?G ?S ?J0 ?B ?turn4 ?fin4
                                                                case W7 => exact src_list (vs := nmv) (by rfl) N9' (hstl _ hnm7) (by rw [hNm.length, List.length_map, List.length_range]; decide)
                                                                case F => k_asm
                                                                case N => exact N9'
                                                                case G => exact G9
                                                                case S => exact hstl _ hnm7
                                                                case J0 => exact ⟨by simpa using TextsAre.nil, fun p hp => hp⟩
                                                                case B => exact fun i v ys news _ _ _ => ⟨_, rfl⟩
                                                                case turn4 =>
                                                                  refine turn_plain ?_
                                                                  rintro i v bs ys nw I oI C oC D2 mC h9 tk9 gs9 E' hi hv rfl ⟨hJ, hkeep⟩ hsrc G9 hNs hm2 F9 N10 off three hyl
                                                                  refine wp_gen ?_
                                                                  intro Kt Et hKt hEt
                                                                  exact by
                                                                   refine texts_elim hNm hv fun wx tw ex hx5 => ?_
                                                                   have hi9 : i < 9 := by rw [hNm.length, List.length_map, List.length_range] at hi; exact hi
                                                                   have hwx : wx = rowTxt (ws.take i) := by
                                                                     have := hx5
                                                                     rw [List.getElem?_map, List.getElem?_range hi9] at this
                                                                     exact (Option.some.inj this).symm
                                                                   have hn9 := hm2 "name" _ rfl
                                                                   rw [ex, hwx] at hn9
                                                                   refine VB'.elim fun db b1 b2 b3 b4 uab rub usb nub rsb nrb g1 g2 g3 g4 g5 g6 => ?_
                                                                   have N11 := subN (b := (I, oI) :: (C, oC) :: (D2, lsO ys ys.length) :: (S0 + 1 + 1 + 1 + 1 + 1, oB) :: (eb, instObj 59 db) :: (db, entD w.params b1 b2 b3 b4 uab rub) :: nw) N10 (fm (.head _) (fm (.tail _ (.head _)) (fm (.tail _ (.tail _ (.head _))) (fm (.tail _ (.tail _ (.tail _ (hkeep _ hmB)))) (fm (.tail _ (.tail _ (.tail _ (hkeep _ (hstl _ (h47 _ g1)))))) (fm (.tail _ (.tail _ (.tail _ (hkeep _ (hstl _ (h47 _ g2)))))) (fun p hp => .tail _ (.tail _ (.tail _ hp)))))))))
                                                                   clear N9 N9' N10
                                                                   (try dsimp only)
                                                                   walk_at "steps9"
                                                                   exact by
                                                                    show wpAny _ _ _ _ _ _
                                                                    rename News _ _ _ _ => N9
                                                                    refine ex_led N9 ?_
                                                                    intro led2 hled2 N9'
                                                                    have hnwl : ∀ p ∈ nw, p ∈ led2 := fun p hp => by rw [hled2]; walk_at "tl9"
                                                                    refine allow_J (by k_asm) (by k_asm) (by k_asm) (by k_asm) (by exact rfl) (by exact rfl) N9' (VB'.mono fun p hp => hnwl _ (hkeep _ (hstl _ (h47 _ hp)))) (by rw [List.length_append]; k_extra "om") (two_short hsh1 hsh2) G9 (by k_room) (by k_units) ?_
                                                                    intro h10 tk10 gs10 F10 G10 N12
                                                                    exact by
                                                                     rw [allow_both W8 W H0 H1 (k := i) (Nat.le_of_lt_succ hi9)]
                                                                     rw [hled2] at N12
                                                                     clear N9 N9'
                                                                     (try dsimp only)
                                                                     walk_at "steps9"
                                                                     exact by
                                                                      (try refine hKt _ _ ?_)
                                                                      show EndG _ _ _ _ _ _ _ _ _ _ _ _ _
                                                                      rename News _ _ _ _ => N13
                                                                      refine' EndG.of nw G10 (by k_asm) N13 ?sub off hsrc ⟨?_, hkeep⟩
                                                                      case sub => walk_at "sub9"
                                                                      rw [List.range_succ, List.map_append, List.map_singleton]
                                                                      exact TextsAre.snoc hJ
                                                                case fin4 =>
                                                                  rintro an anv nw h9 tk9 gs9 ⟨hJ, hkeep⟩ G9 F9 N10 hoffa
                                                                  exact by
                                                                   have hA9 : TextsAre anv ((List.range 9).map (tldT (bg W H0 ws) (bg W H1 ws))) := by rw [hNm.length, List.length_map, List.length_range] at hJ; exact hJ
                                                                   have hok9 := tld_ok (bg W H0 ws) (bg W H1 ws)
                                                                   refine nmd ((an, lsO anv anv.length) :: st7) fun st8 hst8 => ?_
                                                                   have hso8 : OwnOff st8 (movs S0) := by rw [hst8]; exact own_new (fun p hp => hkeep p (hcl p hp)) hoffa hso7
                                                                   have hs8 : ∀ p ∈ st7, p ∈ st8 := fun p hp => by rw [hst8]; exact .tail _ hp
                                                                   have han8 : (an, lsO anv anv.length) ∈ st8 := by rw [hst8]; exact .head _
                                                                   have oa1 := off11 (off_of hso8 _ han8)
                                                                   have oa2 := off11 (off_of hso7 _ htl7)
                                                                   have oa3 := off11 (off_of hso5 _ hnm5)
                                                                   have hk7 : ∀ p ∈ st7, p ∈ nw := fun p hp => hkeep p (hstl p hp)
                                                                   have N11 := subN (b := (an, lsO anv anv.length) :: (tl, lsO tlv tlv.length) :: (nm, lsO nmv nmv.length) :: (S0 + 1 + 1 + 1 + 1 + 1 + 1 + 1 + 1, o8) :: (S0 + 1 + 1 + 1 + 1 + 1 + 1 + 1, o7) :: (S0 + 1 + 1 + 1 + 1 + 1 + 1, oT) :: (S0 + 1 + 1 + 1 + 1 + 1, oB) :: (S0 + 1 + 1 + 1 + 1, oS) :: (S0 + 1 + 1 + 1, oD) :: (S0 + 1 + 1, oW) :: (S0 + 1, oN) :: (189, x3) :: (196, x4) :: (240, tabObj ps2) :: st8) N10 (fm (.head _) (fm (.tail _ (hk7 _ htl7)) (fm (.tail _ (hk7 _ hnm7)) (by rw [hst8]; exact keep_new (cells := [_, _, _, _, _, _, _, _, _, _, _]) hkeep hcl hstl))))
                                                                   clear N9 N9' N10 hled hkeep hJ hcl hstl hoffa hmB hk7
                                                                   exact by
                                                                    (try dsimp only)
                                                                    walk_at "steps9"
                                                                    exact by
                                                                     show wpAny _ _ _ _ _ _
                                                                     rename Obj => oA
                                                                     rename oA.data = _ => dA
                                                                     refine' comp_gen (B := BName "name") (cl := [(Str.ofString "turned", S0 + 1 + 1 + 1 + 1 + 1 + 1)]) ?cF ?ccl ?cce ?cki ?cna ?cas ?_ ?chs
                                                                     case cF => k_asm
                                                                     case ccl => kernel_rfl
                                                                     case cce => decide
                                                                     case cki => rfl
                                                                     case cna => decide
                                                                     case cas => exact fun C => asg_name (by rfl) (by rfl)
                                                                     case chs => intro _; kernel_rfl
                                                                     (try dsimp only)
                                                                     walk_at "steps9"
                                                                     exact by
                                                                      rename News _ _ _ _ => N9
                                                                      refine ex_led N9 ?_
                                                                      intro led hled N9'
                                                                      have hstl := led_st (pre := [_, _, _]) (cells := [_, _, _, _, _, _, _, _, _, _, _]) hled
                                                                      have hcl := led_cells (pre := [_, _, _]) (cells := [_, _, _, _, _, _, _, _, _, _, _]) hled
                                                                      have hmB : (S0 + 1 + 1 + 1 + 1 + 1 + 1, oT) ∈ led := hcl _ (by k_mem)
                                                                      have h48 : ∀ p ∈ st4, p ∈ st8 := fun p hp => hs8 _ (h47 _ hp)
                                                                      have hnm8 := hs8 _ hnm7
                                                                      refine' SrcG.of (fun i ys nw => TextsAre ys ((List.range i).map (tldT (bg W H0 ws) (bg W H1 ws))) ∧ ∀ p ∈ led, p ∈ nw) ?W8 ?F ?N ?G ?S ?J0 ?B ?turn4 ?fin4
                                                                      case W8 => exact src_list (vs := nmv) (by rfl) N9' (hstl _ hnm8) (by rw [hNm.length, List.length_map, List.length_range]; decide)
                                                                      case F => k_asm
                                                                      case N => exact N9'
                                                                      case G => exact G9
                                                                      case S => exact hstl _ hnm8
                                                                      case J0 => exact ⟨by simpa using TextsAre.nil, fun p hp => hp⟩
                                                                      case B => exact fun i v ys news _ _ _ => ⟨_, rfl⟩
                                                                      case turn4 =>
                                                                        refine turn_plain ?_
                                                                        rintro i v bs ys nw I oI C oC D2 mC h9 tk9 gs9 E' hi hv rfl ⟨hJ, hkeep⟩ hsrc G9 hNs hm2 F9 N10 off three hyl
                                                                        refine wp_gen ?_
                                                                        intro Kt Et hKt hEt
                                                                        exact by
                                                                         refine texts_elim hNm hv fun wx tw ex hx5 => ?_
                                                                         have hi9 : i < 9 := by rw [hNm.length, List.length_map, List.length_range] at hi; exact hi
                                                                         have hwx : wx = rowTxt (ws.take i) := by
                                                                           have := hx5
                                                                           rw [List.getElem?_map, List.getElem?_range hi9] at this
                                                                           exact (Option.some.inj this).symm
                                                                         have hn9 := hm2 "name" _ rfl
                                                                         rw [ex, hwx] at hn9
                                                                         refine VT.elim fun db b1 b2 b3 b4 uab rub usb nub rsb nrb g1 g2 g3 g4 g5 g6 => ?_
                                                                         have N11 := subN (b := (I, oI) :: (C, oC) :: (D2, lsO ys ys.length) :: (S0 + 1 + 1 + 1 + 1 + 1 + 1, oT) :: (et, instObj 59 db) :: (db, entD w.params b1 b2 b3 b4 uab rub) :: nw) N10 (fm (.head _) (fm (.tail _ (.head _)) (fm (.tail _ (.tail _ (.head _))) (fm (.tail _ (.tail _ (.tail _ (hkeep _ hmB)))) (fm (.tail _ (.tail _ (.tail _ (hkeep _ (hstl _ (h48 _ g1)))))) (fm (.tail _ (.tail _ (.tail _ (hkeep _ (hstl _ (h48 _ g2)))))) (fun p hp => .tail _ (.tail _ (.tail _ hp)))))))))
                                                                         clear N9 N9' N10
                                                                         (try dsimp only)
                                                                         walk_at "steps9"
                                                                         exact by
                                                                          show wpAny _ _ _ _ _ _
                                                                          rename News _ _ _ _ => N9
                                                                          refine ex_led N9 ?_
                                                                          intro led2 hled2 N9'
                                                                          have hnwl : ∀ p ∈ nw, p ∈ led2 := fun p hp => by rw [hled2]; walk_at "tl9"
                                                                          refine allow_J (by k_asm) (by k_asm) (by k_asm) (by k_asm) (by exact rfl) (by exact rfl) N9' (VT.mono fun p hp => hnwl _ (hkeep _ (hstl _ (h48 _ hp)))) (by rw [List.length_append]; k_extra "om") (two_short hsh2 hsh1) G9 (by k_room) (by k_units) ?_
                                                                          intro h10 tk10 gs10 F10 G10 N12
                                                                          exact by
                                                                           rw [allow_turned W8 W H0 H1 (k := i) (Nat.le_of_lt_succ hi9)]
                                                                           rw [hled2] at N12
                                                                           clear N9 N9'
                                                                           (try dsimp only)
                                                                           walk_at "steps9"
                                                                           exact by
                                                                            (try refine hKt _ _ ?_)
                                                                            show EndG _ _ _ _ _ _ _ _ _ _ _ _ _
                                                                            rename News _ _ _ _ => N13
                                                                            refine' EndG.of nw G10 (by k_asm) N13 ?sub off hsrc ⟨?_, hkeep⟩
                                                                            case sub => walk_at "sub9"
                                                                            rw [List.range_succ, List.map_append, List.map_singleton]
                                                                            exact TextsAre.snoc hJ
                                                                      case fin4 =>
                                                                        rintro bn bnv nw h9 tk9 gs9 ⟨hJ, hkeep⟩ G9 F9 N10 hoffb
                                                                        exact by
                                                                         have hB9 : TextsAre bnv ((List.range 9).map (tldT (bg W H0 ws) (bg W H1 ws))) := by rw [hNm.length, List.length_map, List.length_range] at hJ; exact hJ
                                                                         refine nmd ((bn, lsO bnv bnv.length) :: st8) fun st9 hst9 => ?_
                                                                         have hso9 : OwnOff st9 (movs S0) := by rw [hst9]; exact own_new (fun p hp => hkeep p (hcl p hp)) hoffb hso8
                                                                         have hs9 : ∀ p ∈ st8, p ∈ st9 := fun p hp => by rw [hst9]; exact .tail _ hp
                                                                         have hbn9 : (bn, lsO bnv bnv.length) ∈ st9 := by rw [hst9]; exact .head _
                                                                         refine VB'.elim fun db b1 b2 b3 b4 uab rub usb nub rsb nrb g1 g2 g3 g4 g5 g6 => ?_
                                                                         have oa4 := off11 (off_of hso9 _ hbn9)
                                                                         have oa5 := off11 (off_of hso4 _ g1)
                                                                         have oa6 := off11 (off_of hso4 _ g2)
                                                                         have hk8 : ∀ p ∈ st8, p ∈ nw := fun p hp => hkeep p (hstl p hp)
                                                                         have N11 := subN (b := (bn, lsO bnv bnv.length) :: (tl, lsO tlv tlv.length) :: (eb, instObj 59 db) :: (db, entD w.params b1 b2 b3 b4 uab rub) :: (S0 + 1 + 1 + 1 + 1 + 1 + 1 + 1 + 1, o8) :: (S0 + 1 + 1 + 1 + 1 + 1 + 1 + 1, oA) :: (S0 + 1 + 1 + 1 + 1 + 1 + 1, oT) :: (S0 + 1 + 1 + 1 + 1 + 1, oB) :: (S0 + 1 + 1 + 1 + 1, oS) :: (S0 + 1 + 1 + 1, oD) :: (S0 + 1 + 1, oW) :: (S0 + 1, oN) :: (189, x3) :: (196, x4) :: (240, tabObj ps2) :: st9) N10 (fm (.head _) (fm (.tail _ (hk8 _ (hs8 _ htl7))) (fm (.tail _ (hk8 _ (h48 _ g1))) (fm (.tail _ (hk8 _ (h48 _ g2))) (by rw [hst9]; exact keep_new (cells := [_, _, _, _, _, _, _, _, _, _, _]) hkeep hcl hstl)))))
                                                                         clear N9 N9' N10 hled hkeep hJ hcl hstl hoffb hmB hk8
                                                                         exact by
                                                                          (try dsimp only)
                                                                          walk_at "steps9"
                                                                          exact by
                                                                           show wpAny _ _ _ _ _ _
                                                                           rename Obj => oK
                                                                           rename oK.data = _ => dK
                                                                           refine' comp_assign (B := BName "k") (cl := [(Str.ofString "answers", S0 + 1 + 1 + 1 + 1 + 1 + 1 + 1)]) ?cF ?cL ?csw ?ccl ?cce ?cki ?cna ?cas ?chy ?chp ?_ ?chs
                                                                           case cF => k_asm
                                                                           case cL => exact rfl
                                                                           case csw => kernel_rfl
                                                                           case ccl => kernel_rfl
                                                                           case cce => decide
                                                                           case cki => rfl
                                                                           case cna => decide
                                                                           case cas => exact fun C => asg_name (by rfl) (by rfl)
                                                                           case chy => kernel_rfl
                                                                           case chp => kernel_rfl
                                                                           case chs => intro _; kernel_rfl
                                                                           (try dsimp only)
                                                                           walk_at "steps9"
                                                                           exact by
                                                                            rename News _ _ _ _ => N9
                                                                            refine ex_led N9 ?_
                                                                            intro led hled N9'
                                                                            have hstl := led_st (pre := [_, _, _, _]) (cells := [_, _, _, _, _, _, _, _, _, _, _]) hled
                                                                            have hcl := led_cells (pre := [_, _, _, _]) (cells := [_, _, _, _, _, _, _, _, _, _, _]) hled
                                                                            have hmA : (S0 + 1 + 1 + 1 + 1 + 1 + 1 + 1, oA) ∈ led := hcl _ (by k_mem)
                                                                            have hanl := hstl _ (hs9 _ han8)
                                                                            have hl9 : ((List.range 9).map (tldT (bg W H0 ws) (bg W H1 ws))).length = 9 := by rw [List.length_map, List.length_range]
                                                                            refine' SrcG.of (fun i ys nw => ys.length = ((List.range i).filter (trn (bg W H0 ws) (bg W H1 ws))).length ∧ ∀ p ∈ led, p ∈ nw) ?W9 ?F ?N ?G ?S ?J0 ?B ?turn4 ?fin4
                                                                            case W9 => exact src_range (by rfl) (by assumption) (small_one (by decide) (by decide) (by decide) (by decide)) (rangeSize_nat _ _) (by decide)
                                                                            case F => k_asm
                                                                            case N => exact N9'
                                                                            case G => exact G9
                                                                            case S => trivial
                                                                            case J0 => exact ⟨rfl, fun p hp => hp⟩
                                                                            case B => exact fun i v ys news _ _ _ => ⟨_, rfl⟩
                                                                            case turn4 =>
                                                                              refine turn_test ?_
                                                                              rintro i v bs ys nw I oI C oC D2 mC h9 tk9 gs9 E' hi ⟨t, rfl⟩ rfl ⟨hJ, hkeep⟩ hsrc G9 hNs hm2 F9 N10 off three hyl
                                                                              exact by
                                                                               have hi9 : i < 9 := hi
                                                                               have hn9 := hm2 "k" _ rfl
                                                                               have hx1 : ((List.range 9).map (tldT (bg W H0 ws) (bg W H1 ws)))[((0 : Int) + (i : Int) * 1).toNat]? = _ := tldT_at (k := i) at_k hi9
                                                                               have hx2 : ((List.range 9).map (tldT (bg W H0 ws) (bg W H1 ws)))[((0 : Int) + (i : Int) * 1 - 1).toNat]? = _ := tldT_at (k := i - 1) at_pred (pred_lt hi9)
                                                                               have N11 := subN (b := (I, oI) :: (C, oC) :: (D2, lsO ys ys.length) :: (S0 + 1 + 1 + 1 + 1 + 1 + 1 + 1, oA) :: (an, lsO anv anv.length) :: nw) N10 (fm (.head _) (fm (.tail _ (.head _)) (fm (.tail _ (.tail _ (.head _))) (fm (.tail _ (.tail _ (.tail _ (hkeep _ hmA)))) (fm (.tail _ (.tail _ (.tail _ (hkeep _ hanl)))) (fun p hp => .tail _ (.tail _ (.tail _ hp))))))))
                                                                               clear N9 N9' N10
                                                                               (try dsimp only)
                                                                               walk_at "steps9"
                                                                               · rename News _ _ _ _ => N13
                                                                                 refine' EndG.of nw G9 (by k_asm) N13 ?sub off hsrc ⟨cnt_no hJ (trn_no1 ‹_›), hkeep⟩
                                                                                 case sub => walk_at "sub9"
                                                                               · rename News _ _ _ _ => N13
                                                                                 refine' EndG.of nw G9 (by k_asm) N13 ?sub off hsrc ⟨cnt_yes hJ (trn_0 ‹_› ‹_›), hkeep⟩
                                                                                 case sub => walk_at "sub9"
                                                                               · rename News _ _ _ _ => N13
                                                                                 refine' EndG.of nw G9 (by k_asm) N13 ?sub off hsrc ⟨cnt_yes hJ (trn_yes ‹_› ‹_›), hkeep⟩
                                                                                 case sub => walk_at "sub9"
                                                                               · rename News _ _ _ _ => N13
                                                                                 refine' EndG.of nw G9 (by k_asm) N13 ?sub off hsrc ⟨cnt_no hJ (trn_no2 ‹_› ‹_› ‹_›), hkeep⟩
                                                                                 case sub => walk_at "sub9"
                                                                            case fin4 =>
                                                                              rintro tn tnv nw h9 tk9 gs9 ⟨hJ, hkeep⟩ G9 F9 N10 hoffq
                                                                              exact by
                                                                               have hT1 : tnv.length = ((List.range 9).filter (trn (bg W H0 ws) (bg W H1 ws))).length := hJ
                                                                               have htu := turns_is W8 W H0 H1
                                                                               rw [← hT1] at htu
                                                                               refine VT.elim fun dt c1 c2 c3 c4 uat rut ust nut rst nrt j1 j2 j3 j4 j5 j6 => ?_
                                                                               have hkl := kept_len (bg W H0 ws) (bg W H1 ws) (ws := ws)
                                                                               have hkok := kept_ok W8 (bg W H0 ws) (bg W H1 ws)
                                                                               have hkA : (uv2.length : Int) = ((agsOf W H1 ws).length : Int) := by rw [A2.length]
                                                                               have hkK : (usb.length : Int) = ((keptOf (bg W H0 ws) (bg W H1 ws) ws).length : Int) := by rw [g5.length]
                                                                               have htl9 : tnv.length ≤ 9 := by rw [hT1]; exact Nat.le_trans (List.length_filter_le _ _) (by simp)
                                                                               have hul9 : uv2.length ≤ 8 := by rw [A2.length]; exact hal2
                                                                               have hbl9 : usb.length ≤ 8 := by rw [g5.length]; exact hkl
                                                                               refine nmd ((tn, lsO tnv tnv.length) :: st9) fun st10 hst10 => ?_
                                                                               have hs10 : ∀ p ∈ st9, p ∈ st10 := fun p hp => by rw [hst10]; exact .tail _ hp
                                                                               have h410 : ∀ p ∈ st4, p ∈ st10 := fun p hp => hs10 _ (hs9 _ (h48 _ hp))
                                                                               have h210 : ∀ p ∈ st2, p ∈ st10 := fun p hp => h410 _ (hs4 _ (hs3 _ hp))
                                                                               have N12 := subN (b := (S0 + 1 + 1 + 1 + 1 + 1 + 1 + 1 + 1, oK) :: (S0 + 1 + 1 + 1 + 1 + 1 + 1 + 1, oA) :: (S0 + 1 + 1 + 1 + 1 + 1 + 1, oT) :: (S0 + 1 + 1 + 1 + 1 + 1, oB) :: (S0 + 1 + 1 + 1 + 1, oS) :: (S0 + 1 + 1 + 1, oD) :: (S0 + 1 + 1, oW) :: (S0 + 1, oN) :: (189, x3) :: (196, x4) :: (240, tabObj ps2) :: st10) N10 (by rw [hst10]; exact keep_new (cells := [_, _, _, _, _, _, _, _, _, _, _]) hkeep hcl hstl)
                                                                               have hin : ∀ p ∈ st10, p ∈ (S0 + 1 + 1 + 1 + 1 + 1 + 1 + 1 + 1, oK) :: (S0 + 1 + 1 + 1 + 1 + 1 + 1 + 1, oA) :: (S0 + 1 + 1 + 1 + 1 + 1 + 1, oT) :: (S0 + 1 + 1 + 1 + 1 + 1, oB) :: (S0 + 1 + 1 + 1 + 1, oS) :: (S0 + 1 + 1 + 1, oD) :: (S0 + 1 + 1, oW) :: (S0 + 1, oN) :: (189, x3) :: (196, x4) :: (240, tabObj ps2) :: st10 := fun p hp => by walk_at "tl9"
                                                                               have N11 := subN (b := (tn, lsO tnv tnv.length) :: (e2, instObj 59 d2') :: (d2', entD w.params t5 t6 t7 t8 ua2 ru2) :: (ua2, lsO uv2 nu2) :: (uab, lsO usb nub) :: (et, instObj 59 dt) :: (dt, entD w.params c1 c2 c3 c4 uat rut) :: (uat, lsO ust nut) :: (e1, instObj 59 d1') :: (d1', entD w.params t1 t2 t3 t4 ua1 ru1) :: (S0 + 1 + 1 + 1 + 1 + 1 + 1 + 1 + 1, oK) :: (S0 + 1 + 1 + 1 + 1 + 1 + 1 + 1, oA) :: (S0 + 1 + 1 + 1 + 1 + 1 + 1, oT) :: (S0 + 1 + 1 + 1 + 1 + 1, oB) :: (S0 + 1 + 1 + 1 + 1, oS) :: (S0 + 1 + 1 + 1, oD) :: (S0 + 1 + 1, oW) :: (S0 + 1, oN) :: (189, x3) :: (196, x4) :: (240, tabObj ps2) :: st10) N12 (fm (hin _ (by rw [hst10]; exact .head _)) (fm (hin _ (h210 _ q21)) (fm (hin _ (h210 _ q22)) (fm (hin _ (h210 _ q23)) (fm (hin _ (h410 _ g3)) (fm (hin _ (h410 _ j1)) (fm (hin _ (h410 _ j2)) (fm (hin _ (h410 _ j3)) (fm (hin _ (h210 _ q11)) (fm (hin _ (h210 _ q12)) fun _ hp => hp))))))))))
                                                                               clear N9 N9' N10 N12 hled hkeep hJ hcl hstl hoffq hmA hanl hin
                                                                               exact by
                                                                                (try dsimp only)
                                                                                walk_at "steps9"
                                                                                exact by
                                                                                 show wpAny _ _ _ _ _ _
                                                                                 refine' comp_assign (B := BName "row") (cl := [(Str.ofString "kept", S0 + 1 + 1 + 1 + 1 + 1 + 1 + 1 + 1)]) ?cF ?cL ?csw ?ccl ?cce ?cki ?cna ?cas ?chy ?chp ?_ ?chs
                                                                                 case cF => k_asm
                                                                                 case cL => exact rfl
                                                                                 case csw => kernel_rfl
                                                                                 case ccl => kernel_rfl
                                                                                 case cce => decide
                                                                                 case cki => rfl
                                                                                 case cna => decide
                                                                                 case cas => exact fun C => asg_name (by rfl) (by rfl)
                                                                                 case chy => kernel_rfl
                                                                                 case chp => kernel_rfl
                                                                                 case chs => intro _; kernel_rfl
                                                                                 (try dsimp only)
                                                                                 walk_at "steps9"
                                                                                 exact by
                                                                                  rename News _ _ _ _ => N9
                                                                                  rename Addr => T0
                                                                                  refine ex_led N9 ?_
                                                                                  intro led hled N9'
                                                                                  have hstl := led_st (pre := [_, _, _, _, _, _, _, _, _, _, _]) (cells := [_, _, _, _, _, _, _, _, _, _, _]) hled
                                                                                  have hcl := led_cells (pre := [_, _, _, _, _, _, _, _, _, _, _]) (cells := [_, _, _, _, _, _, _, _, _, _, _]) hled
                                                                                  have hmK : (S0 + 1 + 1 + 1 + 1 + 1 + 1 + 1 + 1, oK) ∈ led := hcl _ (by k_mem)
                                                                                  have hubl := hstl _ (h410 _ g3)
                                                                                  have hT0 : (T0, tupL [.ref ua1, .ref ua2]) ∈ led := by rw [hled]; exact .head _
                                                                                  refine' SrcG.of (fun i ys nw => PartsIn nw ys (List.replicate i (keptOf (bg W H0 ws) (bg W H1 ws) ws)) ∧ ∀ p ∈ led, p ∈ nw) ?W10 ?F ?N ?G ?S ?J0 ?B ?turn4 ?fin4
                                                                                  case W10 => exact src_tuple (vs := [.ref ua1, .ref ua2]) (by rfl) N9' hT0 (by simp)
                                                                                  case F => k_asm
                                                                                  case N => exact N9'
                                                                                  case G => exact G9
                                                                                  case S => exact hT0
                                                                                  case J0 => exact ⟨PartsIn.nil, fun p hp => hp⟩
                                                                                  case B => exact fun i v ys news _ _ _ => ⟨_, rfl⟩
                                                                                  case turn4 =>
                                                                                    refine turn_plain ?_
                                                                                    rintro i v bs ys nw I oI C oC D2 mC h9 tk9 gs9 E' hi hv rfl ⟨hJ, hkeep⟩ hsrc G9 hNs hm2 F9 N10 off three hyl
                                                                                    refine wp_gen ?_
                                                                                    intro Kt Et hKt hEt
                                                                                    exact by
                                                                                     refine ends_at W8 (h210 _ q13) A1 (h210 _ q23) A2 hv fun ra us un A hvr hra hus hA8 hKA hdr9 => ?_
                                                                                     have hn9 := hm2 "row" _ rfl
                                                                                     rw [hvr] at hn9
                                                                                     have hul : (us.length : Int) = ((A.length : Nat) : Int) := by rw [hus.length]
                                                                                     have husl := hus.length
                                                                                     have N11 := subN (b := (I, oI) :: (C, oC) :: (D2, lsO ys ys.length) :: (S0 + 1 + 1 + 1 + 1 + 1 + 1 + 1 + 1, oK) :: (uab, lsO usb nub) :: (ra, lsO us un) :: nw) N10 (fm (.head _) (fm (.tail _ (.head _)) (fm (.tail _ (.tail _ (.head _))) (fm (.tail _ (.tail _ (.tail _ (hkeep _ hmK)))) (fm (.tail _ (.tail _ (.tail _ (hkeep _ hubl)))) (fm (.tail _ (.tail _ (.tail _ (hkeep _ (hstl _ hra))))) (fun p hp => .tail _ (.tail _ (.tail _ hp)))))))))
                                                                                     clear N9 N9' N10
                                                                                     (try dsimp only)
                                                                                     walk_at "steps9"
                                                                                     exact by
                                                                                      rename TextsAre _ (List.drop _ _) => hT6
                                                                                      rw [hdr9] at hT6
                                                                                      rename News _ _ _ _ => N12
                                                                                      rename Addr => D6
                                                                                      (try refine hKt _ _ ?_)
                                                                                      show EndG _ _ _ _ _ _ _ _ _ _ _ _ _
                                                                                      refine' EndG.of ((D6, lsO _ 0) :: nw) G9 ?F N12 ?sub ?off (.tail _ hsrc) ⟨?pp, fun p hp => .tail _ (hkeep p hp)⟩
                                                                                      case F => k_asm
                                                                                      case sub => walk_at "sub9"
                                                                                      case off => exact fm ⟨by k_ne, by k_ne, by k_ne⟩ off
                                                                                      case pp =>
                                                                                        rw [List.replicate_succ']
                                                                                        exact (hJ.mono fun p hp => .tail _ hp).snoc (.head _) hT6
                                                                                  case fin4 =>
                                                                                    rintro en env nw h9 tk9 gs9 ⟨hJ, hkeep⟩ G9 F9 N10 hoffe
                                                                                    exact by
                                                                                     have hP : PartsIn nw env [keptOf (bg W H0 ws) (bg W H1 ws) ws, keptOf (bg W H0 ws) (bg W H1 ws) ws] := hJ
                                                                                     have N11 := subN (b := (en, lsO env env.length) :: (uab, lsO usb nub) :: (S0 + 1 + 1 + 1 + 1 + 1 + 1 + 1 + 1, oK) :: (189, x3) :: (196, x4) :: (240, tabObj ps2) :: nw) N10 (fm (.head _) (fm (.tail _ (hkeep _ hubl)) (fm (.tail _ (hkeep _ hmK)) (fm (.tail _ (hkeep _ (hcl _ (by k_mem)))) (fm (.tail _ (hkeep _ (hcl _ (by k_mem)))) (fm (.tail _ (hkeep _ (hcl _ (by k_mem)))) fun p hp => .tail _ hp))))))
                                                                                     clear N9 N9' N10 hled hkeep hJ hcl hstl hoffe hmK hubl
                                                                                     exact by
                                                                                      (try dsimp only)
                                                                                      walk_at "steps9"
                                                                                      exact by
                                                                                       show wpAny _ _ _ _ _ _
                                                                                       rename News _ _ _ _ => N9
                                                                                       rename Addr => DK
                                                                                       have hsb := h410 _ g3
                                                                                       have hkk := ok_two hkok hkok
                                                                                       have hPa := hP.mono (news' := (DK, lsO [.ref uab, .ref uab] 0) :: (en, lsO env env.length) :: (uab, lsO usb nub) :: (S0 + 1 + 1 + 1 + 1 + 1 + 1 + 1 + 1, oK) :: (189, x3) :: (196, x4) :: (240, tabObj ps2) :: nw) (fun p hp => .tail _ (.tail _ (.tail _ (.tail _ (.tail _ (.tail _ (.tail _ hp)))))))
                                                                                       have hPb := parts_two (news := (DK, lsO [.ref uab, .ref uab] 0) :: (en, lsO env env.length) :: (uab, lsO usb nub) :: (S0 + 1 + 1 + 1 + 1 + 1 + 1 + 1 + 1, oK) :: (189, x3) :: (196, x4) :: (240, tabObj ps2) :: nw) (.tail _ (.tail _ (.head _))) g5 (.tail _ (.tail _ (.head _))) g5
                                                                                       refine eq_parts_same rfl N9 (.tail _ (.head _)) (.head _) hPa hPb hkk hkk (by k_units) ?_
                                                                                       exact by
                                                                                        (try dsimp only)
                                                                                        walk_at "steps9"
                                                                                        exact by
                                                                                         rename News _ _ _ _ => N13
                                                                                         (try refine hK0 _ _ ?_)
                                                                                         subst hgh hdr hos; show EndP _ _ _ (.ok (.ret (.bool true))) _
                                                                                         exact ⟨fun a o e => Fr.keep (by k_asm) a o e, rfl, fun _ => rfl, G9, grown_three N13 (by k_mem) (by k_mem) (by k_mem) T3 T4, _, rfl, by wrow_post⟩)
end
end Mine
theorem PySem.Challenge.cw_wn0107_02_holds : PySem.Challenge.rw_wn0107_02.Holds :=
  Mine.t1
