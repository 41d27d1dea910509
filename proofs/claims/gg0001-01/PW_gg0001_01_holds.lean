import PyProof.Rows.All
import Wide.All
import OpenK.AllK
import Wide.FinOn
import Lean
import PySem.Challenge.RW_gg0001_01
set_option Elab.async false
section
open PySem PySem.W PyProof.Rows
namespace Mine
set_option maxRecDepth 100000 in
set_option maxHeartbeats 8000000 in
open_top hd for PySem.Challenge.rw_gg0001_01
end Mine
end
section
open PySem PySem.W PyProof.Rows PySem.Calls
namespace Mine
open PySem.Sre PySem.Builtin.Re
def reC : Array Nat := #[14, 8, 1, 2, 4294967295, 1, 1, 34, 0, 16, 34, 28, 22, 0, 4294967295, 7, 11, 13, 7, 21, 16, 34, 16, 92, 0, 15, 8, 6, 16, 92, 2, 15, 2, 0, 1, 16, 34, 1]
/-- the machine ahead of a try at p -/
def reAt (text : Array Nat) (lim p : Nat) (o : Bool) (sn : Sre.Seen) : M :=
  { code := reC, text, lim, start := p, lastStart := lim, mustAdvance := false, pc := 9, pos := p, handed := p, outermost := o, marks := #[],
    frames := [{ wait := .nextStart, pc := 9, pos := p, outermost := o }], weight := 1, seen := sn }
def reSaid (m : M) (sn : Sre.Seen) : M := { m with seen := sn, answer := some false }
theorem re_step1 {text : Array Nat} {lim p : Nat} {o : Bool} {sn : Sre.Seen} (h : p < lim → text.getD p 0 ≠ 34) :
    (reAt text lim p o sn).step = reSaid (reAt text lim p o sn) (sn.add 16) := by
  unfold M.step reAt
  simp only [Option.isSome_none, Bool.false_eq_true, if_false]
  rw [if_pos (by decide)]
  unfold M.exec
  simp only [M.word, reC]
  show (if p ≥ lim then _ else _) = _
  by_cases hp : p ≥ lim
  · rw [if_pos hp]; rfl
  · rw [if_neg hp]
    have := h (by omega)
    have e : accepts reC 9 (text.getD p 0) (sn.add 16) = .ok (false, sn.add 16) := by
      show Except.ok (text.getD p 0 == 34, _) = _
      rw [beq_false_of_ne this]
    show (match accepts reC 9 (text.getD p 0) (sn.add 16) with | .error why => _ | .ok (false, seen) => _ | .ok (true, seen) => _) = _
    rw [e]; rfl
theorem re_step2 {text : Array Nat} {lim p : Nat} {o : Bool} {sn sn' : Sre.Seen} (h : p < lim) :
    (reSaid (reAt text lim p o sn) sn').step = reAt text lim (p + 1) false sn' := by
  unfold M.step reSaid reAt
  simp only [Option.isSome_none, Bool.false_eq_true, if_false]
  unfold M.resume
  simp only
  rw [if_pos h]
  rfl
theorem re_step3 {text : Array Nat} {lim : Nat} {o : Bool} {sn sn' : Sre.Seen} :
    ((reSaid (reAt text lim lim o sn) sn').step.step).outcome = some .failed := by
  unfold M.step reSaid reAt
  simp only [Option.isSome_none, Bool.false_eq_true, if_false]
  unfold M.resume
  simp
  rfl
theorem re_step3a {text : Array Nat} {lim : Nat} {o : Bool} {sn sn' : Sre.Seen} :
    ((reSaid (reAt text lim lim o sn) sn').step).outcome = none := by
  unfold M.step reSaid reAt
  simp only [Option.isSome_none, Bool.false_eq_true, if_false]
  unfold M.resume
  simp
  rfl
theorem re_runSucc (n : Nat) (m : M) (h : m.outcome = none) : M.runFor (n + 1) m = M.runFor n m.step := by
  rw [M.runFor]; simp [h]
theorem re_runDone : ∀ (n : Nat) (m : M), m.outcome.isSome = true → M.runFor n m = m
  | 0, _, _ => rfl
  | n + 1, m, h => by rw [M.runFor]; simp [h]
theorem re_runAdd : ∀ (a b : Nat) (m : M), M.runFor b (M.runFor a m) = M.runFor (a + b) m
  | 0, b, m => by rw [Nat.zero_add]; rfl
  | a + 1, b, m => by
    cases h : m.outcome with
    | none => rw [re_runSucc a m h, re_runAdd a b, Nat.add_right_comm, re_runSucc _ m h]
    | some _ => rw [re_runDone _ m (by rw [h]; rfl), re_runDone _ m (by rw [h]; rfl), re_runDone _ m (by rw [h]; rfl)]
theorem re_run {text : Array Nat} {lim : Nat} (ht : ∀ i, i < lim → text.getD i 0 ≠ 34) : ∀ (k p : Nat) (o : Bool) (sn : Sre.Seen), p + k = lim →
    (M.runFor (2 * k + 3) (reAt text lim p o sn)).outcome = some .failed
  | 0, p, o, sn, h => by
    rw [Nat.add_zero] at h; subst h
    rw [re_runSucc 2 _ rfl, re_step1 (ht p), re_runSucc 1 _ rfl]
    have e := re_step3 (text := text) (lim := p) (o := o) (sn := sn) (sn' := sn.add 16)
    rw [re_runSucc 0 _ (re_step3a ..)]; exact e
  | k + 1, p, o, sn, h => by
    rw [show 2 * (k + 1) + 3 = (2 * k + 3) + 1 + 1 from by omega, re_runSucc _ _ rfl, re_step1 (ht p), re_runSucc _ _ rfl, re_step2 (by omega)]
    exact re_run ht k (p + 1) false _ (by omega)
theorem re_start_long {text : Array Nat} {lim : Nat} (h : 2 ≤ lim) : forSearch reC text 0 0 lim false = reAt text lim 0 true (({} : Sre.Seen).add 14) := by
  unfold forSearch
  have e : (decide (0 > lim) || decide (lim - 0 < (header reC).1)) = false := by
    rw [show (header reC).1 = 2 from rfl]; simp; omega
  simp only [e]
  rfl
theorem re_start_short {text : Array Nat} {lim : Nat} (h : lim < 2) : (M.runFor 3 (forSearch reC text 0 0 lim false)).outcome = some .failed := by
  have : lim = 0 ∨ lim = 1 := by omega
  rcases this with rfl | rfl <;> rfl
theorem re_search {text : Array Nat} {lim : Nat} (ht : ∀ i, i < lim → text.getD i 0 ≠ 34) : (M.runFor (2 * lim + 3) (forSearch reC text 0 0 lim false)).outcome = some .failed := by
  by_cases h : lim < 2
  · have e := re_start_short (text := text) h
    rw [show 2 * lim + 3 = 3 + 2 * lim from by omega, ← re_runAdd, re_runDone _ _ (by rw [e]; rfl)]
    exact e
  · rw [re_start_long (by omega)]
    exact re_run ht lim 0 true _ (by omega)
section
variable {prog : Program} {w : World} {A : Around} {E : Value → Shared → Prop} {s : Shared}
theorem re_drive {Q : M → Shared → Prop} : ∀ (n k : Nat) (m : M), k ≤ 4 * n → (M.runFor k m).outcome = some .failed → 0 < n → (∀ m', m'.outcome = some .failed → Q m' s) → wpAny (model prog w) A (reDrive n m) Q E s
  | 0, _, _, _, _, h0, _ => absurd h0 (Nat.lt_irrefl _)
  | n + 1, k, m, hk, hm, _, h => by
    unfold reDrive
    cases e : (M.runFor 4 m).outcome with
    | some x =>
      have : x = .failed := by
        by_cases hk4 : 4 ≤ k
        · have e2 := hm
          rw [show k = 4 + (k - 4) from by omega, ← re_runAdd, re_runDone _ _ (by rw [e]; rfl), e] at e2
          exact Option.some.inj e2
        · have e2 := e
          rw [show 4 = k + (4 - k) from by omega, ← re_runAdd, re_runDone _ _ (by rw [hm]; rfl), hm] at e2
          exact (Option.some.inj e2).symm
      subst this
      have e' : (M.runFor reTurnSteps m).outcome = some .failed := e
      simp only [e', Option.isSome_some, if_true]
      exact wpAny_pure (h _ e')
    | none =>
      have e' : (M.runFor reTurnSteps m).outcome = none := e
      simp only [e', Option.isSome_none, Bool.false_eq_true, if_false]
      have hk4 : 4 < k := by
        apply Nat.lt_of_not_le
        intro q
        have e2 := e
        rw [show 4 = k + (4 - k) from by omega, ← re_runAdd, re_runDone _ _ (by rw [hm]; rfl), hm] at e2
        cases e2
      refine wpAny_bind (wpAny_rule ?_)
      refine re_drive n (k - 4) _ (by omega) ?_ (by omega) h
      show (M.runFor (k - 4) (M.runFor 4 m)).outcome = _
      rw [re_runAdd, show 4 + (k - 4) = k from by omega]
      exact hm
theorem re_toEnd {m : M} {k : Nat} {Q : Option M → Shared → Prop} (hk : k ≤ 4 * 2 ^ 64) (hm : (M.runFor k m).outcome = some .failed) (h : Q none s) : wpAny (model prog w) A (reRunToEnd m) Q E s := by
  unfold reRunToEnd
  refine wpAny_bind (re_drive _ k m hk hm (by decide) fun m' hm' => ?_)
  refine wpAny_bind ?_
  refine wpAny_forIn_list _ (fun _ _ s' => s' = s) _ ?_ ?_ _ _ rfl
  · rintro i rest b s' rfl
    by_cases hs : m'.seen.has i = true
    · simp only [hs, if_true]
      first | exact wpAny_rule (wpAny_pure rfl) | exact wpAny_bind (wpAny_rule (wpAny_pure rfl))
    · simp only [hs, Bool.false_eq_true, if_false]
      first | exact wpAny_pure rfl | exact wpAny_bind (wpAny_pure (wpAny_pure rfl))
  · rintro b s' rfl
    rw [hm']
    exact wpAny_pure h
end
end Mine
end
section
open PySem PySem.W PyProof.Rows PySem.Calls
namespace Mine
open PySem.Sre PySem.Builtin.Re
theorem plainAttrs_pat : PlainAttrs "re.Pattern" :=
  ⟨⟨"object.__getattribute__", by rw [typeLookup_type, builtinLookup_eq_fast]; kernel_rfl, by decide +kernel⟩, by rw [typeLookup_type, builtinLookup_eq_fast]; kernel_rfl⟩
theorem slot_sub : Slot "re.Pattern" "sub" "re.Pattern.sub" :=
  .of (owner := "re.Pattern") (n := "sub") (by rw [typeLookup_type, builtinLookup_eq_fast]; kernel_rfl) (by decide +kernel) (by decide +kernel) (by decide +kernel)
    (by first | exact .inl (by decide +kernel) | exact .inr (by decide +kernel)) (by rw [isSubtype_type]; kernel_rfl)
theorem entry_sub : entryFor table "re.Pattern.sub" = some Builtin.«re.Pattern.sub» := entryFor_of_tree (by kernel_rfl)
theorem type_sub : typeOf (.builtin "re.Pattern.sub") = pure (.type "method_descriptor") := by show builtinType _ = _; rw [builtinType_eq_fast]; kernel_rfl
theorem args_sub (a b c : Value) : argsOk "re.Pattern.sub" ⟨[a, b, c], []⟩ := by unfold argsOk; kernel_rfl
theorem plain_loop : plainId "re.Pattern.sub.loop" = true := by decide +kernel
theorem entry_loop : entryFor table "re.Pattern.sub.loop" = some Builtin.«re.Pattern.sub.loop» := entryFor_of_tree (by kernel_rfl)
theorem slot_count : Slot "bytes" "count" "bytes.count" :=
  .of (owner := "bytes") (n := "count") (by rw [typeLookup_type, builtinLookup_eq_fast]; kernel_rfl) (by decide +kernel) (by decide +kernel) (by decide +kernel)
    (by first | exact .inl (by decide +kernel) | exact .inr (by decide +kernel)) (by rw [isSubtype_type]; kernel_rfl)
theorem entry_count : entryFor table "bytes.count" = some Builtin.«bytes.count» := entryFor_of_tree (by kernel_rfl)
theorem type_count : typeOf (.builtin "bytes.count") = pure (.type "method_descriptor") := by show builtinType _ = _; rw [builtinType_eq_fast]; kernel_rfl
theorem args_count (a b : Value) : argsOk "bytes.count" ⟨[a, b], []⟩ := by unfold argsOk; kernel_rfl
theorem slot_join : Slot "bytes" "join" "bytes.join" :=
  .of (owner := "bytes") (n := "join") (by rw [typeLookup_type, builtinLookup_eq_fast]; kernel_rfl) (by decide +kernel) (by decide +kernel) (by decide +kernel)
    (by first | exact .inl (by decide +kernel) | exact .inr (by decide +kernel)) (by rw [isSubtype_type]; kernel_rfl)
theorem entry_join : entryFor table "bytes.join" = some Builtin.«bytes.join» := entryFor_of_tree (by kernel_rfl)
theorem args_join (a b : Value) : argsOk "bytes.join" ⟨[a, b], []⟩ := by unfold argsOk; kernel_rfl
end Mine
end
section
open PySem PySem.W PyProof.Rows PySem.Calls
namespace Mine
open PySem.Sre PySem.Builtin.Re PySem.Builtin
section
variable {prog : Program} {w : World} {A : Around} {E : Value → Shared → Prop} {s : Shared}
theorem call_none : typeLookup (.type "bytes") "__call__" = pure none := by rw [typeLookup_type, builtinLookup_eq_fast]; kernel_rfl
theorem sub_bytes : isSubtype (.type "bytes") (.type "bytes") = pure true := by rw [isSubtype_type]; kernel_rfl
theorem isBytes {Q : Bool → Shared → Prop} {d : Array UInt8} {t : Tok} (h : Q true s) : wpAny (model prog w) A (isInstance (.bytes d t) (.type "bytes")) Q E s :=
  wpAny_isInstance_val rfl sub_bytes h
def codeVals : Array Value := #[.int 14 0, .int 8 0, .int 1 0, .int 2 0, .int 4294967295 0, .int 1 0, .int 1 0, .int 34 0, .int 0 0, .int 16 0, .int 34 0, .int 28 0, .int 22 0, .int 0 0, .int 4294967295 0, .int 7 0, .int 11 0, .int 13 0, .int 7 0, .int 21 0, .int 16 0, .int 34 0, .int 16 0, .int 92 0, .int 0 0, .int 15 0, .int 8 0, .int 6 0, .int 16 0, .int 92 0, .int 2 0, .int 15 0, .int 2 0, .int 0 0, .int 1 0, .int 16 0, .int 34 0, .int 1 0]
theorem codeVals_raw : (codeVals.map reRawOf).map (·.toNat) = reC := by
  unfold codeVals reC
  simp [reRawOf]
def patFields (c : Addr) (x y u v : Value) : Array Value := #[x, y, .int 0 0, u, v, .ref c, .int 1 0]
theorem re_rawItems {c : Addr} {o : Obj} {n : Nat} {Q : Array Int → Shared → Prop} (ho : s.heap.get? c = some o) (hd : o.data = .seq codeVals n) (h : Q (codeVals.map reRawOf) s) :
    wpAny (model prog w) A (reRawItems (.ref c)) Q E s := by
  unfold reRawItems
  refine wpAny_bind (wpAny_seqItems ho hd ?_)
  exact wpAny_pure h
theorem re_textOf {d : Array UInt8} {t : Tok} : reTextOf (.bytes d t) = pure (d.map (·.toNat), 1) := by
  unfold reTextOf
  show (Bytes.bufferQuiet? "_sre" (.bytes d t) >>= _) = _
  rw [KBy.quiet_eq]; rfl
theorem re_whole {p c : Addr} {op oc : Obj} {n : Nat} {x y u v : Value} {d : Array UInt8} {t : Tok} {Q : ReTarget → Shared → Prop}
    (hp : s.heap.get? p = some op) (hpd : op.data = .fields (patFields c x y u v)) (hc : s.heap.get? c = some oc) (hcd : oc.data = .seq codeVals n)
    (h : Q { pattern := .ref p, string := .bytes d t, code := reC, text := d.map (·.toNat), kind := 1, groups := 0, pos := 0, lim := d.size } s) :
    wpAny (model prog w) A (reWholeTarget (.ref p) (.bytes d t)) Q E s := by
  unfold reWholeTarget
  refine wpAny_bind ?_
  unfold fieldsOf
  refine wpAny_bind (wpAny_load hp ?_)
  rw [hpd]
  refine wpAny_pure ?_
  refine wpAny_bind (wpAny_of_eq re_textOf ?_)
  show wpAny _ _ (reNoCollectionInside (.bytes d t) 1 >>= _) _ _ _
  refine wpAny_bind ?_
  unfold reNoCollectionInside
  show wpAny _ _ (isInstance (.bytes d t) (.type "bytes") >>= _) _ _ _
  refine wpAny_bind (isBytes ?_)
  refine wpAny_pure ?_
  show wpAny _ _ (reRawItems (.ref c) >>= _) _ _ _
  refine wpAny_bind (re_rawItems hc hcd ?_)
  refine wpAny_pure ?_
  rw [codeVals_raw, Array.size_map]
  exact h
/-- nothing that stood is changed -/
def Grows (h h' : Heap) : Prop := ∀ b o, h.get? b = some o → h'.get? b = some o
theorem Grows.refl (h : Heap) : Grows h h := fun _ _ e => e
theorem Grows.trans {h h' h'' : Heap} (x : Grows h h') (y : Grows h' h'') : Grows h h'' := fun b o e => y b o (x b o e)
theorem Grows.push (h : Heap) (o : Obj) : Grows h (h.push o) := fun _ _ e => Heap.get?_push_of_some _ e
theorem Grows.pushUpd (h : Heap) (o : Obj) (f : Obj → Obj) : Grows h ((h.push o).update h.objs.size f) := fun b x e =>
  (Heap.get?_update_ne _ _ _ _ (Nat.ne_of_lt (Heap.lt_size e))).trans (Heap.get?_push_of_some _ e)
theorem re_slice_all {d : Array UInt8} {Q : Value → Shared → Prop} (hs : d.size ≤ sizeLine) (h : Q (.bytes d s.toks) { s with toks := s.toks + 1 }) :
    wpAny (model prog w) A (reSlice (d.map (·.toNat)) 1 0 d.size) Q E s := by
  have e : ((d.map (·.toNat)).extract 0 d.size).map (·.toUInt8) = d := by
    rw [← Array.size_map (f := fun x : UInt8 => x.toNat), Array.extract_size]
    simp [Array.map_map, Function.comp_def]
  unfold reSlice
  show wpAny _ _ (mkBytes (((d.map (·.toNat)).extract 0 d.size).map (·.toUInt8))) _ _ _
  rw [e]
  unfold mkBytes
  rw [if_neg (by omega)]
  exact wpAny_bind (wpAny_fresh (wpAny_pure h))
theorem re_slice_none {x : Array Nat} {Q : Value → Shared → Prop} (h : Q (.bytes #[] s.toks) { s with toks := s.toks + 1 }) :
    wpAny (model prog w) A (reSlice x 1 0 0) Q E s := by
  have e : (x.extract 0 0).map (·.toUInt8) = #[] := by simp
  unfold reSlice
  show wpAny _ _ (mkBytes ((x.extract 0 0).map (·.toUInt8))) _ _ _
  rw [e]
  exact wpAny_bind (wpAny_fresh (wpAny_pure h))
theorem join_one {l : Addr} {o : Obj} {n : Nat} {d e : Array UInt8} {t u : Tok} {Q : Value → Shared → Prop} (ho : s.heap.get? l = some o) (hc : o.cls = .type "list") (hd : o.data = .seq #[.bytes d t] n)
    (h : Q (.bytes d t) s) : wpAny (model prog w) A (call (.builtin "bytes.join") [.bytes e u, .ref l]) Q E s := by
  refine wpAny_call_entry slot_join (typeIs_bytes _ _ _) entry_join ?_ (args_join _ _)
  show wpAny _ _ (Bytes.joinItems (.ref l) >>= _) _ _ _
  refine wpAny_bind ?_
  unfold Bytes.joinItems
  refine wpAny_bind (wpAny_typeOf (T := "list") ⟨o, ho, hc⟩ ?_)
  refine wpAny_pure ?_
  refine wpAny_bind (wpAny_seqItems ho hd ?_)
  refine wpAny_bind (wpAny_typeOf (T := "bytes") (typeIs_bytes _ _ _) ?_)
  show wpAny _ _ (rule "bytes.join.one-item" >>= fun _ => ret (.bytes d t)) _ _ _
  exact wpAny_bind (wpAny_rule (wpAny_pure ⟨_, rfl, h⟩))
theorem re_litOk {d : Array UInt8} {t : Tok} {Q : Unit → Shared → Prop} (h : Q () s) : wpAny (model prog w) A (reLiteralCannotBeTurned (.bytes d t)) Q E s := by
  unfold reLiteralCannotBeTurned
  refine wpAny_bind (wpAny_of_eq (show asStr? (.bytes d t) = pure none from rfl) ?_)
  show wpAny _ _ (isInstance (.bytes d t) (.type "bytes") >>= _) _ _ _
  exact wpAny_bind (isBytes (wpAny_pure h))
set_option maxHeartbeats 4000000 in
theorem re_sub {p c : Addr} {op oc : Obj} {n : Nat} {x y u v : Value} {d : Array UInt8} {t t1 : Tok} {Q : Value → Shared → Prop}
    (hp : s.heap.get? p = some op) (hpc : op.cls = .type "re.Pattern") (hpd : op.data = .fields (patFields c x y u v)) (hc : s.heap.get? c = some oc) (hcd : oc.data = .seq codeVals n)
    (hs : d.size ≤ sizeLine) (hq : ∀ i, i < d.size → (d.map (·.toNat)).getD i 0 ≠ 34)
    (h : ∀ t' h' tk', Grows s.heap h' → Q (.bytes d t') { s with heap := h', toks := tk' }) :
    wpAny (model prog w) A (call (.builtin "re.Pattern.sub") [.ref p, .bytes #[] t1, .bytes d t]) Q E s := by
  refine wpAny_call (codeAny_call_builtin slot_sub.plain entry_sub (slot_sub.check _ _ _ _ _ _ _ _ ⟨op, hp, hpc⟩ (args_sub _ _ _) ?_))
  show wpAny _ _ (reNamed "re.Pattern.sub" "sub" ["repl", "string", "count"] 2 [.bytes #[] t1, .bytes d t] [] >>= _) _ _ _
  refine wpAny_bind (wpAny_of_eq (show reNamed "re.Pattern.sub" "sub" ["repl", "string", "count"] 2 [.bytes #[] t1, .bytes d t] [] = pure [some (.bytes #[] t1), some (.bytes d t), none] from by kernel_rfl) ?_)
  refine wpAny_bind (wpAny_pure ?_)
  refine wpAny_bind (wpAny_specialOf_val rfl call_none ?_)
  show wpAny _ _ (Bytes.bufferQuiet? "re.Pattern.sub" (.bytes #[] t1) >>= _) _ _ _
  refine wpAny_bind (wpAny_of_eq KBy.quiet_eq ?_)
  refine wpAny_bind (wpAny_pure ?_)
  show wpAny _ _ (if (!(#[] : Array UInt8).contains 92) = true then (pure ((.bytes #[] t1 : Value), 0) >>= _) else _) _ _ _
  rw [if_pos (by simp)]
  refine wpAny_bind (wpAny_pure ?_)
  show wpAny _ _ (reWholeTarget (.ref p) (.bytes d t) >>= _) _ _ _
  refine wpAny_bind (re_whole hp hpd hc hcd ?_)
  show wpAny _ _ (newList [] >>= fun l => again (.builtin "re.Pattern.sub.loop" ⟨[.ref p, .bytes d t, .bytes #[] t1, rawInt 0, rawInt 0, rawInt 0, rawInt 0, rawInt 0, .bool false, l, .bool false], []⟩)) _ _ _
  refine wpAny_bind (wpAny_newList ?_)
  refine wpAny_pure ⟨plainId_quiet plain_loop _, codeAny_builtin entry_loop ?_⟩
  rw [Around.under_plainId plain_loop]
  have G₁ := Grows.push s.heap { cls := .type "list", data := .seq ([] : List Value).toArray }
  have hl := Heap.get?_push_size (h := s.heap) (o := { cls := .type "list", data := .seq ([] : List Value).toArray }) rfl
  show wpAny _ _ (reWholeTarget (.ref p) (.bytes d t) >>= _) _ _ _
  refine wpAny_bind (re_whole (G₁ _ _ hp) hpd (G₁ _ _ hc) hcd ?_)
  show wpAny _ _ (reLiteralCannotBeTurned (.bytes #[] t1) >>= _) _ _ _
  refine wpAny_bind (re_litOk ?_)
  dsimp only
  rw [if_neg (by decide)]
  unfold reNextFound
  refine wpAny_bind (re_toEnd (k := 2 * d.size + 3) (by rw [sizeLine_eq] at hs; omega) (re_search hq) ?_)
  show wpAny _ _ (if 0 < d.size then _ else _) _ _ _
  by_cases h0 : 0 < d.size
  · rw [if_pos h0]
    show wpAny _ _ (reSlice (d.map (·.toNat)) 1 0 d.size >>= fun x => updateSeq s.heap.objs.size (·.push x) >>= _) _ _ _
    refine wpAny_bind (re_slice_all hs ?_)
    refine wpAny_bind (wpAny_updateSeq hl rfl ?_)
    have hl2 := Heap.get?_update_self (Obj.mapSeq (·.push (.bytes d s.toks))) hl rfl
    have G₂ := Grows.pushUpd s.heap { cls := .type "list", data := .seq ([] : List Value).toArray } (Obj.mapSeq (·.push (.bytes d s.toks)))
    show wpAny _ _ (reSlice (d.map (·.toNat)) 1 0 0 >>= _) _ _ _
    refine wpAny_bind (re_slice_none ?_)
    refine wpAny_bind (wpAny_seqItems hl2 rfl ?_)
    show wpAny _ _ (call (.builtin "bytes.join") [.bytes #[] _, .ref s.heap.objs.size] >>= _) _ _ _
    refine wpAny_bind (join_one hl2 rfl rfl ?_)
    exact wpAny_pure (h _ _ _ G₂)
  · rw [if_neg h0]
    have e0 : d = #[] := by apply Array.eq_empty_of_size_eq_zero; omega
    subst e0
    show wpAny _ _ (reSlice _ 1 0 0 >>= _) _ _ _
    refine wpAny_bind (re_slice_none ?_)
    refine wpAny_bind (wpAny_seqItems hl rfl ?_)
    exact wpAny_pure (h _ _ _ G₁)
end
end Mine
end
section
open PySem PySem.W PyProof.Rows PySem.Calls
namespace Mine
open PySem.Builtin PySem.Builtin._codecs
theorem enc_loop2 {α β : Type} {f : α → β → Sem (ForInStep β)} {b0 b1 : β} (h0 : ∀ a, f a b0 = pure (.yield b1)) (h1 : ∀ a, f a b1 = pure (.done b1)) : ∀ l : List α, l ≠ [] → forIn l b0 f = pure b1
  | [], h => absurd rfl h
  | [a], _ => by rw [List.forIn_cons, h0]; rfl
  | a :: b :: r, _ => by
    rw [List.forIn_cons, h0]
    show forIn (b :: r) b1 f = _
    rw [List.forIn_cons, h1]; rfl
theorem enc_find (x : Array Nat) (h : ∀ c ∈ x.toList, c < 128) : x.findIdx? asciiCodec.bad = none := by
  rw [Array.findIdx?_eq_none_iff]
  intro c hc
  have := h c (by simpa using hc)
  show decide (c ≥ 128) = false
  simp; omega
theorem enc_fold (x : Array Nat) (acc : Array UInt8) : x.foldl (fun acc y => acc ++ (asciiCodec.bytesOf y).toArray) acc = acc ++ x.map (·.toUInt8) := by
  have key : ∀ (l : List Nat) (acc : Array UInt8), l.foldl (fun acc y => acc ++ (asciiCodec.bytesOf y).toArray) acc = acc ++ (l.map (·.toUInt8)).toArray := by
    intro l
    induction l with
    | nil => intro acc; simp
    | cons c r ih =>
      intro acc
      rw [List.foldl_cons, ih]
      show acc ++ #[c.toUInt8] ++ _ = _
      simp
  rw [← Array.foldl_toList, key]
  apply Array.ext'
  simp
theorem enc_narrow {id : String} {self : Value} {x : Str} (h : ∀ c ∈ x.cps.toList, c < 128) (hz : x.length ≤ sizeLine) : encodeNarrow id asciiCodec none self x = pure (x.cps.map (·.toUInt8)) := by
  unfold encodeNarrow
  simp only [Std.Legacy.Range.forIn_eq_forIn_range']
  have hlen : x.length = x.cps.size := rfl
  by_cases h0 : x.cps.size = 0
  · have e0 : x.cps = #[] := Array.eq_empty_of_size_eq_zero h0
    have : List.range' 0 [:x.length].size = [] := by simp [hlen, h0, Std.Legacy.Range.size]
    rw [this, e0, List.forIn_nil, Array.map_empty]
    rfl
  · rw [enc_loop2 (b1 := (x.cps.size, x.cps.map (·.toUInt8), {}))]
    · rfl
    · intro a
      rw [if_neg (by simp)]
      have hx : x.cps[0]? = some (x.cps[0]'(by omega)) := Array.getElem?_eq_getElem (by omega)
      have hb : x.cps[0]'(by omega) < 128 := h _ (by simp)
      simp only [hx]
      have hbad : asciiCodec.bad (x.cps[0]'(by omega)) = false := by show decide (_ ≥ 128) = false; simp; omega
      rw [if_pos (by rw [hbad]; rfl)]
      have e1 : x.cps.extract 0 = x.cps := by simp
      rw [e1, enc_find _ h]
      simp only [Option.getD_none, Nat.zero_add]
      rw [e1, enc_fold]
      simp
    · intro a
      rw [if_neg (by simp; omega)]
      have hx : x.cps[x.cps.size]? = none := by simp
      simp only [hx]
    · simp [Std.Legacy.Range.size]; omega
theorem encode_road {x : Str} {t : Tok} : encodeRoad "str.encode" (.str x t) x (Str.ofString "ascii") none = (do mkBytes (← encodeNarrow "str.encode" asciiCodec none (.str x t) x)) := by
  kernel_rfl
theorem encode_tree2 {x : Str} {t u : Tok} : «str.encode» ⟨[.str x t, .str (Str.ofString "ascii") u], []⟩ = (do ret (← encodeRoad "str.encode" (.str x t) x (Str.ofString "ascii") none)) := by
  kernel_rfl
section
variable {prog : Program} {w : World} {A : Around} {E : Value → Shared → Prop} {s : Shared}
theorem call_encode {x : Str} {t u : Tok} {Q : Value → Shared → Prop} (h : ∀ c ∈ x.cps.toList, c < 128) (hz : x.length ≤ sizeLine)
    (k : Q (.bytes (x.cps.map (·.toUInt8)) s.toks) { s with toks := s.toks + 1 }) :
    wpAny (model prog w) A (call (.builtin "str.encode") [.str x t, .str (Str.ofString "ascii") u]) Q E s := by
  refine wpAny_call_entry PySem.F.slot_str_encode (typeIs_str _ _ _) PySem.F.entry_str_encode ?_ (PySem.F.args_str_encode_2 _ _)
  rw [encode_tree2]
  refine wpAny_bind ?_
  rw [encode_road]
  refine wpAny_bind (wpAny_of_eq (enc_narrow h hz) ?_)
  unfold mkBytes
  rw [if_neg (by rw [Array.size_map]; exact Nat.not_lt_of_le hz)]
  exact wpAny_bind (wpAny_fresh (wpAny_pure (wpAny_pure ⟨_, rfl, k⟩)))
theorem noRefStr {x : Str} {t : Tok} : ∀ a, Value.str x t = .ref a → ∃ o, s.heap.get? a = some o ∧ o.dict = none := fun _ e => nomatch e
theorem method_of {M : Model} {T : String} {pl : Sem Bool} {Q : Value × List Value → Shared → Prop} {name : Str} {id : String} (v : Value) (hT : s.TypeIs v T) (pa : PlainAttrs T) (slot : Slot T name id) (ty : typeOf (.builtin id) = pure (.type "method_descriptor"))
    (hd : ∀ a, v = .ref a → ∃ o, s.heap.get? a = some o ∧ o.dict = none) (h : Q (.builtin id, [v]) s) : wpAny M A (getMethod v name pl) Q E s :=
  getMethod_builtin hT pa slot ty hd h
theorem method_encode {M : Model} {x : Str} {t : Tok} {pl : Sem Bool} {Q : Value × List Value → Shared → Prop} (h : Q (.builtin "str.encode", [.str x t]) s) :
    wpAny M A (getMethod (.str x t) "encode" pl) Q E s := by
  with_reducible exact method_of (.str x t) (typeIs_str _ _ _) PySem.F.plainAttrs_str PySem.F.slot_str_encode PySem.F.type_str_encode noRefStr h
end
end Mine
end
section
open PySem PySem.W PyProof.Rows PySem.Calls
namespace Mine
open PySem.Builtin
theorem extract_one (b : Array UInt8) (c : UInt8) (i : Nat) (hi : i < b.size) : (b.extract i (i + 1) == #[c]) = (b.toList[i]'(by simpa using hi) == c) := by
  have e : b.extract i (i + 1) = #[b.toList[i]'(by simpa using hi)] := by
    apply Array.ext'
    rw [Array.toList_extract]
    simp only [List.extract_eq_take_drop, Nat.add_sub_cancel_left]
    have := List.drop_eq_getElem_cons (l := b.toList) (i := i) (by simpa using hi)
    rw [this]; rfl
  rw [e]
  simp
theorem occ_fold (b : Array UInt8) (c : UInt8) : ∀ n, n ≤ b.size →
    ∃ m, m ≤ n ∧ (((List.range n).map (· + 0)).foldl (fun (acc : List Nat × Nat) (i : Nat) => if i ≥ acc.2 && b.extract i (i + (#[c] : Array UInt8).size) == #[c] then (i :: acc.1, i + (#[c] : Array UInt8).size) else acc) ([], 0)).2 = m ∧
      (((List.range n).map (· + 0)).foldl (fun (acc : List Nat × Nat) (i : Nat) => if i ≥ acc.2 && b.extract i (i + (#[c] : Array UInt8).size) == #[c] then (i :: acc.1, i + (#[c] : Array UInt8).size) else acc) ([], 0)).1.length = (b.toList.take n).count c
  | 0, _ => ⟨0, Nat.le_refl _, rfl, by simp⟩
  | n + 1, h => by
    obtain ⟨m, hm, e1, e2⟩ := occ_fold b c n (by omega)
    rw [List.range_succ, List.map_append, List.foldl_append]
    generalize List.foldl _ _ _ = acc at e1 e2
    obtain ⟨l, k⟩ := acc
    simp only at e1 e2
    subst e1
    have hn : n < b.toList.length := by simp; omega
    rw [List.take_add_one, List.getElem?_eq_getElem hn]
    simp only [List.map_cons, List.map_nil, List.foldl_cons, List.foldl_nil, Nat.add_zero, List.size_toArray, List.length_singleton]
    rw [extract_one b c n (by omega)]
    by_cases hc : b.toList[n] = c
    · subst hc
      exact ⟨n + 1, by omega, by simp [hm], by simp [hm, e2, List.count_append]⟩
    · have hc' : ¬ b[n] = c := by simpa using hc
      refine ⟨k, by omega, by simp [hc'], by simp [hc', e2, List.count_append]⟩
theorem occ_count (b : Array UInt8) (c : UInt8) : (Bytes.occurrences b #[c] 0 b.size).length = b.toList.count c := by
  unfold Bytes.occurrences
  rw [List.length_reverse]
  obtain ⟨m, _, _, e⟩ := occ_fold b c b.size (Nat.le_refl _)
  rw [List.take_of_length_le (by simp)] at e
  exact e
section
variable {prog : Program} {w : World} {A : Around} {E : Value → Shared → Prop} {s : Shared}
theorem count_search {b : Array UInt8} {c : UInt8} {t u : Tok} : Bytes.searchArgs .bytes "count" ⟨[.bytes b t, .bytes #[c] u], []⟩ = pure (b, #[c], if (b.size : Int) - 0 < ((#[c] : Array UInt8).size : Int) then none else some (0, b.size)) := by
  unfold Bytes.searchArgs
  show (Bytes.buffer? _ (.bytes #[c] u) >>= _) = _
  rw [KBy.buffer_eq]
  have e : Bytes.window b.size none none = (0, (b.size : Int)) := by
    unfold Bytes.window; simp; omega
  show (pure (b, #[c], if (Bytes.window b.size none none).2 - (Bytes.window b.size none none).1 < ((#[c] : Array UInt8).size : Int) then none else some ((Bytes.window b.size none none).1.toNat, (Bytes.window b.size none none).2.toNat)) : Sem _) = _
  rw [e]
  rfl
theorem call_count {b : Array UInt8} {c : UInt8} {t u : Tok} {Q : Value → Shared → Prop} (k : Q (.int (b.toList.count c) s.toks) { s with toks := s.toks + 1 }) :
    wpAny (model prog w) A (call (.builtin "bytes.count") [.bytes b t, .bytes #[c] u]) Q E s := by
  refine wpAny_call_entry slot_count (typeIs_bytes _ _ _) entry_count ?_ (args_count _ _)
  show wpAny _ _ (Bytes.searchArgs .bytes "count" ⟨[.bytes b t, .bytes #[c] u], []⟩ >>= _) _ _ _
  refine wpAny_bind (wpAny_of_eq count_search ?_)
  dsimp only
  by_cases h0 : (b.size : Int) - 0 < ((#[c] : Array UInt8).size : Int)
  · rw [if_pos h0]
    have e0 : b = #[] := by apply Array.eq_empty_of_size_eq_zero; simp at h0; omega
    subst e0
    exact wpAny_ret_mkInt k
  · rw [if_neg h0]
    dsimp only
    rw [if_neg (by simp)]
    rw [occ_count]
    exact wpAny_ret_mkInt k
end
end Mine
end
section
open PySem PySem.W PyProof.Rows PySem.Calls
namespace Mine
noncomputable abbrev Lo : List Str := looseW hd.view_39 [Str.ofString "_quoted", Str.ofString "_paren_depth"]
theorem pat_at {P : Params} {h : Heap} (X : (hd.heap_39 P : Frag).In h) : ∃ op oc n x y u v, h.get? 36 = some op ∧ op.cls = .type "re.Pattern" ∧ op.dict = none ∧ op.data = .fields (patFields 35 x y u v) ∧ h.get? 35 = some oc ∧ oc.data = .seq codeVals n :=
  ⟨_, _, _, _, _, _, _, X 36 _ rfl, rfl, rfl, rfl, X 35 _ rfl, rfl⟩
section
variable {prog : Program} {w : World} {A : Around} {E : Value → Shared → Prop} {s : Shared} {h₀ : Heap} {L : Addr} {m : Str → Option Value}
theorem method_pat {P : Params} {pl : Sem Bool} {Q : Value × List Value → Shared → Prop} (F : Fr h₀ L s.heap m) (X : (hd.heap_39 P : Frag).In h₀) (h : Q (.builtin "re.Pattern.sub", [.ref 36]) s) :
    wpAny (model prog w) A (getMethod (.ref 36) (Str.ofString "sub") pl) Q E s := by
  obtain ⟨op, oc, n, x, y, u, v, h1, h2, h3, h4, h5, h6⟩ := pat_at X
  have hT : s.TypeIs (.ref 36) "re.Pattern" := ⟨op, F.keep _ _ h1, h2⟩
  have hN : ∀ a, Value.ref 36 = .ref a → ∃ o, s.heap.get? a = some o ∧ o.dict = none := fun a e => by cases e; exact ⟨op, F.keep _ _ h1, h3⟩
  with_reducible exact method_of (.ref 36) hT plainAttrs_pat slot_sub type_sub hN h
theorem call_sub {P : Params} {d : Array UInt8} {t t1 : Tok} {Q : Value → Shared → Prop} {news : List (Addr × Obj)} (F : Fr h₀ L s.heap m) (X : (hd.heap_39 P : Frag).In h₀) (N : News h₀ L s.heap news)
    (hs : d.size ≤ sizeLine) (hq : ∀ i, i < d.size → (d.map (·.toNat)).getD i 0 ≠ 34)
    (h : ∀ t' h' tk', Fr h₀ L h' m → News h₀ L h' news → Q (.bytes d t') { s with heap := h', toks := tk' }) :
    wpAny (model prog w) A (call (.builtin "re.Pattern.sub") [.ref 36, .bytes #[] t1, .bytes d t]) Q E s := by
  obtain ⟨op, oc, n, x, y, u, v, h1, h2, h3, h4, h5, h6⟩ := pat_at X
  exact re_sub (F.keep _ _ h1) h2 h4 (F.keep _ _ h5) h6 hs hq fun t' h' tk' g => h t' h' tk' (F.grownK g) (N.grown g)
theorem method_count {M : Model} {b : Array UInt8} {t : Tok} {pl : Sem Bool} {Q : Value × List Value → Shared → Prop} (h : Q (.builtin "bytes.count", [.bytes b t]) s) :
    wpAny M A (getMethod (.bytes b t) (Str.ofString "count") pl) Q E s := by
  have hN : ∀ a, Value.bytes b t = .ref a → ∃ o, s.heap.get? a = some o ∧ o.dict = none := fun _ e => nomatch e
  with_reducible exact method_of (.bytes b t) (typeIs_bytes _ _ _) FB.plainAttrs_bytes slot_count type_count hN h
end
end Mine
end
section
open PySem PySem.W PyProof.Rows PySem.Calls
namespace Mine
def depthB (d : Array UInt8) : Int := 0 + (d.toList.count 40 : Int) - (d.toList.count 41 : Int)
local macro_rules | `(tactic| cell_enter) => `(tactic| (refine' code_def ?k1 ?k2 ?k3 ?k4 ?k5 ?kA ?kF ?kK ?k6 ?k7 ?k8 ?k9 ?kB ?_ ?c2 ?c3 ?c4 ?c5; (case kA => exact rfl); (case kF => exact rfl); (case kK => assumption); (case k1 => k_asm); (case k2 => k_asm); (case k3 => k_asm); (case k4 => k_asm); (case k5 => k_asm); (case k6 => k_is); (case k7 => k_is); (case k8 => ktr_room); (case k9 => first | exact BindsTo.of_eq rfl | exact binds_K (by k_in) rfl (by k_is) rfl rfl rfl); (case c5 => decide); (case kB => exact locs rfl); (case c2 => exact rfl); (case c3 => exact rfl); (case c4 => exact rfl); k_whole; intro g' L' h' FG' F' N' B' X' T'; (try dsimp only); (try k_lift B'); (try k_fold)))
local macro_rules | `(tactic| walk_at "getMethod ref") => `(tactic| (k_here; (with_reducible show wpAny _ _ (getMethod (Value.ref 36) _ _) _ _ _); refine' method_pat ?F ?X ?_; (case F => k_asm); (case X => k_asm)))
local macro_rules | `(tactic| walk_at "getMethod bytes") => `(tactic| (k_here; refine method_count ?_))
local macro_rules | `(tactic| walk_at "call builtin:re.Pattern.sub") => `(tactic| (k_here; k_dflt (refine' call_sub ?F ?X ?N ?hs ?hq ?_; (case F => k_asm); (case X => k_asm); (case N => k_asm); (case hs => assumption); (case hq => assumption)); intro t' h' tk' F' N'))
local macro_rules | `(tactic| walk_at "call builtin:bytes.count") => `(tactic| (k_here; k_dflt (refine' call_count ?_)))
set_option maxRecDepth 100000 in
set_option maxHeartbeats 8000000 in
theorem c1 : ∀ {Lo : List Str} {w : World} {mean : ExcName → Option Value} {mg mb : Str → Option Value} {dp un : Nat} {gd : Option (List Code)} {cn : Str} {cs : Scope} {a : Addr} {ccd : Value} {cl : List (Str × Addr)} {outer : List Env} {A₀ : Around} {base h₀ : Heap} {L : Addr} {m : Str → Option Value} {s : Shared} {Q E : Value → Shared → Prop} {news : List (Addr × Obj)} {d : Array UInt8} {t : Tok}
  (_ : Below A₀ base outer h₀) (_ : Fr h₀ L s.heap m) (_ : ((hd.heap_39 w.params) : Frag).In h₀) (_ : News h₀ L s.heap news) (_ : Top hd.view_39 Lo mean mg mb h₀) (_ : cs.kind = .function)
  (_ : dp + 1 < recursionLimit) (_ : un + 8 < cLine) (_ : d.size ≤ sizeLine) (_ : ∀ i, i < d.size → (d.map (·.toNat)).getD i 0 ≠ 34)
  (_ : ∀ t h' tk', Fr h₀ L h' m → News h₀ L h' news → Q (.int (depthB d) t) { s with heap := h', toks := tk' }),
  wpAny (model Challenge.rw_gg0001_01.row.prog w) (ktrTop dp un gd cn cs L a ccd cl outer) (call (.ref 44) [.bytes d t]) Q E s := by
  k_fill
  intro Lo w mean mg mb dp un gd cn cs a ccd cl outer A₀ base h₀ L m s Q E news d t B F X N T hk hd1 hu hs hq ret
  refine wpAny_call ?_
  k_dflt cell_enter
  k_steps
  exact ret _ _ _ (by assumption) (by assumption)
end Mine
end
section
open PySem PySem.W PyProof.Rows PySem.Calls
namespace Mine
def Par (d : Str) : Prop := ∀ c ∈ d.cps.toList, c = 40 ∨ c = 41
theorem slice_mem {d : Str} {l u : Option Int} {c : Nat} (h : c ∈ (Txt.slice d l u).cps.toList) : c ∈ d.cps.toList := by
  unfold Txt.slice at h
  split at h
  · exact h
  · obtain ⟨i, _, hi⟩ := List.mem_filterMap.mp (by simpa using h)
    rw [← Array.getElem?_toList] at hi
    exact List.mem_of_getElem? hi
theorem Par.slice {d : Str} (h : Par d) (l u : Option Int) : Par (Txt.slice d l u) := fun c hc => h c (slice_mem hc)
theorem Par.ascii {d : Str} (h : Par d) : ∀ c ∈ d.cps.toList, c < 128 := fun c hc => by have := h c hc; omega
theorem Par.noQuote {d : Str} (h : Par d) : ∀ i, i < (d.cps.map (·.toUInt8)).size → ((d.cps.map (·.toUInt8)).map (·.toNat)).getD i 0 ≠ 34 := by
  intro i hi
  have hi' : i < d.cps.size := by simpa using hi
  have hm := h (d.cps[i]) (by simp)
  rw [Array.getD_eq_getD_getElem?]
  simp only [Array.map_map, Array.getElem?_map, Array.getElem?_eq_getElem hi', Option.map_some, Option.getD_some, Function.comp_apply]
  rcases hm with e | e <;> rw [e] <;> decide
def depthS (d : Str) : Int := depthB (d.cps.map (·.toUInt8))
def depthsOf (d : Str) : List Int := (rangeKs 0 (d.length + 1)).map fun k => depthS (Txt.slice d none (some k))
theorem depthsOf_eq {d : Str} {ys : List Value} (h : IntsAre ys (List.map (fun k' => if (Txt.slice d none (some k')).length ≤ d.length then depthS (Txt.slice d none (some k')) else k') (rangeKs 0 ((d.length : Int) + 1 - 0).toNat))) : IntsAre ys (depthsOf d) := by
  have e : ((d.length : Int) + 1 - 0).toNat = d.length + 1 := by omega
  rw [e] at h
  have e2 : List.map (fun k' => if (Txt.slice d none (some k')).length ≤ d.length then depthS (Txt.slice d none (some k')) else k') (rangeKs 0 (d.length + 1)) = depthsOf d := by
    unfold depthsOf
    exact List.map_congr_left fun k _ => if_pos (Txt.slice_le d _ _)
  rwa [e2] at h
theorem news_skip {h₀ h : Heap} {L : Addr} {p q : Addr × Obj} {news : List (Addr × Obj)} (N : News h₀ L h (p :: q :: news)) : News h₀ L h (p :: news) := fun x hx => N x (by rcases List.mem_cons.mp hx with rfl | hx; exact .head _; exact .tail _ (.tail _ hx))
section
variable {prog : Program} {w : World} {A : Around} {E : Value → Shared → Prop} {s : Shared}
theorem call_encodeP {x : Str} {t u : Tok} {Q : Value → Shared → Prop} (h : Par x) (hz : x.length ≤ 1000)
    (k : Q (.bytes (x.cps.map (·.toUInt8)) s.toks) { s with toks := s.toks + 1 }) :
    wpAny (model prog w) A (call (.builtin "str.encode") [.str x t, .str (Str.ofString "ascii") u]) Q E s :=
  call_encode h.ascii (by rw [sizeLine_eq]; omega) k
end
theorem c1S : ∀ {Lo : List Str} {w : World} {mean : ExcName → Option Value} {mg mb : Str → Option Value} {dp un : Nat} {gd : Option (List Code)} {cn : Str} {cs : Scope} {a : Addr} {ccd : Value} {cl : List (Str × Addr)} {outer : List Env} {A₀ : Around} {base h₀ : Heap} {L : Addr} {m : Str → Option Value} {s : Shared} {Q E : Value → Shared → Prop} {news : List (Addr × Obj)} {d : Str} {t : Tok}
  (_ : Below A₀ base outer h₀) (_ : Fr h₀ L s.heap m) (_ : ((hd.heap_39 w.params) : Frag).In h₀) (_ : News h₀ L s.heap news) (_ : Top hd.view_39 Lo mean mg mb h₀) (_ : cs.kind = .function)
  (_ : dp + 1 < recursionLimit) (_ : un + 8 < cLine) (_ : d.length ≤ 1000) (_ : Par d)
  (_ : ∀ t h' tk', Fr h₀ L h' m → News h₀ L h' news → Q (.int (depthS d) t) { s with heap := h', toks := tk' }),
  wpAny (model Challenge.rw_gg0001_01.row.prog w) (ktrTop dp un gd cn cs L a ccd cl outer) (call (.ref 44) [.bytes (d.cps.map (·.toUInt8)) t]) Q E s :=
  fun B F X N T hk h1 h2 h3 h4 ret => c1 B F X N T hk h1 h2 (by rw [Array.size_map, sizeLine_eq]; exact Nat.le_trans h3 (by decide)) h4.noQuote ret
local macro_rules | `(tactic| walk_at "getMethod str") => `(tactic| (k_here; (with_reducible show wpAny _ _ (getMethod (Value.str _ _) (PySem.Str.ofString "encode") _) _ _ _); refine' method_encode ?_))
local macro_rules | `(tactic| walk_at "call builtin:str.encode") => `(tactic| (k_here; k_dflt (refine' call_encodeP ?h ?z ?_; (case h => first | assumption | exact Par.slice (by assumption) _ _); (case z => kt_fact))))
local macro_rules | `(tactic| walk_at "call ref") => `(tactic| (k_here; (with_reducible show wpAny _ _ (call (Value.ref 44) [Value.bytes _ _]) _ _ _); k_dflt (refine' c1S ?B ?F ?X ?N ?T ?k ?hd ?hu ?hs ?hq ?_; (case B => k_asm); (case F => k_asm); (case X => k_asm); (case N => k_asm); (case T => k_asm); (case k => first | exact rfl | assumption); (case hd => ktr_room); (case hu => ktr_units); (case hs => kt_fact); (case hq => first | assumption | exact Par.slice (by assumption) _ _)); intro t' h' tk' F' N'; (try k_fold)))
local macro_rules | `(tactic| cell_enter) => `(tactic| (refine' code_defC ?k1 ?k2 ?k3 ?k4 ?k5 ?kA ?kF ?kK ?k6 ?k7 ?k8 ?k9 ?kB ?kD ?_ ?c2 ?c3 ?c4; (case kA => exact rfl); (case kF => exact rfl); (case kK => assumption); (case k1 => k_asm); (case k2 => k_asm); (case k3 => k_asm); (case k4 => k_asm); (case k5 => k_asm); (case k6 => k_is); (case k7 => k_is); (case k8 => ktr_room); (case k9 => first | exact BindsTo.of_eq rfl | exact binds_K (by k_in) rfl (by k_is) rfl rfl rfl); (case kB => exact rfl); (case kD => decide +kernel); (case c2 => exact rfl); (case c3 => exact rfl); (case c4 => exact rfl); k_whole; intro g' L' h' tk' cells' FG' F' N' Y' B' X' T' l1; (try k_lt l1); k_cells Y'; (try simp only [List.cons_append, List.nil_append] at N'); (try dsimp only); (try k_lift B'); (try k_fold)))
set_option maxRecDepth 100000 in
set_option maxHeartbeats 8000000 in
theorem c2 : ∀ {Lo : List Str} {w : World} {mean : ExcName → Option Value} {mg mb : Str → Option Value} {dp un : Nat} {gd : Option (List Code)} {cn : Str} {cs : Scope} {a : Addr} {ccd : Value} {cl : List (Str × Addr)} {outer : List Env} {A₀ : Around} {base h₀ : Heap} {L : Addr} {m : Str → Option Value} {s : Shared} {Q E : Value → Shared → Prop} {news : List (Addr × Obj)} {d : Str} {t : Tok}
  (_ : Below A₀ base outer h₀) (_ : Fr h₀ L s.heap m) (_ : ((hd.heap_39 w.params) : Frag).In h₀) (_ : News h₀ L s.heap news) (_ : Top hd.view_39 Lo mean mg mb h₀) (_ : cs.kind = .function)
  (_ : dp + 3 < recursionLimit) (_ : un + 16 < cLine) (_ : d.length ≤ 100) (_ : Par d)
  (_ : ∀ D ys h' tk', Fr h₀ L h' m → News h₀ L h' ((D, LCg.lst ys) :: news) → LCg.Off1 D news → IntsAre ys (depthsOf d) → Q (.ref D) { s with heap := h', toks := tk' }),
  wpAny (model Challenge.rw_gg0001_01.row.prog w) (ktrTop dp un gd cn cs L a ccd cl outer) (call (.ref 63) [.str d t]) Q E s := by
  k_fill
  intro Lo w mean mg mb dp un gd cn cs a ccd cl outer A₀ base h₀ L m s Q E news d t B F X N T hk hd1 hu hs hq ret
  refine wpAny_call ?_
  k_dflt cell_enter
  k_steps
  (rename _ ∧ LCg.Off1 _ _ => o1')
  exact ret _ _ _ _ (by assumption) (news_skip (by assumption)) o1'.2 (depthsOf_eq (by assumption))
end Mine
end
section
open PySem PySem.W PyProof.Rows PySem.Calls
namespace Mine
theorem depthsOf_length (d : Str) : (depthsOf d).length = d.length + 1 := by unfold depthsOf; rw [List.length_map, rangeKs_length]
theorem ints_item {prog : Program} {w : World} {A : Around} {E : Value → Shared → Prop} {s : Shared} {value slice : PySem.Expr} {l : Addr} {vs : List Value} {ns : List Int} {k : Int} {u : Tok} {Q : Value → Shared → Prop}
    (hl : s.heap.IsList l vs.toArray) (hi : IntsAre vs ns) (h0 : 0 ≤ k) (hk : k < (ns.length : Int)) (hz : ns.length < 2 ^ 62) (h : ∀ t, Q (.int (ns.getD k.toNat 0) t) s)
    (hs : subscripted slice false (.ref l) (.int k u) = operate [.ref l, .int k u] (getItem (.ref l) (.int k u)) := by with_unfolding_all rfl) :
    wpAny (model prog w) A (subscriptTail value slice (.ref l) (.int k u)) Q E s := by
  have hlt : k.toNat < ns.length := by omega
  obtain ⟨t, hx⟩ := hi.get k.toNat ns[k.toNat] (List.getElem?_eq_getElem hlt)
  have hq := h t
  rw [List.getD_eq_getElem?_getD, List.getElem?_eq_getElem hlt, Option.getD_some] at hq
  exact tail_any hl.typeIs PySem.slot_list_getitem.lookup (wpAny_getItem_list hl h0 (by omega) (by simpa using hx) hq) hs
abbrev belowC (d : Str) (k : Int) : Prop := (1 ≤ (Txt.item d k).length ∧ (Txt.item d k).length ≤ 1) ∧ (depthsOf d).getD k.toNat 0 < 0 ∧ Txt.item d k = Str.ofString "("
def belowOf (d : Str) : Int := (((rangeKs 0 ((d.length : Int) - 0).toNat).filter fun k => decide (belowC d k)).length : Nat)
theorem fold_filter {α : Type} {p : α → Prop} [DecidablePred p] : ∀ (ks : List α) (l : List α), ks.foldl (fun l k => if p k then l ++ [k] else l) l = l ++ ks.filter fun k => decide (p k)
  | [], l => by simp
  | k :: r, l => by
    rw [List.foldl_cons, fold_filter r]
    by_cases h : p k <;> simp [h]
theorem int_eq {Q : Value → Shared → Prop} {s : Shared} {x y : Int} {t : Tok} (e : y = x) (h : Q (.int x t) s) : Q (.int y t) s := e ▸ h
section
variable {h₀ : Heap} {L I C D : Addr} {m : Str → Option Value} {s₁ : Shared} {oI oC oD : Obj} {S : List (Addr × Obj) → Prop} {y : Value} {h' : Heap} {tk : Nat} {all news : List (Addr × Obj)} {l r : List Int}
theorem ci_end_el (F : Fr h₀ L h' m) (N : News h₀ L h' all) (sub : ∀ p ∈ (I, oI) :: (C, oC) :: (D, oD) :: news, p ∈ all) (off : LCg.Off3 I C D news) (hS : S news) (k : KCiEl news l r y news) :
    LCg.CompEnd h₀ L m s₁ I oI C oC D oD S (fun y news' => KCiEl news l r y news') y { s₁ with heap := h', toks := tk } := LCg.CompEnd.intro F N news sub off hS k
theorem ci_end_no (F : Fr h₀ L h' m) (N : News h₀ L h' all) (sub : ∀ p ∈ (I, oI) :: (C, oC) :: (D, oD) :: news, p ∈ all) (off : LCg.Off3 I C D news) (hS : S news) (k : KCiNo news l r news) :
    LCg.CompEnd h₀ L m s₁ I oI C oC D oD S (fun _ news' => KCiNo news l r news') y { s₁ with heap := h', toks := tk } := LCg.CompEnd.intro F N news sub off hS k
end
theorem ne_lt {d b : Nat} {news : List (Addr × Obj)} (h : ∀ p ∈ news, p.1 < b) (k : b ≤ d) : ∀ p ∈ news, p.1 ≠ d := fun p hp => Nat.ne_of_lt (Nat.lt_of_lt_of_le (h p hp) k)
local macro_rules | `(tactic| walk_at "no such step") => `(tactic| fail)
local macro_rules | `(tactic| cell_enter) => `(tactic| (refine' code_defC ?k1 ?k2 ?k3 ?k4 ?k5 ?kA ?kF ?kK ?k6 ?k7 ?k8 ?k9 ?kB ?kD ?_ ?c2 ?c3 ?c4; (case kA => exact rfl); (case kF => exact rfl); (case kK => assumption); (case k1 => k_asm); (case k2 => k_asm); (case k3 => k_asm); (case k4 => k_asm); (case k5 => k_asm); (case k6 => k_is); (case k7 => k_is); (case k8 => ktr_room); (case k9 => first | exact BindsTo.of_eq rfl | exact binds_K (by k_in) rfl (by k_is) rfl rfl rfl); (case kB => exact rfl); (case kD => decide +kernel); (case c2 => exact rfl); (case c3 => exact rfl); (case c4 => exact rfl); k_whole; intro g' L' h' tk' cells' FG' F' N' Y' B' X' T' l1; (try k_lt l1); k_cells Y'; (try simp only [List.cons_append, List.nil_append] at N'); (try dsimp only); (try k_lift B'); (try k_fold)))
local macro_rules | `(tactic| walk_at "call ref") => `(tactic| (k_here; (with_reducible show wpAny _ _ (call (Value.ref 63) [Value.str _ _]) _ _ _); k_dflt (refine' c2 ?B ?F ?X ?N ?T ?k ?hd ?hu ?hs ?hq ?_; (case B => k_asm); (case F => k_asm); (case X => k_asm); (case N => k_asm); (case T => k_asm); (case k => first | exact rfl | assumption); (case hd => ktr_room); (case hu => ktr_units); (case hs => kt_fact); (case hq => first | assumption)); intro D' ys' h' tk' F' N' o1' hI'; (try simp only [LCg.Off1] at o1'); (try k_fold)))
local macro_rules | `(tactic| walk_at "subscriptTail") => `(tactic| (k_here; (with_reducible show wpAny _ _ (subscriptTail _ _ (Value.ref _) (Value.int _ _)) _ _ _); (with_unfolding_all refine' ints_item ?l ?i ?z ?k ?b ?_ ?s; (case l => exact News.isList (by k_asm) (by k_mem)); (case i => assumption); (case z => omega); (case k => rw [depthsOf_length]; omega); (case b => rw [depthsOf_length]; omega); (case s => with_unfolding_all rfl); k_whole); intro t'))
local macro_rules | `(tactic| walk_at "CompEnd") => `(tactic| (first
  | refine ci_end_el (by assumption) (by assumption) (by kcf_all) (by first | assumption | (simp only [LCg.Off3, and_true]; done) | (simp only [LCg.Off3, and_true]; assumption)) (by first | lcg_src | assumption) ?_
  | refine ci_end_no (by assumption) (by assumption) (by kcf_all) (by first | assumption | (simp only [LCg.Off3, and_true]; done) | (simp only [LCg.Off3, and_true]; assumption)) (by first | lcg_src | assumption) ?_))
local macro_rules | `(tactic| k_all) => `(tactic| exact ne_lt (by assumption) (by omega))
theorem news_skip3 {h₀ h : Heap} {L : Addr} {p q r u : Addr × Obj} {news : List (Addr × Obj)} (N : News h₀ L h (p :: q :: r :: u :: news)) : News h₀ L h news := fun x hx => N x (.tail _ (.tail _ (.tail _ (.tail _ hx))))
set_option maxRecDepth 100000 in
set_option maxHeartbeats 8000000 in
theorem c3 : ∀ {Lo : List Str} {w : World} {mean : ExcName → Option Value} {mg mb : Str → Option Value} {dp un : Nat} {gd : Option (List Code)} {cn : Str} {cs : Scope} {a : Addr} {ccd : Value} {cl : List (Str × Addr)} {outer : List Env} {A₀ : Around} {base h₀ : Heap} {L : Addr} {m : Str → Option Value} {s : Shared} {Q E : Value → Shared → Prop} {news : List (Addr × Obj)} {d : Str} {t : Tok}
  (_ : Below A₀ base outer h₀) (_ : Fr h₀ L s.heap m) (_ : ((hd.heap_39 w.params) : Frag).In h₀) (_ : News h₀ L s.heap news) (_ : Top hd.view_39 Lo mean mg mb h₀) (_ : cs.kind = .function)
  (_ : dp + 5 < recursionLimit) (_ : un + 32 < cLine) (_ : d.length ≤ 100) (_ : Par d)
  (_ : ∀ t h' tk', Fr h₀ L h' m → News h₀ L h' news → Q (.int (belowOf d) t) { s with heap := h', toks := tk' }),
  wpAny (model Challenge.rw_gg0001_01.row.prog w) (ktrTop dp un gd cn cs L a ccd cl outer) (call (.ref 68) [.str d t]) Q E s := by
  k_fill
  intro Lo w mean mg mb dp un gd cn cs a ccd cl outer A₀ base h₀ L m s Q E news d t B F X N T hk hd1 hu hs hq ret
  refine wpAny_call ?_
  k_dflt cell_enter
  k_steps
  refine int_eq ?_ (ret _ _ _ (by assumption) (news_skip3 (by assumption)))
  simp only [ite_self]
  exact congrArg (fun l : List Int => ((l.length : Nat) : Int)) (fold_filter (p := belowC d) (rangeKs 0 ((d.length : Int) - 0).toNat) [])
end Mine
end
section
open PySem PySem.W PyProof.Rows PySem.Calls
namespace Mine
section
variable {prog : Program} {w : World} {A : Around} {h₀ : Heap} {L : Addr} {m : Str → Option Value} {env : Env} {elt : PySem.Expr} {x : Str} {scope : Scope} {cl : List (Str × Addr)} {s : Shared} {S : List (Addr × Obj) → Prop} {Fin : List Value → List (Addr × Obj) → Prop} {news : List (Addr × Obj)}
theorem st_rest {vs : List Value} {xs : List Str} (g : Str → Str) (hv : StrsAre vs xs)
    (turn : ∀ (k : Str) t I oI C oC D m₂ ys h tk (E' : Value → Shared → Prop), k ∈ xs → LCg.NsObj oC m₂ → m₂ x = some (.str k t) → Fr h₀ L h m → News h₀ L h ((I, oI) :: (C, oC) :: (D, LCg.lst ys) :: news) → LCg.Off3 I C D news → ((@Ne Nat I C) ∧ (@Ne Nat I D) ∧ (@Ne Nat C D)) → KPfMark →
      wpAny (model prog w) A (eval elt (compEnvC scope cl C env)) (LCg.CompEnd h₀ L m { s with heap := h, toks := tk } I oI C oC D (LCg.lst ys) S (fun y news' => KCtEl news (g k) y news')) E' { s with heap := h, toks := tk })
    (fin : KPfDone (∀ ys, StrsAre ys (xs.map g) → Fin ys news)) : LCg.CompRest prog w A h₀ L m env elt x scope cl s S (fun i v => vs.toArray[i]? = some v) Fin vs.toArray.size 0 [] news := by
  unfold KPfDone at fin
  have hlen := hv.length
  have key : ∀ (j i : Nat) (ys : List Value), i + j = vs.toArray.size → StrsAre ys ((xs.take i).map g) → LCg.CompRest prog w A h₀ L m env elt x scope cl s S (fun i v => vs.toArray[i]? = some v) Fin j i ys news := by
    intro j
    induction j with
    | zero =>
      intro i ys hi hy
      have e : i = xs.length := by simpa [hlen] using hi
      subst e
      rw [List.take_length] at hy
      exact LCg.CompRest.zero (fin ys hy)
    | succ j ih =>
      intro i ys hi hy
      refine LCg.CompRest.succ ?_
      intro v I oI C oC D m₂ h tk E' hvi hC hx F N off ne
      have hi' : i < xs.length := by simp [hlen] at hi; omega
      obtain ⟨t, ht⟩ := hv.get i xs[i] (List.getElem?_eq_getElem hi')
      have hv' : v = .str xs[i] t := by
        have : vs[i]? = some v := by simpa using hvi
        rw [ht] at this; exact (Option.some.inj this).symm
      rw [hv'] at hx
      refine wpAny_mono (turn _ t I oI C oC D m₂ ys h tk E' (List.getElem_mem hi') hC hx F N off ne True.intro) (fun y s₂ hq => ?_) fun _ _ e => e
      obtain ⟨h', tk', nw, e, F', N', off', hS, hn, t', hy'⟩ := hq
      rw [hn] at N' off' hS
      refine ⟨h', tk', news, e, F', N', off', hS, ?_⟩
      rw [hy']
      refine ih (i + 1) _ (by omega) ?_
      rw [List.take_add_one, List.getElem?_eq_getElem hi', List.map_append]
      exact kct_snoc hy
  exact key _ 0 [] (by omega) (by simp only [List.take_zero, List.map_nil]; exact .nil)
theorem ct_end {I C D : Addr} {s₁ : Shared} {oI oC oD : Obj} {y : Value} {h' : Heap} {tk : Nat} {all : List (Addr × Obj)} {r : Str}
    (F : Fr h₀ L h' m) (N : News h₀ L h' all) (sub : ∀ p ∈ (I, oI) :: (C, oC) :: (D, oD) :: news, p ∈ all) (off : LCg.Off3 I C D news) (hS : S news) (k : KCtEl news r y news) :
    LCg.CompEnd h₀ L m s₁ I oI C oC D oD S (fun y news' => KCtEl news r y news') y { s₁ with heap := h', toks := tk } := LCg.CompEnd.intro F N news sub off hS k
end
def baseS (a b : Int) : Str := Txt.mul (Str.ofString "(") a ++ Txt.mul (Str.ofString ")") b
noncomputable def rowsF : Nat → Int → Int → List Str
  | 0, _, _ => []
  | n + 1, a, b => if a = 0 ∨ b = 0 then [baseS a b] else (rowsF n (a - 1) b).map (fun r => Str.ofString "(" ++ r) ++ (rowsF n a (b - 1)).map (fun r => Str.ofString ")" ++ r)
theorem rowsF_base {n : Nat} {a b : Int} {vs : List Value} (h : a = 0 ∨ b = 0) (hs : StrsAre vs [Txt.mul (Str.ofString "(") a ++ Txt.mul (Str.ofString ")") b]) : StrsAre vs (rowsF (n + 1) a b) := by
  unfold rowsF; rw [if_pos h]; exact hs
theorem rowsF_more {n : Nat} {a b : Int} {vs : List Value} (ha : a ≠ 0) (hb : b ≠ 0) (hs : StrsAre vs ((rowsF n (a - 1) b).map (fun r => Str.ofString "(" ++ r) ++ (rowsF n a (b - 1)).map (fun r => Str.ofString ")" ++ r))) : StrsAre vs (rowsF (n + 1) a b) := by
  unfold rowsF; rw [if_neg (fun h => h.elim ha hb)]; exact hs
theorem news_skip4 {h₀ h : Heap} {L : Addr} {p q r u v : Addr × Obj} {news : List (Addr × Obj)} (N : News h₀ L h (p :: q :: r :: u :: v :: news)) : News h₀ L h (p :: news) := fun x hx => N x (by
  rcases List.mem_cons.mp hx with rfl | hx
  · exact .head _
  · exact .tail _ (.tail _ (.tail _ (.tail _ (.tail _ hx)))))
theorem lt_skip4 {d : Nat} {q r u v : Addr × Obj} {news : List (Addr × Obj)} (h : ∀ p ∈ q :: r :: u :: v :: news, p.1 < d) : ∀ p ∈ news, p.1 < d := fun p hp => h p (.tail _ (.tail _ (.tail _ (.tail _ hp))))
theorem rowsF_len : ∀ (n : Nat) (a b : Int), (rowsF n a b).length ≤ 2 ^ n
  | 0, _, _ => by simp [rowsF]
  | n + 1, a, b => by
    unfold rowsF
    split
    · simp; exact Nat.one_le_two_pow
    · have h1 := rowsF_len n (a - 1) b
      have h2 := rowsF_len n a (b - 1)
      simp only [List.length_append, List.length_map, Nat.pow_succ]
      omega
theorem rowsF_size {vs : List Value} {n : Nat} {a b : Int} (h : StrsAre vs (rowsF n a b)) (hn : n ≤ 9) : vs.toArray.size ≤ sizeLine := by
  have h1 := rowsF_len n a b
  have h2 : 2 ^ n ≤ 2 ^ 9 := Nat.pow_le_pow_right (by decide) hn
  rw [List.size_toArray, h.length, sizeLine_eq]
  omega
theorem str_len1 {c : Nat} : (⟨#[c]⟩ : Str).length = 1 := rfl
theorem rowsF_short : ∀ (n : Nat) (a b : Int) (k : Str), k ∈ rowsF n a b → k.length ≤ a.toNat + b.toNat + n
  | 0, _, _, _, h => by simp [rowsF] at h
  | n + 1, a, b, k, h => by
    unfold rowsF at h
    split at h
    · rw [List.mem_singleton] at h
      subst h
      unfold baseS
      rw [Str.length_append]
      have h1 : (Txt.mul (Str.ofString "(") a).length ≤ a.toNat := len_mul_one (c := 40) (by decide +kernel) (by omega)
      have h2 : (Txt.mul (Str.ofString ")") b).length ≤ b.toNat := len_mul_one (c := 41) (by decide +kernel) (by omega)
      omega
    · rcases List.mem_append.mp h with h | h
      · obtain ⟨r, hr, rfl⟩ := List.mem_map.mp h
        have := rowsF_short n (a - 1) b r hr
        rw [Str.length_append, show (Str.ofString "(").length = 1 from by decide +kernel]
        omega
      · obtain ⟨r, hr, rfl⟩ := List.mem_map.mp h
        have := rowsF_short n a (b - 1) r hr
        rw [Str.length_append, show (Str.ofString ")").length = 1 from by decide +kernel]
        omega
theorem rowsF_100 {n : Nat} {a b : Int} {k : Str} (h : k ∈ rowsF n a b) (hn : a.toNat + b.toNat + n ≤ 100) : k.length ≤ 100 := Nat.le_trans (rowsF_short n a b k h) hn
section
variable {prog : Program} {w : World} {A : Around} {E : Value → Shared → Prop} {s : Shared} {h₀ : Heap} {L : Addr} {m : Str → Option Value} {news : List (Addr × Obj)}
theorem rows_sum (n : Nat) (a b c d : Int) (f g : Str → Str) (hn : n ≤ 9) : ((rowsF n a b).map f).length + ((rowsF n c d).map g).length ≤ sizeLine := by
  have h1 := rowsF_len n a b
  have h3 := rowsF_len n c d
  have h2 : 2 ^ n ≤ 2 ^ 9 := Nat.pow_le_pow_right (by decide) hn
  rw [sizeLine_eq, List.length_map, List.length_map]
  omega
theorem add_row {c k : Str} {t u : Tok} {Q : Value → Shared → Prop} (hc : c.length ≤ 100) (hk : k.length ≤ 100) (h : ∀ t' k', Q (.str (c ++ k) t') { s with toks := k' }) : wpAny (model prog w) A (binaryOp .Add (.str c t) (.str k u)) Q E s :=
  KXadd.add hc hk (by decide) fun t' k' _ => h t' k'
theorem add_strs {a b : Addr} {vs ws : List Value} {ns ms : List Str} {Q : Value → Shared → Prop} (F : Fr h₀ L s.heap m) (N : News h₀ L s.heap news) (ha : s.heap.IsList a vs.toArray) (hb : s.heap.IsList b ws.toArray) (hi : StrsAre vs ns) (hj : StrsAre ws ms)
    (h : ∀ D us h', Fr h₀ L h' m → News h₀ L h' ((D, W.listOf (List.toArray us) 0) :: news) → (∀ p ∈ news, p.1 < D) → StrsAre us (ns ++ ms) → Q (.ref D) { s with heap := h' })
    (hz : ns.length + ms.length ≤ sizeLine) : wpAny (model prog w) A (binaryOp .Add (.ref a) (.ref b)) Q E s :=
  add_lists (hsz := by rw [hi.length, hj.length]; exact hz) F N ha hb fun h' F' N' => h _ _ h' F' N' (fun p hp => Heap.lt_size (N p hp).1) (hi.append' hj)
end
noncomputable abbrev KF (w : World) : Frag := hd.heap_39 w.params
def C6 (w : World) (n : Nat) : Prop := ∀ {Lo : List Str} {mean : ExcName → Option Value} {mg mb : Str → Option Value} {dp un : Nat} {gd : Option (List Code)} {cn : Str} {cs : Scope} {a : Addr} {ccd : Value} {cl : List (Str × Addr)} {outer : List Env} {A₀ : Around} {base h₀ : Heap} {L : Addr} {m : Str → Option Value} {s : Shared} {Q E : Value → Shared → Prop} {news : List (Addr × Obj)} {x y : Int} {t u : Tok}
  (_ : Below A₀ base outer h₀) (_ : Fr h₀ L s.heap m) (_ : ((hd.heap_39 w.params) : Frag).In h₀) (_ : News h₀ L s.heap news) (_ : Top hd.view_39 Lo mean mg mb h₀) (_ : cs.kind = .function)
  (_ : dp + n + 1 < recursionLimit) (_ : un + 8 * n + 8 < cLine) (_ : 0 ≤ x) (_ : 0 ≤ y) (_ : x.toNat + y.toNat < n) (_ : n ≤ 9)
  (_ : ∀ D ys k h' tk', Fr h₀ L h' m → News h₀ L h' ((D, W.listOf ys.toArray k) :: news) → (∀ p ∈ news, p.1 < D) → StrsAre ys (rowsF n x y) → Q (.ref D) { s with heap := h', toks := tk' }),
  wpAny (model Challenge.rw_gg0001_01.row.prog w) (ktrTop dp un gd cn cs L a ccd cl outer) (call (.ref 73) [.int x t, .int y u]) Q E s
theorem c6_use {w : World} {n : Nat} (C : C6 w n) {Lo : List Str} {mean : ExcName → Option Value} {mg mb : Str → Option Value} {dp un : Nat} {gd : Option (List Code)} {cn : Str} {cs : Scope} {a : Addr} {ccd : Value} {cl : List (Str × Addr)} {outer : List Env} {A₀ : Around} {base h₀ : Heap} {L : Addr} {m : Str → Option Value} {s : Shared} {Q E : Value → Shared → Prop} {news : List (Addr × Obj)} {x y : Int} {t u : Tok}
  (B : Below A₀ base outer h₀) (F : Fr h₀ L s.heap m) (X : ((hd.heap_39 w.params) : Frag).In h₀) (N : News h₀ L s.heap news) (T : Top hd.view_39 Lo mean mg mb h₀) (hk : cs.kind = .function)
  (hd1 : dp + n + 1 < recursionLimit) (hu : un + 8 * n + 8 < cLine) (hx : 0 ≤ x) (hy : 0 ≤ y) (hn : x.toNat + y.toNat < n) (h9 : n ≤ 9)
  (ret : ∀ D ys k h' tk', Fr h₀ L h' m → News h₀ L h' ((D, W.listOf ys.toArray k) :: news) → (∀ p ∈ news, p.1 < D) → StrsAre ys (rowsF n x y) → Q (.ref D) { s with heap := h', toks := tk' }) :
  wpAny (model Challenge.rw_gg0001_01.row.prog w) (ktrTop dp un gd cn cs L a ccd cl outer) (call (.ref 73) [.int x t, .int y u]) Q E s := C B F X N T hk hd1 hu hx hy hn h9 ret
local macro_rules | `(tactic| cell_enter) => `(tactic| (refine' code_def ?k1 ?k2 ?k3 ?k4 ?k5 ?kA ?kF ?kK ?k6 ?k7 ?k8 ?k9 ?kB ?_ ?c2 ?c3 ?c4 ?c5; (case kA => exact rfl); (case kF => exact rfl); (case kK => assumption); (case k1 => k_asm); (case k2 => k_asm); (case k3 => k_asm); (case k4 => k_asm); (case k5 => k_asm); (case k6 => k_is); (case k7 => k_is); (case k8 => ktr_room); (case k9 => first | exact BindsTo.of_eq rfl | exact binds_K (by k_in) rfl (by k_is) rfl rfl rfl); (case c5 => decide); (case kB => exact locs rfl); (case c2 => exact rfl); (case c3 => exact rfl); (case c4 => exact rfl); k_whole; intro g' L' h' FG' F' N' B' X' T'; (try dsimp only); (try k_lift B'); (try k_fold)))
local macro_rules | `(tactic| walk_at "call ref") => `(tactic| (k_here; (with_reducible show wpAny _ _ (call (Value.ref 73) [Value.int _ _, Value.int _ _]) _ _ _); k_dflt (refine' c6_use ?C ?B ?F ?X ?N ?T ?k ?hd ?hu ?hx ?hy ?hn ?h9 ?_; (case C => assumption); (case B => k_asm); (case F => k_asm); (case X => k_asm); (case N => k_asm); (case T => k_asm); (case k => first | exact rfl | assumption); (case hd => ktr_room); (case hu => ktr_units); (case hx => omega); (case hy => omega); (case hn => omega); (case h9 => omega)); intro D' ys' k' h' tk' F' N' l1 hS'; (try k_lt l1); (try k_fold)))
local macro_rules | `(tactic| walk_at "eval ListComp") => `(tactic| (k_here; k_dflt (refine LCg.ListComp_U (F₀ := by k_asm) (by with_unfolding_all rfl) (by decide) (by rfl) (by decide) (by rfl) ?_)))
local macro_rules | `(tactic| walk_at "CompSrc") => `(tactic| (k_here; k_dflt (refine LCg.CompSrc.ledger (by rfl) (by k_asm) (by k_asm) (by k_mem) (rowsF_size (by assumption) (by omega)) ?_; intro g'; (refine' st_rest _ (by assumption) (fun k' t' I' oI' C' oC' D' m' ys' h' tk' E' hk' hC' hx' F' N' off' ne' hMark' => ?_) ?_); (all_goals (try (simp only [LCg.Off3, and_true] at off'))); kcf_last)))
local macro_rules | `(tactic| walk_at "CompEnd") => `(tactic| (refine ct_end (by assumption) (by assumption) (by kcf_all) (by first | assumption | (simp only [LCg.Off3, and_true]; done) | (simp only [LCg.Off3, and_true]; assumption)) (by first | lcg_src | assumption) ?_))
local macro_rules | `(tactic| walk_at "binaryOp Add str str") => `(tactic| (k_here; k_dflt (refine' add_row ?a ?b ?_; (case a => decide +kernel); (case b => exact rowsF_100 (by assumption) (by omega))); intro _ _))
local macro_rules | `(tactic| walk_at "binaryOp Add ref ref") => `(tactic| (k_here; k_dflt (refine' add_strs ?F ?N ?a ?b ?i ?j ?_ ?z; (case F => k_asm); (case N => k_asm); (case a => exact News.isList (by k_asm) (by k_mem)); (case b => exact News.isList (by k_asm) (by k_mem)); (case i => assumption); (case j => assumption); (case z => exact rows_sum _ _ _ _ _ _ _ (by omega))); intro D' us' h' F' N' l1 hS'; (try k_fold)))
set_option maxRecDepth 100000 in
set_option maxHeartbeats 8000000 in
theorem c6_step : ∀ (w : World) (n : Nat), C6 w n → C6 w (n + 1) := by
  intro w n C
  unfold C6
  k_fill
  intro Lo mean mg mb dp un gd cn cs a ccd cl outer A₀ base h₀ L m s Q E news x y t u B F X N T hk hd1 hu hx hy hn h9 ret
  refine wpAny_call ?_
  k_dflt cell_enter
  k_steps
  · exact ret _ [_] 0 _ _ (by assumption) (by assumption) (by assumption) (rowsF_base (.inl (by assumption)) (.cons _ _ .nil))
  · exact ret _ [_] 0 _ _ (by assumption) (by assumption) (by assumption) (rowsF_base (.inr (by assumption)) (.cons _ _ .nil))
  · exact ret _ _ _ _ _ (by assumption) (news_skip4 (by assumption)) (lt_skip4 (by assumption)) (rowsF_more (by assumption) (by assumption) (by assumption))
theorem c6 (w : World) : ∀ n, C6 w n
  | 0 => fun _ _ _ _ _ _ _ _ _ _ hn _ _ => absurd hn (Nat.not_lt_zero _)
  | n + 1 => c6_step w n (c6 w n)
end Mine
end
section
open PySem PySem.W PyProof.Rows PySem.Calls PyProof.V
namespace Mine
def depL (l : List Nat) : Int := (l.count 40 : Int) - (l.count 41 : Int)
def stepC (d : Int) (c : Nat) : Int := if c = 40 then d + 1 else d - 1
noncomputable def depsL : Int → List Nat → List Int
  | d, [] => [d]
  | d, c :: r => d :: depsL (stepC d c) r
noncomputable def belowL : Int → List Nat → Int
  | _, [] => 0
  | d, c :: r => (if d < 0 ∧ c = 40 then 1 else 0) + belowL (stepC d c) r
def ParL (l : List Nat) : Prop := ∀ c ∈ l, c = 40 ∨ c = 41
theorem depL_cons {c : Nat} {l : List Nat} (hc : c = 40 ∨ c = 41) : depL (c :: l) = stepC 0 c + depL l := by
  unfold depL stepC
  rcases hc with rfl | rfl <;> simp <;> omega
theorem stepC_add (d e : Int) (c : Nat) : d + (stepC 0 c + e) = stepC d c + e := by unfold stepC; split <;> omega
theorem count_u8 : ∀ {l : List Nat}, ParL l → ((l.map (·.toUInt8)).count 40 = l.count 40) ∧ ((l.map (·.toUInt8)).count 41 = l.count 41)
  | [], _ => ⟨rfl, rfl⟩
  | c :: l, h => by
    have ih := count_u8 (l := l) fun x hx => h x (.tail _ hx)
    rw [List.map_cons, List.count_cons, List.count_cons, List.count_cons, List.count_cons, ih.1, ih.2]
    rcases h c (.head _) with rfl | rfl
    · exact ⟨congrArg (List.count 40 l + ·) (by decide), congrArg (List.count 41 l + ·) (by decide)⟩
    · exact ⟨congrArg (List.count 40 l + ·) (by decide), congrArg (List.count 41 l + ·) (by decide)⟩
theorem slice_to {x : Str} {k : Int} (h0 : 0 ≤ k) (h1 : k ≤ (x.cps.toList.length : Int)) : Txt.slice x none (some k) = ⟨(x.cps.toList.take k.toNat).toArray⟩ := by
  have h := StrLaws.sliceText_to (x := x) (j := k) ⟨h0, h1⟩
  rw [Int.sub_zero] at h
  exact h
theorem slice_mid {x : Str} {i j : Int} (h : 0 ≤ i ∧ i ≤ j ∧ j ≤ (x.cps.toList.length : Int)) : Txt.slice x (some i) (some j) = ⟨((x.cps.toList.drop i.toNat).take (j - i).toNat).toArray⟩ := StrLaws.sliceText_plain h
theorem depthS_list {x : Str} (h : Par x) : depthS x = depL x.cps.toList := by
  unfold depthS depthB depL
  rw [Array.toList_map, (count_u8 h).1, (count_u8 h).2]
  omega
theorem ParL.take {l : List Nat} (h : ParL l) (k : Nat) : ParL (l.take k) := fun c hc => h c (List.mem_of_mem_take hc)
theorem ParL.tl {c : Nat} {l : List Nat} (h : ParL (c :: l)) : ParL l := fun x hx => h x (.tail _ hx)
theorem depL_nil : depL [] = 0 := rfl
theorem deps_range : ∀ (l : List Nat) (d : Int), ParL l → (List.range (l.length + 1)).map (fun k => d + depL (l.take k)) = depsL d l
  | [], d, _ => by simp [depsL, depL]
  | c :: l, d, h => by
    rw [List.length_cons, List.range_succ_eq_map, List.map_cons, List.map_map]
    show (d + depL []) :: _ = d :: _
    rw [depL_nil, Int.add_zero, ← deps_range l (stepC d c) h.tl]
    refine congrArg (d :: ·) (List.map_congr_left fun k _ => ?_)
    show d + depL (c :: l.take k) = _
    rw [depL_cons (h c (.head _)), stepC_add]
theorem par_to {x : Str} (h : Par x) (k : Nat) : Par ⟨(x.cps.toList.take k).toArray⟩ := fun c hc => h c (List.mem_of_mem_take (by simpa using hc))
theorem depthS_to {x : Str} (h : Par x) {k : Nat} (hk : k ≤ x.cps.toList.length) : depthS (Txt.slice x none (some (k : Int))) = depL (x.cps.toList.take k) := by
  rw [slice_to (by omega) (by omega), depthS_list (par_to h _)]; rfl
theorem lenL_eq (x : Str) : x.length = x.cps.toList.length := by simp [Str.length]
theorem depths_list {x : Str} (h : Par x) : depthsOf x = depsL 0 x.cps.toList := by
  rw [← deps_range _ 0 h]
  unfold depthsOf rangeKs
  rw [List.map_map, lenL_eq]
  refine List.map_congr_left fun k hk => ?_
  have : k < x.cps.toList.length + 1 := List.mem_range.mp hk
  show depthS (Txt.slice x none (some (0 + (k : Int)))) = _
  rw [Int.zero_add, Int.zero_add, depthS_to h (by omega)]
theorem deps_get : ∀ (l : List Nat) (d : Int) (k : Nat), ParL l → k ≤ l.length → (depsL d l).getD k 0 = d + depL (l.take k)
  | [], d, k, _, hk => by
    have : k = 0 := by simpa using hk
    subst this
    simp [depsL, depL]
  | c :: l, d, 0, _, _ => by simp [depsL, depL]
  | c :: l, d, k + 1, h, hk => by
    show (depsL (stepC d c) l).getD k 0 = d + depL (c :: l.take k)
    rw [deps_get l _ k h.tl (by simpa using hk), depL_cons (h c (.head _)), stepC_add]
def bP (d : Int) (l : List Nat) (k : Nat) : Bool := decide (d + depL (l.take k) < 0 ∧ l.getD k 0 = 40)
theorem below_range : ∀ (l : List Nat) (d : Int), ParL l → ((((List.range l.length).filter (bP d l)).length : Nat) : Int) = belowL d l
  | [], d, _ => rfl
  | c :: l, d, h => by
    have e : (bP d (c :: l)) ∘ Nat.succ = bP (stepC d c) l := by
      funext k
      show decide (d + depL (c :: l.take k) < 0 ∧ l.getD k 0 = 40) = _
      rw [depL_cons (h c (.head _)), stepC_add]; rfl
    have e0 : bP d (c :: l) 0 = decide (d < 0 ∧ c = 40) := by
      show decide (d + depL [] < 0 ∧ c = 40) = _
      rw [depL_nil, Int.add_zero]
    rw [List.length_cons, List.range_succ_eq_map, List.filter_cons, List.filter_map, e, e0]
    have ih := below_range l (stepC d c) h.tl
    unfold belowL
    by_cases hc : d < 0 ∧ c = 40
    · rw [if_pos (decide_eq_true hc), if_pos hc, List.length_cons, List.length_map]
      omega
    · rw [if_neg (by simpa using hc), if_neg hc, List.length_map]
      omega
theorem open_eq : Str.ofString "(" = ⟨#[40]⟩ := by decide +kernel
theorem shut_eq : Str.ofString ")" = ⟨#[41]⟩ := by decide +kernel
theorem item_list {x : Str} {k : Nat} (hk : k < x.cps.toList.length) : Txt.item x (k : Int) = ⟨#[x.cps.toList.getD k 0]⟩ := by
  rw [item_meets ⟨by omega, by rw [lenL_eq]; omega⟩]
  simp
theorem belowC_list {x : Str} (h : Par x) {k : Nat} (hk : k < x.cps.toList.length) : decide (belowC x (k : Int)) = bP 0 x.cps.toList k := by
  unfold belowC bP
  have e1 : (depthsOf x).getD ((k : Int)).toNat 0 = 0 + depL (x.cps.toList.take k) := by
    rw [depths_list h, Int.toNat_natCast]; exact deps_get _ _ _ h (by omega)
  rw [e1, item_list hk, open_eq]
  congr 1
  apply propext
  constructor
  · rintro ⟨_, h1, h2⟩
    refine ⟨h1, ?_⟩
    injection h2 with h2
    simpa using h2
  · rintro ⟨h1, h2⟩
    rw [h2]
    exact ⟨⟨by decide, by decide⟩, h1, rfl⟩
theorem below_list {x : Str} (h : Par x) : belowOf x = belowL 0 x.cps.toList := by
  rw [← below_range _ 0 h]
  unfold belowOf rangeKs
  have e : ((x.length : Int) - 0).toNat = x.cps.toList.length := by rw [lenL_eq]; omega
  rw [e, List.filter_map, List.length_map]
  refine congrArg (fun l : List Nat => ((l.length : Nat) : Int)) (List.filter_congr fun k hk => ?_)
  have := belowC_list h (List.mem_range.mp hk)
  show decide (belowC x (0 + (k : Int))) = _
  rw [Int.zero_add]; exact this
end Mine
end
section
open PySem PySem.W PyProof.Rows PySem.Calls
namespace Mine
/-- an exact dict whose entries are es -/
def Raw (h : Heap) (d : Addr) (es : Array DictEntry) (ep : Nat) : Prop := ∃ o, h.get? d = some o ∧ o.ExactDict ∧ o.data = .dict es ep
theorem Raw.typeIs {s : Shared} {d : Addr} {es : Array DictEntry} {ep : Nat} (x : Raw s.heap d es ep) : s.TypeIs (.ref d) "dict" := let ⟨o, ho, hc, _⟩ := x; ⟨o, ho, hc.1⟩
theorem Raw.at {h h' : Heap} {d : Addr} {es : Array DictEntry} {ep : Nat} (x : Raw h d es ep) (e : ∀ o, h.get? d = some o → h'.get? d = some o) : Raw h' d es ep := let ⟨o, ho, r⟩ := x; ⟨o, e _ ho, r⟩
section
variable {prog : Program} {w : World} {A : Around} {E : Value → Shared → Prop} {s : Shared} {d : Addr} {es : Array DictEntry} {ep : Nat}
theorem raw_call_items {Q : Value → Shared → Prop} (hd : (d == sysModules) = false) (hm : Raw s.heap d es ep)
    (h : Q (.ref s.heap.objs.size) { s with heap := s.heap.push { cls := .type "dict_items", data := .fields #[.ref d] } }) : wpAny (model prog w) A (call (.builtin "dict.items") [.ref d]) Q E s := by
  refine wpAny_call_entry PySem.F.slot_dict_items hm.typeIs PySem.F.entry_dict_items ?_ (PySem.F.args_dict_items_1 _)
  unfold Builtin.«dict.items»
  refine wpAny_bind ?_
  unfold Builtin.Dict.noArgs
  refine wpAny_bind (wpAny_notOrdered_dict hm.typeIs ?_)
  show wpAny _ _ (pure d) _ _ s
  refine wpAny_pure ?_
  show wpAny _ _ (Builtin.Dict.showsAll d >>= _) _ _ s
  unfold Builtin.Dict.showsAll
  rw [if_neg (by rw [hd]; exact Bool.false_ne_true)]
  refine wpAny_bind (wpAny_pure ?_)
  exact wpAny_bind (wpAny_newObj_type (wpAny_pure ⟨_, rfl, h⟩))
theorem raw_call_values {Q : Value → Shared → Prop} (hd : (d == sysModules) = false) (hm : Raw s.heap d es ep)
    (h : Q (.ref s.heap.objs.size) { s with heap := s.heap.push { cls := .type "dict_values", data := .fields #[.ref d] } }) : wpAny (model prog w) A (call (.builtin "dict.values") [.ref d]) Q E s := by
  refine wpAny_call_entry PySem.F.slot_dict_values hm.typeIs PySem.F.entry_dict_values ?_ (PySem.F.args_dict_values_1 _)
  unfold Builtin.«dict.values»
  refine wpAny_bind ?_
  unfold Builtin.Dict.noArgs
  refine wpAny_bind (wpAny_notOrdered_dict hm.typeIs ?_)
  show wpAny _ _ (pure d) _ _ s
  refine wpAny_pure ?_
  show wpAny _ _ (Builtin.Dict.showsAll d >>= _) _ _ s
  unfold Builtin.Dict.showsAll
  rw [if_neg (by rw [hd]; exact Bool.false_ne_true)]
  refine wpAny_bind (wpAny_pure ?_)
  exact wpAny_bind (wpAny_newObj_type (wpAny_pure ⟨_, rfl, h⟩))
theorem raw_iter_items {v : Addr} {Q : Value → Shared → Prop} (hv : s.heap.IsItemsView v d) (hm : Raw s.heap d es ep)
    (hQ : Q (.ref s.heap.objs.size) { s with heap := s.heap.push { cls := .type "dict_itemiterator", data := .fields #[.none, .bool false, .ref d, .int 0 0, .int es.size 0, .int ep 0, .none, .none] } }) :
    wpAny (model prog w) A (pyIter (.ref v)) Q E s := by
  obtain ⟨ov, hov, hcv, hdv⟩ := id hv
  obtain ⟨o, ho, hc, hdat⟩ := id hm
  refine wpAny_pyIter_slot hv.typeIs F.slot_dict_items_iter (wpAny_call_entry F.slot_dict_items_iter hv.typeIs F.entry_dict_items_iter ?_ (F.args_dict_items_iter_1 _))
  unfold Builtin.«dict_items.__iter__»
  refine wpAny_bind (wpAny_pure ?_)
  refine wpAny_bind ?_
  unfold Builtin.Dict_items.dictOf
  refine wpAny_bind (wpAny_field hov hdv (x := .ref d) rfl (wpAny_pure ?_))
  refine wpAny_bind ?_
  unfold Builtin.Dict_items.newIterator
  refine wpAny_bind (wpAny_dictEntries ho hdat ?_)
  refine wpAny_bind (wpAny_dictEpoch ho hdat ?_)
  have hown : Builtin.Dict_items.ownsTuple "dict_itemiterator" = true := by decide
  simp only [hown, if_true]
  refine wpAny_newObj_type (wpAny_pure ⟨_, rfl, "dict_itemiterator", _, ⟨_, Heap.get?_push_size _ rfl, rfl⟩, F.slot_dict_itemiterator_next.lookup, ?_⟩)
    (by simp only [sizeOk, Builtin.Dict_items.ownedTupleFields, List.size_toArray, List.length_append, List.length_cons, List.length_nil, sizeLine_eq]; omega)
  simpa [rawInt, Builtin.Dict_items.ownedTupleFields] using hQ
theorem raw_iter_values {v : Addr} {Q : Value → Shared → Prop} (hv : s.heap.IsValuesView v d) (hm : Raw s.heap d es ep)
    (hQ : Q (.ref s.heap.objs.size) { s with heap := s.heap.push { cls := .type "dict_valueiterator", data := .fields #[.ref d, .int 0 0, .int es.size 0, .int ep 0] } }) :
    wpAny (model prog w) A (pyIter (.ref v)) Q E s := by
  obtain ⟨ov, hov, hcv, hdv⟩ := id hv
  obtain ⟨o, ho, hc, hdat⟩ := id hm
  refine wpAny_pyIter_slot hv.typeIs F.slot_dict_values_iter (wpAny_call_entry F.slot_dict_values_iter hv.typeIs F.entry_dict_values_iter ?_ (F.args_dict_values_iter_1 _))
  unfold Builtin.«dict_values.__iter__»
  refine wpAny_bind (wpAny_pure ?_)
  refine wpAny_bind ?_
  unfold Builtin.Dict_items.dictOf
  refine wpAny_bind (wpAny_field hov hdv (x := .ref d) rfl (wpAny_pure ?_))
  refine wpAny_bind ?_
  unfold Builtin.Dict_items.newIterator
  refine wpAny_bind (wpAny_dictEntries ho hdat ?_)
  refine wpAny_bind (wpAny_dictEpoch ho hdat ?_)
  have hown : Builtin.Dict_items.ownsTuple "dict_valueiterator" = false := by decide
  simp only [hown, Bool.false_eq_true, if_false]
  refine wpAny_newObj_type (wpAny_pure ⟨_, rfl, "dict_valueiterator", _, ⟨_, Heap.get?_push_size _ rfl, rfl⟩, F.slot_dict_valueiterator_next.lookup, ?_⟩)
  simpa [rawInt] using hQ
/-- how the walk of a dict's view ends: the iterator lets the dict go, StopIteration is made and caught by the walk -/
theorem raw_stop {h₁ : Heap} {Q : Option Value → Shared → Prop} {A A' : Around} {it : Addr} (hh : A'.handled = none) (hQ : ∀ h', Heap.ExtBut it s.heap h' → Q none { s with heap := h' }) (hk : Heap.SameBut it s.heap h₁) :
    wpAny (model prog w) A' (newExc (.type "StopIteration") [] >>= fun e => (raiseNew e : Sem PySem.Fin)) (fun _ _ => False)
      (fun e s' => wpAny (model prog w) A (do if ← isInstance e (.type "StopIteration") then pure none else throw e) Q E s') { s with heap := h₁ } := by
  refine wpAny_bind ?_
  simp only [newExc, newTuple]
  refine wpAny_bind (wpAny_newObj_type ?_ (by size_fits))
  refine wpAny_bind (m := firstArgMember _ _) (wpAny_of_eq (a := Value.none) (by first | rfl | (simp only [firstArgMember]; rfl)) ?_)
  refine wpAny_newObj_type ?_ (by size_fits)
  simp only [raiseNew]
  refine wpAny_bind (wpAny_handled ?_)
  rw [hh]
  refine wpAny_bind (wpAny_pure (wpAny_throw ?_))
  refine wpAny_bind (wpAny_isInstance (T := "StopIteration") (b := true) ⟨_, Heap.get?_push_size _ rfl, rfl⟩ isSubtype_stop ?_)
  exact wpAny_pure (hQ _ ((hk.extBut.push _).push _))
end
section
variable {prog : Program} {w : World} {A : Around} {E : Value → Shared → Prop} {s : Shared} {d it : Addr} {es : Array DictEntry} {ep i : Nat}
theorem raw_next_item {ok ov : Value} {Q : Option Value → Shared → Prop} (hit : IsItemIter s.heap it d i es.size ep ok ov) (hm : Raw s.heap d es ep) (hi : i < es.size)
    (hQ : ∀ h', IsItemIterOut h' it d (i + 1) es.size ep es[i].key es[i].val s.heap.objs.size →
      h'.get? s.heap.objs.size = some { cls := .type "tuple", data := .seq #[es[i].key, es[i].val] } → 
      (∀ b o, b ≠ it → s.heap.get? b = some o → h'.get? b = some o) → Q (some (.ref s.heap.objs.size)) { s with heap := h' }) :
    wpAny (model prog w) A (pyNext (.ref it)) Q E s := by
  obtain ⟨h0, g, dr, tk, os⟩ := s
  obtain ⟨od, hod, hcd, hdd⟩ := id hm
  have hT : Shared.TypeIs ⟨h0, g, dr, tk, os⟩ (.ref it) "dict_itemiterator" := ⟨_, hit, rfl⟩
  have hil : it < h0.objs.size := Heap.lt_size hit
  have hown : Builtin.Dict_items.ownsTuple "dict_itemiterator" = true := by decide
  unfold pyNext
  refine wpAny_bind (wpAny_attempt (wpAny_callSpecial?_slot (name := Str.ofString "__next__") hT F.slot_dict_itemiterator_next
    (wpAny_call_entry F.slot_dict_itemiterator_next hT F.entry_dict_itemiterator_next ?_ (F.args_dict_itemiterator_next_1 _))))
  refine wpAny_bind (wpAny_pure (wpAny_bind (wpAny_bind (wpAny_bind (wpAny_typeNameOfWhole_itemiter hT (wpAny_pure ?_))))))
  refine wpAny_bind (wpAny_fieldsOf hit rfl ?_)
  simp only [hown, if_true]
  show wpAny _ _ (if (Value.ref d == Value.none) = true then _ else _) _ _ _
  rw [if_neg (show ¬ ((Value.ref d == Value.none) = true) from Bool.false_ne_true)]
  refine wpAny_bind (wpAny_pure (wpAny_bind (wpAny_dictEntries hod hdd ?_)))
  rw [if_neg (by simp)]
  refine wpAny_bind (wpAny_pure (wpAny_bind (wpAny_dictEpoch hod hdd ?_)))
  rw [if_neg (by simp)]
  refine wpAny_pure ?_
  simp only [show ¬ ((i : Int) < 0) from by omega, if_false, Int.toNat_natCast, Array.getElem?_eq_getElem hi]
  refine wpAny_bind (wpAny_bind (wpAny_typeNameOfWhole_itemiter hT (wpAny_pure ?_)))
  refine wpAny_bind (wpAny_isOneOf_itemiter hT ?_)
  show wpAny _ _ (setField (.ref it) 3 (rawInt ((i : Int) + 1)) >>= _) _ _ ⟨h0, g, dr, tk, os⟩
  refine wpAny_bind (wpAny_setField_rec hit (by simp) fun h1 e1 k1 => ?_)
  have k1' : Heap.SameBut it h0 h1 := k1
  have e1' : IsItemIter h1 it d (i + 1) es.size ep ok ov := by
    have e : ((i + 1 : Nat) : Int) = (i : Int) + 1 := by omega
    unfold IsItemIter; rw [e]; simpa [rawInt] using e1
  have hT1 : Shared.TypeIs ⟨h1, g, dr, tk, os⟩ (.ref it) "dict_itemiterator" := ⟨_, e1', rfl⟩
  refine wpAny_bind (wpAny_holding (wpAny_bind (wpAny_isOneOf_itemiter hT1 (wpAny_bind (wpAny_isOneOf_itemiter hT1 ?_)))))
  show wpAny _ _ (Builtin.Dict_items.pairFromOwner (.ref it) 6 es[i].key es[i].val) _ _ ⟨h1, g, dr, tk, os⟩
  unfold Builtin.Dict_items.pairFromOwner
  refine wpAny_bind (wpAny_newTuple ?_)
  have hz1 : h1.objs.size = h0.objs.size := k1'.1
  show wpAny _ _ _ _ _ ⟨h1.push { cls := .type "tuple", data := .seq #[es[i].key, es[i].val] }, g, dr, tk, os⟩
  have e2 : IsItemIter (h1.push { cls := .type "tuple", data := .seq #[es[i].key, es[i].val] }) it d (i + 1) es.size ep ok ov := Heap.get?_push_of_some _ e1'
  have t2 : (h1.push { cls := .type "tuple", data := .seq #[es[i].key, es[i].val] }).get? h0.objs.size = some { cls := .type "tuple", data := .seq #[es[i].key, es[i].val] } := by rw [← hz1]; exact Heap.get?_push_size _ rfl
  have g2 : ∀ b o, b ≠ it → h0.get? b = some o → (h1.push { cls := .type "tuple", data := .seq #[es[i].key, es[i].val] }).get? b = some o := fun b o hb e => Heap.get?_push_of_some _ (k1'.extBut b o hb e)
  rw [hz1]
  generalize h1.push { cls := .type "tuple", data := .seq #[es[i].key, es[i].val] } = h2 at e2 t2 g2
  refine wpAny_bind ?_
  unfold Builtin.Dict_items.ownedTupleIsFree
  refine wpAny_bind (wpAny_field e2 rfl (x := .none) rfl (wpAny_pure ?_))
  simp only [if_true]
  refine wpAny_bind (wpAny_field e2 rfl (x := ok) rfl (wpAny_bind (wpAny_field e2 rfl (x := ov) rfl ?_)))
  refine wpAny_bind (wpAny_setField_rec e2 (by simp) fun h3 e3 k3 => wpAny_bind (wpAny_setField_rec (s := ⟨h3, g, dr, tk, os⟩) e3 (by simp) fun h4 e4 k4 =>
    wpAny_bind (wpAny_setField_rec (s := ⟨h4, g, dr, tk, os⟩) e4 (by simp) fun h5 e5 k5 => wpAny_bind (wpAny_setField_rec (s := ⟨h5, g, dr, tk, os⟩) e5 (by simp) fun h6 e6 k6 => ?_))))
  have keep : ∀ b o, b ≠ it → h2.get? b = some o → h6.get? b = some o := fun b o hb e =>
    Heap.SameBut.extBut k6 b o hb (Heap.SameBut.extBut k5 b o hb (Heap.SameBut.extBut k4 b o hb (Heap.SameBut.extBut k3 b o hb e)))
  refine wpAny_bind (wpAny_letGo (wpAny_pure (wpAny_pure ⟨_, rfl, wpAny_pure (hQ h6 e6 (keep _ _ (Nat.ne_of_gt hil) t2) fun b o hb e => keep b o hb (g2 b o hb e))⟩)))
theorem raw_next_end {ok ov : Value} {Q : Option Value → Shared → Prop} (hh : A.handled = none) (hit : IsItemIter s.heap it d es.size es.size ep ok ov) (hm : Raw s.heap d es ep)
    (hQ : ∀ h', Heap.ExtBut it s.heap h' → Q none { s with heap := h' }) : wpAny (model prog w) A (pyNext (.ref it)) Q E s := by
  obtain ⟨od, hod, hcd, hdd⟩ := id hm
  have hT : s.TypeIs (.ref it) "dict_itemiterator" := ⟨_, hit, rfl⟩
  have hown : Builtin.Dict_items.ownsTuple "dict_itemiterator" = true := by decide
  unfold pyNext
  refine wpAny_bind (wpAny_attempt (wpAny_callSpecial?_slot (name := Str.ofString "__next__") hT F.slot_dict_itemiterator_next
    (wpAny_call_entry F.slot_dict_itemiterator_next hT F.entry_dict_itemiterator_next ?_ (F.args_dict_itemiterator_next_1 _))))
  refine wpAny_bind (wpAny_pure (wpAny_bind (wpAny_bind (wpAny_bind (wpAny_typeNameOfWhole_itemiter hT (wpAny_pure ?_))))))
  refine wpAny_bind (wpAny_fieldsOf hit rfl ?_)
  simp only [hown, if_true]
  show wpAny _ _ (if (Value.ref d == Value.none) = true then _ else _) _ _ _
  rw [if_neg (show ¬ ((Value.ref d == Value.none) = true) from Bool.false_ne_true)]
  refine wpAny_bind (wpAny_pure (wpAny_bind (wpAny_dictEntries hod hdd ?_)))
  rw [if_neg (by simp)]
  refine wpAny_bind (wpAny_pure (wpAny_bind (wpAny_dictEpoch hod hdd ?_)))
  rw [if_neg (by simp)]
  refine wpAny_pure ?_
  simp only [show ¬ ((es.size : Int) < 0) from by omega, if_false, Int.toNat_natCast, Array.getElem?_eq_none (Nat.le_refl es.size)]
  refine wpAny_bind (wpAny_bind (wpAny_typeNameOfWhole_itemiter hT (wpAny_pure ?_)))
  show wpAny _ _ (setField (.ref it) 2 .none >>= _) _ _ s
  refine wpAny_bind (wpAny_setField hit rfl (by simp) ?_)
  exact wpAny_mono (raw_stop (E := E) (A := A) (A' := A.in1) hh hQ (Heap.SameBut.update ..)) (fun _ _ x => x.elim) fun _ _ x => x
theorem raw_next_value {Q : Option Value → Shared → Prop} (hit : s.heap.IsValIter it d i es.size ep) (hm : Raw s.heap d es ep) (hi : i < es.size)
    (hQ : ∀ h', h'.IsValIter it d (i + 1) es.size ep → Heap.SameBut it s.heap h' → Q (some es[i].val) { s with heap := h' }) :
    wpAny (model prog w) A (pyNext (.ref it)) Q E s := by
  obtain ⟨o, ho, hc, hd⟩ := id hit
  obtain ⟨od, hod, hcd, hdd⟩ := id hm
  have hown : Builtin.Dict_items.ownsTuple "dict_valueiterator" = false := by decide
  unfold pyNext
  refine wpAny_bind (wpAny_attempt (wpAny_callSpecial?_slot (name := Str.ofString "__next__") hit.typeIs F.slot_dict_valueiterator_next
    (wpAny_call_entry F.slot_dict_valueiterator_next hit.typeIs F.entry_dict_valueiterator_next ?_ (F.args_dict_valueiterator_next_1 _))))
  refine wpAny_bind (wpAny_pure (wpAny_bind (wpAny_bind (wpAny_bind (wpAny_typeNameOfWhole_valiter hit.typeIs (wpAny_pure ?_))))))
  refine wpAny_bind (wpAny_fieldsOf ho hd ?_)
  simp only [hown, Bool.false_eq_true, if_false]
  show wpAny _ _ (if (Value.ref d == Value.none) = true then _ else _) _ _ _
  rw [if_neg (show ¬ ((Value.ref d == Value.none) = true) from Bool.false_ne_true)]
  refine wpAny_bind (wpAny_pure (wpAny_bind (wpAny_dictEntries hod hdd ?_)))
  rw [if_neg (by simp)]
  refine wpAny_bind (wpAny_pure (wpAny_bind (wpAny_dictEpoch hod hdd ?_)))
  rw [if_neg (by simp)]
  refine wpAny_pure ?_
  simp only [show ¬ ((i : Int) < 0) from by omega, if_false, Int.toNat_natCast, Array.getElem?_eq_getElem hi]
  refine wpAny_bind (wpAny_bind (wpAny_typeNameOfWhole_valiter hit.typeIs (wpAny_pure ?_)))
  refine wpAny_bind (wpAny_isOneOf_valiter hit.typeIs ?_)
  show wpAny _ _ (setField (.ref it) 1 (rawInt ((i : Int) + 1)) >>= _) _ _ s
  refine wpAny_bind (wpAny_setField ho hd (by simp) ?_)
  have e1 : (s.heap.update it (Obj.mapFields (·.setIfInBounds 1 (rawInt ((i : Int) + 1))))).IsValIter it d (i + 1) es.size ep :=
    ⟨_, Heap.get?_update_self _ ho (Obj.isFreed_of_fields (Obj.data_mapFields hd _)), (Obj.cls_mapFields ..).trans hc, by rw [Obj.data_mapFields hd]; simp [rawInt]⟩
  have k1 : Heap.SameBut it s.heap (s.heap.update it (Obj.mapFields (·.setIfInBounds 1 (rawInt ((i : Int) + 1))))) := Heap.SameBut.update ..
  generalize s.heap.update it (Obj.mapFields (·.setIfInBounds 1 (rawInt ((i : Int) + 1)))) = h1 at e1 k1
  have hT1 : Shared.TypeIs { s with heap := h1 } (.ref it) "dict_valueiterator" := e1.typeIs (s := { s with heap := h1 })
  refine wpAny_bind (wpAny_holding (wpAny_bind (wpAny_isOneOf_valiter hT1 (wpAny_bind (wpAny_isOneOf_valiter hT1 ?_)))))
  show wpAny _ _ (pure es[i].val) _ _ _
  exact wpAny_pure (wpAny_pure ⟨_, rfl, wpAny_pure (hQ _ e1 k1)⟩)
theorem raw_value_end {Q : Option Value → Shared → Prop} (hh : A.handled = none) (hit : s.heap.IsValIter it d es.size es.size ep) (hm : Raw s.heap d es ep)
    (hQ : ∀ h', Heap.ExtBut it s.heap h' → Q none { s with heap := h' }) : wpAny (model prog w) A (pyNext (.ref it)) Q E s := by
  obtain ⟨o, ho, hc, hd⟩ := id hit
  obtain ⟨od, hod, hcd, hdd⟩ := id hm
  have hown : Builtin.Dict_items.ownsTuple "dict_valueiterator" = false := by decide
  unfold pyNext
  refine wpAny_bind (wpAny_attempt (wpAny_callSpecial?_slot (name := Str.ofString "__next__") hit.typeIs F.slot_dict_valueiterator_next
    (wpAny_call_entry F.slot_dict_valueiterator_next hit.typeIs F.entry_dict_valueiterator_next ?_ (F.args_dict_valueiterator_next_1 _))))
  refine wpAny_bind (wpAny_pure (wpAny_bind (wpAny_bind (wpAny_bind (wpAny_typeNameOfWhole_valiter hit.typeIs (wpAny_pure ?_))))))
  refine wpAny_bind (wpAny_fieldsOf ho hd ?_)
  simp only [hown, Bool.false_eq_true, if_false]
  show wpAny _ _ (if (Value.ref d == Value.none) = true then _ else _) _ _ _
  rw [if_neg (show ¬ ((Value.ref d == Value.none) = true) from Bool.false_ne_true)]
  refine wpAny_bind (wpAny_pure (wpAny_bind (wpAny_dictEntries hod hdd ?_)))
  rw [if_neg (by simp)]
  refine wpAny_bind (wpAny_pure (wpAny_bind (wpAny_dictEpoch hod hdd ?_)))
  rw [if_neg (by simp)]
  refine wpAny_pure ?_
  simp only [show ¬ ((es.size : Int) < 0) from by omega, if_false, Int.toNat_natCast, Array.getElem?_eq_none (Nat.le_refl es.size)]
  refine wpAny_bind (wpAny_bind (wpAny_typeNameOfWhole_valiter hit.typeIs (wpAny_pure ?_)))
  show wpAny _ _ (setField (.ref it) 0 .none >>= _) _ _ s
  refine wpAny_bind (wpAny_setField ho hd (by simp) ?_)
  exact wpAny_mono (raw_stop (E := E) (A := A) (A' := A.in1) hh hQ (Heap.SameBut.update ..)) (fun _ _ x => x.elim) fun _ _ x => x
end
section
variable {prog : Program} {w : World} {A : Around} {d it : Addr} {es : Array DictEntry} {ep : Nat}
theorem raw_items_turns {elts : List PySem.Expr} {k : Nat} {pos : Pos} (hh : A.handled = none) (hne : d ≠ it) :
    KTurns prog w A (.Tuple elts k pos) it [it, d] [it] es.size (fun i v h => ∃ T, v = .ref T ∧ ∃ hi : i < es.size, h.IsTuple T #[es[i].key, es[i].val])
      (fun i v h => ∃ T, v = .ref T ∧ ∃ hi : i < es.size, h.IsTuple T #[es[i].key, es[i].val] ∧ T ≠ it ∧ IsItemIterOut h it d (i + 1) es.size ep es[i].key es[i].val T ∧ Raw h d es ep)
      (fun i h => ∃ ok ov, IsItemIter h it d i es.size ep ok ov ∧ Raw h d es ep) where
  sub := fun b hb => by rw [List.mem_singleton.mp hb]; exact .head _
  frame := fun i h h' ⟨ok, ov, hi, hr⟩ hk => ⟨ok, ov, hk it (.head _) _ hi, hr.at fun o e => hk d (.tail _ (.head _)) o e⟩
  item := fun i s Q E hi ⟨ok, ov, hit, hr⟩ hQ => by
    refine raw_next_item hit hr hi fun h' e1 t1 k1 => hQ _ h' _ ⟨_, rfl, hi, ⟨_, t1, rfl, _, rfl⟩, Nat.ne_of_gt (Heap.lt_size hit), e1, hr.at fun o e => k1 d o hne e⟩ fun b o hb e => k1 b o (by simpa using hb) e
  go := fun i v s Q E ⟨T, hv, hi, hT, hTi, e1, hr⟩ hQ => by
    subst hv
    refine wpAny_letOwnedTupleGo_items e1 fun h' e2 k2 => hQ h' ⟨T, rfl, hi, hT.at fun o e => Heap.SameBut.extBut k2 T o hTi e⟩ ⟨_, _, e2, hr.at fun o e => Heap.SameBut.extBut k2 d o hne e⟩ fun b o hb e => Heap.SameBut.extBut k2 b o (by simpa using hb) e
  done := fun s Q E ⟨ok, ov, hit, hr⟩ hQ => raw_next_end hh hit hr fun h' k1 => hQ h' _ fun b o hb e => k1 b o (by simpa using hb) e
theorem raw_values_turns {target : PySem.Expr} (hh : A.handled = none) (hne : d ≠ it) :
    KTurns prog w A target it [it, d] [it] es.size (fun i v _ => ∃ hi : i < es.size, v = es[i].val)
      (fun i v h => (∃ hi : i < es.size, v = es[i].val) ∧ h.IsValIter it d (i + 1) es.size ep ∧ Raw h d es ep)
      (fun i h => h.IsValIter it d i es.size ep ∧ Raw h d es ep) where
  sub := fun b hb => by rw [List.mem_singleton.mp hb]; exact .head _
  frame := fun i h h' ⟨hi, hr⟩ hk => ⟨hi.at fun o e => hk it (.head _) o e, hr.at fun o e => hk d (.tail _ (.head _)) o e⟩
  item := fun i s Q E hi ⟨hit, hr⟩ hQ => raw_next_value hit hr hi fun h' e1 k1 => hQ _ h' _ ⟨⟨hi, rfl⟩, e1, hr.at fun o e => Heap.SameBut.extBut k1 d o hne e⟩ fun b o hb e => Heap.SameBut.extBut k1 b o (by simpa using hb) e
  go := fun i v s Q E ⟨hv, hit, hr⟩ hQ => letGo_valiter hit (hQ s.heap hv ⟨hit, hr⟩ fun _ _ _ e => e)
  done := fun s Q E ⟨hit, hr⟩ hQ => raw_value_end hh hit hr fun h' k1 => hQ h' _ fun b o hb e => k1 b o (by simpa using hb) e
end
end Mine
end
section
open PySem PySem.W PyProof.Rows PySem.Calls
namespace Mine
section
variable {prog : Program} {w : World} {A : Around} {E : Value → Shared → Prop} {s : Shared}
theorem eqBool_str_int {a : Str} {b : Int} {t u : Tok} {Q : Bool → Shared → Prop} (h : Q false s) : wpAny (model prog w) A (eqBool (.str a t) (.int b u)) Q E s := by
  unfold eqBool
  show wpAny _ _ (richCompare .Eq (.str a t) (.int b u) >>= fun r => truthOfDropped r) Q E s
  exact wpAny_bind (EqMixed.eq_str_int (wpAny_truthy_bool h))
theorem eqBool_int_str {a : Int} {b : Str} {t u : Tok} {Q : Bool → Shared → Prop} (h : Q false s) : wpAny (model prog w) A (eqBool (.int a t) (.str b u)) Q E s := by
  unfold eqBool
  show wpAny _ _ (richCompare .Eq (.int a t) (.str b u) >>= fun r => truthOfDropped r) Q E s
  exact wpAny_bind (EqMixed.eq_int_str (wpAny_truthy_bool h))
end
def siIs : Str ⊕ Int → Value → Bool
  | .inl x, v => Value.isStrOf x v
  | .inr n, v => Value.isInt n v
def siHash (w : World) : Str ⊕ Int → Int
  | .inl x => hashStr w x
  | .inr n => hashInt n
theorem siIs_shape {k : Str ⊕ Int} {v : Value} (h : siIs k v = true) : (∃ x t, k = .inl x ∧ v = .str x t) ∨ ∃ n t, k = .inr n ∧ v = .int n t := by
  cases k with
  | inl x => obtain ⟨t, e⟩ := Value.isStrOf_shape h; exact .inl ⟨x, t, rfl, e⟩
  | inr n => obtain ⟨t, e⟩ := Value.isInt_shape h; exact .inr ⟨n, t, rfl, e⟩
def siKind (prog : Program) (w : World) : KeyKind prog w (Str ⊕ Int) where
  is := siIs
  hash := siHash w
  inj := fun v a b ha hb => by
    rcases siIs_shape ha with ⟨x, t, rfl, rfl⟩ | ⟨x, t, rfl, rfl⟩ <;> rcases siIs_shape hb with ⟨y, u, rfl, e⟩ | ⟨y, u, rfl, e⟩
    · injection e with e1; rw [e1]
    · cases e
    · cases e
    · injection e with e1; rw [e1]
  byValue := fun k v h => by rcases siIs_shape h with ⟨x, t, rfl, rfl⟩ | ⟨x, t, rfl, rfl⟩ <;> rfl
  pyHash := fun hv h => by
    rcases siIs_shape hv with ⟨x, t, rfl, rfl⟩ | ⟨x, t, rfl, rfl⟩
    · exact wpAny_pyHash_str h
    · exact wpAny_pyHash_int h
  eqBool := fun {A E s a b u v Q} hu hv h => by
    rcases siIs_shape hu with ⟨x, t, rfl, rfl⟩ | ⟨x, t, rfl, rfl⟩ <;> rcases siIs_shape hv with ⟨y, u, rfl, rfl⟩ | ⟨y, u, rfl, rfl⟩
    · refine wpAny_eqBool_str ?_
      have e : decide ((Sum.inl x : Str ⊕ Int) = .inl y) = decide (x = y) := by simp
      rw [e] at h; exact h
    · exact eqBool_str_int (by simpa using h)
    · exact eqBool_int_str (by simpa using h)
    · refine wpAny_eqBool_int (prog := prog) (w := w) ?_
      have e : decide ((Sum.inr x : Str ⊕ Int) = .inr y) = (x == y) := by
        by_cases e : x = y <;> simp [e]
      rw [e] at h; exact h
  «strs» := fun k x t v h => by
    rcases siIs_shape h with ⟨y, u, rfl, e⟩ | ⟨y, u, rfl, e⟩
    · injection e with e1; subst e1
      cases v <;> rfl
    · cases e
def sBelow : Str := Str.ofString "below"
def sRow : Str := Str.ofString "row"
def keyOf (k : Int) : List (Str ⊕ Int) := [.inl sBelow, .inr k, .inl sRow]
theorem keyOf_inj {a b : Int} (h : keyOf a = keyOf b) : a = b := by
  unfold keyOf at h
  injection h with _ h
  injection h with h _
  injection h
def bKind (prog : Program) (w : World) : HeapKind prog w Int where
  is := fun h k a => IsTupleKey (siKind prog w) h (keyOf k) a
  hash := fun k => tupleKeyHash (siKind prog w) (keyOf k)
  draws := fun _ => 4
  room := fun A => A.units < cLine
  inj := fun hx hy => keyOf_inj (hx.inj hy)
  keeps := fun x ho hd hs => x.keeps ho hd hs
  pyHash := fun hu hk h => wpAny_pyHash_tuple hu hk h
  eqBool := fun {A E s x y a b Q} hu hx hy h => wpAny_eqBool_tuple hu hx hy (by
    have e : decide (keyOf x = keyOf y) = decide (x = y) := by
      by_cases e : x = y
      · simp [e]
      · rw [decide_eq_false e, decide_eq_false fun q => e (keyOf_inj q)]
    rw [e]; exact h)
  quiet := fun hk h => wpAny_eqIsQuiet_tuple hk h
end Mine
end
section
open PySem PySem.W PyProof.Rows PySem.Calls
namespace Mine
inductive CVals : List (Int × Addr × Value) → List (Int × Int) → Prop
  | nil : CVals [] []
  | cons (k : Int) (a : Addr) (c : Int) (t : Tok) {xs kvs} : CVals xs kvs → CVals ((k, a, .int c t) :: xs) ((k, c) :: kvs)
theorem CVals.length : ∀ {xs kvs}, CVals xs kvs → xs.length = kvs.length
  | _, _, .nil => rfl
  | _, _, .cons _ _ _ _ h => congrArg (· + 1) h.length
theorem CVals.get : ∀ {xs kvs}, CVals xs kvs → ∀ i (hi : i < kvs.length), ∃ a t, xs[i]? = some (kvs[i].1, a, .int kvs[i].2 t)
  | _, _, .cons k a c t h, 0, _ => ⟨a, t, rfl⟩
  | _, _, .cons k a c t h, i + 1, hi => by
    obtain ⟨a', t', e⟩ := h.get i (by simpa using hi)
    exact ⟨a', t', by simpa using e⟩
theorem CVals.keys : ∀ {xs kvs}, CVals xs kvs → xs.map (·.1) = kvs.map (·.1)
  | _, _, .nil => rfl
  | _, _, .cons _ _ _ _ h => by simp [h.keys]
section
variable (prog : Program) (w : World)
def KeyObj (k : Int) (o : Obj) : Prop := o.cls = .type "tuple" ∧ ∃ items n, o.data = .seq items n ∧ ItemsAre (siKind prog w) (keyOf k) items.toList
def CntAt (news : List (Addr × Obj)) (d : Addr) (kvs : List (Int × Int)) : Prop :=
  (d == sysModules) = false ∧ ∃ o es ep xs, (d, o) ∈ news ∧ o.ExactDict ∧ o.data = .dict es ep ∧ es.toList = xs.map (entryOfKey (bKind prog w)) ∧ (xs.map (·.1)).Nodup ∧
    (∀ x ∈ xs, ∃ ok, (x.2.1, ok) ∈ news ∧ KeyObj prog w x.1 ok) ∧ CVals xs kvs
end
section
variable {prog : Program} {w : World} {A : Around} {E : Value → Shared → Prop} {s : Shared} {h₀ h : Heap} {L d : Addr} {m : Str → Option Value} {news news' : List (Addr × Obj)} {kvs : List (Int × Int)}
theorem KeyObj.at {k : Int} {o : Obj} {a : Addr} (x : KeyObj prog w k o) (ho : h.get? a = some o) : (bKind prog w).is h k a := let ⟨hc, items, n, hd, hi⟩ := x; ⟨o, items, n, ho, hc, hd, hi⟩
theorem CntAt.mono (C : CntAt prog w news d kvs) (hs : ∀ p ∈ news, p ∈ news') : CntAt prog w news' d kvs :=
  let ⟨lo, o, es, ep, xs, hm, hc, hd, he, hn, hk, hv⟩ := C
  ⟨lo, o, es, ep, xs, hs _ hm, hc, hd, he, hn, fun x hx => let ⟨ok, h1, h2⟩ := hk x hx; ⟨ok, hs _ h1, h2⟩, hv⟩
theorem CntAt.dict (C : CntAt prog w news d kvs) (N : News h₀ L h news) : (d == sysModules) = false ∧ ∃ xs, h.DictOfH (bKind prog w) d xs ∧ CVals xs kvs :=
  let ⟨lo, o, es, ep, xs, hm, hc, hd, he, hn, hk, hv⟩ := C
  ⟨lo, xs, ⟨o, es, ep, (N _ hm).1, hc, hd, he, fun x hx => let ⟨_, h1, h2⟩ := hk x hx; h2.at (N _ h1).1, hn⟩, hv⟩
theorem CntAt.typeIs (C : CntAt prog w news d kvs) (N : News h₀ L s.heap news) : s.TypeIs (.ref d) "dict" := let ⟨_, _, hd, _⟩ := C.dict N; hd.typeIs
theorem cnt_method {name : Str} {id : String} {pl : Sem Bool} {Q : Value × List Value → Shared → Prop} (slot : Slot "dict" name id) (ty : typeOf (.builtin id) = pure (.type "method_descriptor")) (C : CntAt prog w news d kvs) (N : News h₀ L s.heap news)
    (h : Q (.builtin id, [.ref d]) s) : wpAny (model prog w) A (getMethod (.ref d) name pl) Q E s := by
  have C' := C
  obtain ⟨lo, o, es, ep, xs, hm, hc, _⟩ := C'
  exact getMethod_builtin (C.typeIs N) PySem.F.plainAttrs_dict slot ty (fun a e => by cases e; exact ⟨o, (N _ hm).1, hc.2.1⟩) h
abbrev valsView (d : Addr) : Obj := { cls := .type "dict_values", data := .fields #[.ref d] }
abbrev itemsView (d : Addr) : Obj := { cls := .type "dict_items", data := .fields #[.ref d] }
theorem cnt_values {Q : Value → Shared → Prop} (F : Fr h₀ L s.heap m) (N : News h₀ L s.heap news) (C : CntAt prog w news d kvs)
    (h : ∀ v h', Fr h₀ L h' m → News h₀ L h' ((v, valsView d) :: news) → Q (.ref v) { s with heap := h' }) : wpAny (model prog w) A (call (.builtin "dict.values") [.ref d]) Q E s := by
  obtain ⟨lo, o, es, ep, xs, hm, hc, hd, _⟩ := C
  exact raw_call_values lo ⟨o, (N _ hm).1, hc, hd⟩ (h _ _ (F.push _) (N.push F _))
theorem cnt_items {Q : Value → Shared → Prop} (F : Fr h₀ L s.heap m) (N : News h₀ L s.heap news) (C : CntAt prog w news d kvs)
    (h : ∀ v h', Fr h₀ L h' m → News h₀ L h' ((v, itemsView d) :: news) → Q (.ref v) { s with heap := h' }) : wpAny (model prog w) A (call (.builtin "dict.items") [.ref d]) Q E s := by
  obtain ⟨lo, o, es, ep, xs, hm, hc, hd, _⟩ := C
  exact raw_call_items lo ⟨o, (N _ hm).1, hc, hd⟩ (h _ _ (F.push _) (N.push F _))
theorem sum_values {env : Env} {v : Addr} {x y : Str} {px : Pos} {body : List Stmt} {Q : Flow → Shared → Prop} {c₀ : Int} {t₀ : Tok} (hh : A.handled = none) (F : Fr h₀ env.locals s.heap m) (N : News h₀ env.locals s.heap news) (C : CntAt prog w news d kvs)
    (hv : (v, valsView d) ∈ news) (hxy : x ≠ y) (hy : m y = some (.int c₀ t₀))
    (turn : ∀ I c t acc ta (u : Str → Option Value) h tk own, Fr h₀ env.locals h (fun z => if z = y then some (.int acc ta) else if z = x then u z else m z) → News h₀ env.locals h (own ++ news) → (∀ p ∈ news, p.1 ∉ [I]) →
      wpAny (model prog w) A (assign (.Name x px) env (.int c t)) (fun _ s₃ => wpAny (model prog w) A (execs body env)
        (LoopStepV h₀ env.locals [I] own (fun m' nw => nw = news ∧ (∃ ta, m' y = some (.int (acc + c) ta)) ∧ ∀ z, z ≠ y → z ≠ x → m' z = m z) { s with heap := h, toks := tk } (fun v s' => Q (.ret v) s') fun s' => Q .next s') E s₃) E { s with heap := h, toks := tk })
    (done : ∀ ta (u : Str → Option Value) h tk, Fr h₀ env.locals h (fun z => if z = y then some (.int (c₀ + (kvs.map (·.2)).sum) ta) else if z = x then u z else m z) → News h₀ env.locals h news → Q .next { s with heap := h, toks := tk }) :
    wpAny (model prog w) A (pyIter (.ref v)) (fun it s₂ => TurnsAt prog w A h₀ env (.Name x px) body Q E it s₂) E s := by
  have C' := C
  obtain ⟨lo, o, es, ep, xs, hm, hc, hd, he, hn, hk, hV⟩ := C'
  have hsz : es.size = kvs.length := by rw [← Array.length_toList, he, List.length_map, hV.length]
  have frm : ∀ {m₁ : Str → Option Value} {acc ta}, m₁ y = some (.int acc ta) → (∀ z, z ≠ y → z ≠ x → m₁ z = m z) → m₁ = fun z => if z = y then some (.int acc ta) else if z = x then m₁ z else m z := by
    intro m₁ acc ta h1 h2
    funext z
    by_cases e1 : z = y
    · rw [if_pos e1, e1, h1]
    · rw [if_neg e1]
      by_cases e2 : z = x
      · rw [if_pos e2]
      · rw [if_neg e2]; exact h2 z e1 e2
  refine raw_iter_values ⟨_, (N _ hv).1, rfl, rfl⟩ ⟨o, (N _ hm).1, hc, hd⟩ ?_
  have hI : h₀.get? s.heap.objs.size = none := Heap.get?_none_of_le (Nat.le_trans F.above (Nat.le_of_lt F.ns.lt))
  have hlt : ∀ p ∈ news, p.1 < s.heap.objs.size := fun p hp => Heap.lt_size (N p hp).1
  have hdI : d ≠ s.heap.objs.size := Nat.ne_of_lt (hlt _ hm)
  have hLI : env.locals ≠ s.heap.objs.size := Nat.ne_of_lt F.ns.lt
  refine ⟨s.heap.objs.size, _, _, es.size, _, _, _, m, news, fun i m' nw => nw = news ∧ (∃ ta, m' y = some (.int (c₀ + ((kvs.take i).map (·.2)).sum) ta)) ∧ ∀ z, z ≠ y → z ≠ x → m' z = m z, rfl, raw_values_turns (es := es) (ep := ep) (d := d) hh hdI, ?_, ?_, ?_, ?_, F.push _, fun p hp => ⟨Heap.get?_push_of_some _ (N p hp).1, (N p hp).2⟩, ?_, ?_, ?_⟩
  · intro hx
    rcases List.mem_cons.mp hx with e | hx
    · exact hLI e
    · exact (N _ hm).2.1 (List.mem_singleton.mp hx).symm
  · intro b hb; rw [List.mem_singleton.mp hb]; exact hI
  · intro p hp hx; exact Nat.ne_of_lt (hlt p hp) (List.mem_singleton.mp hx)
  · exact ⟨⟨_, Heap.get?_push_size _ rfl, rfl, rfl⟩, _, Heap.get?_push_of_some _ (N _ hm).1, hc, hd⟩
  · exact ⟨rfl, ⟨t₀, by simpa using hy⟩, fun _ _ _ => rfl⟩
  · rintro i v m₁ news₁ h₁ tk₁ own hi ⟨hi', hvi⟩ ⟨rfl, ⟨ta, hta⟩, hm₁⟩ hnI - - - - F₁ N₁
    have hik : i < kvs.length := by omega
    obtain ⟨a, t, hx⟩ := hV.get i hik
    have hval : es[i].val = .int kvs[i].2 t := by
      have : es[i]? = (xs.map (entryOfKey (bKind prog w)))[i]? := by rw [← he, Array.getElem?_toList]
      rw [List.getElem?_map, hx, Array.getElem?_eq_getElem hi'] at this
      rw [Option.some.inj this]; rfl
    rw [hvi, hval]
    rw [frm hta hm₁] at F₁
    have hs : c₀ + ((kvs.take (i + 1)).map (·.2)).sum = c₀ + ((kvs.take i).map (·.2)).sum + kvs[i].2 := by
      rw [List.take_add_one, List.getElem?_eq_getElem hik, List.map_append, List.sum_append]; simp only [Option.toList_some, List.map_cons, List.map_nil, List.sum_cons, List.sum_nil]; omega
    dsimp only
    rw [hs]
    exact turn _ _ t _ ta m₁ h₁ tk₁ own F₁ N₁ hnI
  · rintro h' tk m' news' F' N' - ⟨rfl, ⟨ta, hta⟩, hm'⟩
    rw [hsz, List.take_length] at hta
    rw [frm hta hm'] at F'
    exact done ta m' h' tk F' N'
end
end Mine
end
section
open PySem PySem.W PyProof.Rows PySem.Calls
namespace Mine
noncomputable abbrev PG : Program := Challenge.rw_gg0001_01.row.prog
theorem news_tail {h₀ h : Heap} {L : Addr} {p : Addr × Obj} {news : List (Addr × Obj)} (N : News h₀ L h (p :: news)) : News h₀ L h news := fun x hx => N x (.tail _ hx)
theorem cnt_next {h₀ h : Heap} {L : Addr} {wr : List Addr} {own news : List (Addr × Obj)} {Jn : (Str → Option Value) → List (Addr × Obj) → Prop} {s₁ : Shared} {Qr : Value → Shared → Prop} {Qb : Shared → Prop} {m : Str → Option Value} {tk : Nat}
    (F : Fr h₀ L h m) (N : News h₀ L h (own ++ news)) (ha : ∀ p ∈ news, p.1 ∉ wr) (hJ : Jn m news) : LoopStepV h₀ L wr own Jn s₁ Qr Qb .next { s₁ with heap := h, toks := tk } := ⟨rfl, h, tk, m, news, rfl, F, N, ha, hJ⟩
local macro_rules | `(tactic| cell_enter) => `(tactic| (refine' code_def ?k1 ?k2 ?k3 ?k4 ?k5 ?kA ?kF ?kK ?k6 ?k7 ?k8 ?k9 ?kB ?_ ?c2 ?c3 ?c4 ?c5; (case kA => exact rfl); (case kF => exact rfl); (case kK => assumption); (case k1 => k_asm); (case k2 => k_asm); (case k3 => k_asm); (case k4 => k_asm); (case k5 => k_asm); (case k6 => k_is); (case k7 => k_is); (case k8 => ktr_room); (case k9 => first | exact BindsTo.of_eq rfl | exact binds_K (by k_in) rfl (by k_is) rfl rfl rfl); (case c5 => decide); (case kB => exact locs rfl); (case c2 => exact rfl); (case c3 => exact rfl); (case c4 => exact rfl); k_whole; intro g' L' h' FG' F' N' B' X' T'; (try dsimp only); (try k_lift B'); (try k_fold)))
local macro_rules | `(tactic| walk_at "exec For Name Call cons nil") => `(tactic| (k_here; (rename Fr _ _ _ _ => lF'); (with_unfolding_all refine' For_turns lF' ?_)))
local macro_rules | `(tactic| walk_at "getMethod ref") => `(tactic| (k_here; (with_reducible show wpAny _ _ (getMethod (Value.ref _) (PySem.Str.ofString "values") _) _ _ _); (refine' cnt_method PySem.F.slot_dict_values PySem.F.type_dict_values ?C ?N ?_; (case C => assumption); (case N => k_asm))))
local macro_rules | `(tactic| walk_at "call builtin:dict.values") => `(tactic| (k_here; (k_dflt (refine' cnt_values ?F ?N ?C ?_; (case F => k_asm); (case N => k_asm); (case C => assumption))); intro v' h' F' N'))
local macro_rules | `(tactic| walk_at "pyIter ref") => `(tactic| (k_here; (k_dflt (refine' sum_values (y := Str.ofString "nc") ?hh ?F ?N ?C ?v ?xy ?hy ?_ ?_; (case hh => rfl); (case F => k_asm); (case N => k_asm); (case C => exact CntAt.mono (by assumption) fun _ h => .tail _ h); (case v => exact .head _); (case xy => decide +kernel); (case hy => rfl)))
  <;> first | intro I' c' t' acc' ta' u' h' tk' own' F' N' hnI' | intro ta' u' h' tk' F' N'))
set_option maxRecDepth 100000 in
set_option maxHeartbeats 8000000 in
theorem c4 : ∀ {Lo : List Str} {w : World} {mean : ExcName → Option Value} {mg mb : Str → Option Value} {dp un : Nat} {gd : Option (List Code)} {cn : Str} {cs : Scope} {a : Addr} {ccd : Value} {cl : List (Str × Addr)} {outer : List Env} {A₀ : Around} {base h₀ : Heap} {L : Addr} {m : Str → Option Value} {s : Shared} {Q E : Value → Shared → Prop} {news : List (Addr × Obj)} {d : Addr} {kvs : List (Int × Int)}
  (_ : Below A₀ base outer h₀) (_ : Fr h₀ L s.heap m) (_ : ((hd.heap_39 w.params) : Frag).In h₀) (_ : News h₀ L s.heap news) (_ : Top hd.view_39 Lo mean mg mb h₀) (_ : cs.kind = .function)
  (_ : dp + 1 < recursionLimit) (_ : un + 8 < cLine) (_ : CntAt PG w news d kvs)
  (_ : ∀ t h' tk', Fr h₀ L h' m → News h₀ L h' news → Q (.int (0 + (kvs.map (·.2)).sum) t) { s with heap := h', toks := tk' }),
  wpAny (model Challenge.rw_gg0001_01.row.prog w) (ktrTop dp un gd cn cs L a ccd cl outer) (call (.ref 58) [.ref d]) Q E s := by
  k_fill
  intro Lo w mean mg mb dp un gd cn cs a ccd cl outer A₀ base h₀ L m s Q E news d kvs B F X N T hk hd1 hu hC ret
  refine wpAny_call ?_
  k_dflt cell_enter
  k_steps
  · refine ⟨rfl, _, _, _, _, rfl, by assumption, by assumption, by assumption, rfl, ⟨_, by with_unfolding_all rfl⟩, ?_⟩
    intro z h1 h2
    simp [h1, h2]
  · exact ret _ _ _ (by assumption) (news_tail (by assumption))
end Mine
end
section
open PySem PySem.W PyProof.Rows PySem.Calls
namespace Mine
section
variable {prog : Program} {w : World} {A : Around} {E : Value → Shared → Prop} {s : Shared} {h₀ : Heap} {env : Env} {m : Str → Option Value} {news : List (Addr × Obj)}
theorem items_loop {v d : Addr} {od : Obj} {es : Array DictEntry} {ep : Nat} {xk xv : Str} {pk pv pt : Pos} {x1 : Nat} {body : List Stmt} {Q : Flow → Shared → Prop}
    (hh : A.handled = none) (hxk : env.kindOf xk = some .local) (hxv : env.kindOf xv = some .local) (hp : (env.scope.kind == .class || (env.scope.kind == .module && env.locals != env.globals)) = false)
    (F : Fr h₀ env.locals s.heap m) (N : News h₀ env.locals s.heap news) (hd : (d, od) ∈ news) (hod : od.ExactDict) (hdd : od.data = .dict es ep) (hv : (v, itemsView d) ∈ news)
    (J : Nat → List (Addr × Obj) → Prop) (h0 : J 0 news)
    (turn : ∀ i (hi : i < es.size) I nw h tk own, J i nw → (∀ p ∈ nw, p.1 ∉ [I]) → (∀ p ∈ own, p.1 = I ∨ p.1 = d) → Fr h₀ env.locals h (fun z => if z = xv then some es[i].val else if z = xk then some es[i].key else m z) → News h₀ env.locals h (own ++ nw) →
      wpAny (model prog w) A (execs body env) (LoopStepV h₀ env.locals [I] own (fun m' nw' => J (i + 1) nw' ∧ ∀ z, z ≠ xk → z ≠ xv → m' z = m z) { s with heap := h, toks := tk } (fun v s' => Q (.ret v) s') fun s' => Q .next s') E { s with heap := h, toks := tk })
    (done : ∀ nw (u : Str → Option Value) h tk, J es.size nw → Fr h₀ env.locals h (fun z => if z = xv then u z else if z = xk then u z else m z) → News h₀ env.locals h nw → Q .next { s with heap := h, toks := tk }) :
    wpAny (model prog w) A (pyIter (.ref v)) (fun it s₂ => TurnsAt prog w A h₀ env (.Tuple [.Name xk pk, .Name xv pv] x1 pt) body Q E it s₂) E s := by
  refine raw_iter_items ⟨_, (N _ hv).1, rfl, rfl⟩ ⟨od, (N _ hd).1, hod, hdd⟩ ?_
  have hI : h₀.get? s.heap.objs.size = none := Heap.get?_none_of_le (Nat.le_trans F.above (Nat.le_of_lt F.ns.lt))
  have hlt : ∀ p ∈ news, p.1 < s.heap.objs.size := fun p hp => Heap.lt_size (N p hp).1
  have hdI : d ≠ s.heap.objs.size := Nat.ne_of_lt (hlt _ hd)
  have hLI : env.locals ≠ s.heap.objs.size := Nat.ne_of_lt F.ns.lt
  refine ⟨s.heap.objs.size, _, _, es.size, _, _, _, m, news, fun i m' nw => J i nw ∧ ∀ z, z ≠ xk → z ≠ xv → m' z = m z, rfl, raw_items_turns (es := es) (ep := ep) (d := d) hh hdI, ?_, ?_, ?_, ?_, F.push _, fun p hp => ⟨Heap.get?_push_of_some _ (N p hp).1, (N p hp).2⟩, ?_, ?_, ?_⟩
  · intro hx
    rcases List.mem_cons.mp hx with e | hx
    · exact hLI e
    · exact (N _ hd).2.1 (List.mem_singleton.mp hx).symm
  · intro b hb; rw [List.mem_singleton.mp hb]; exact hI
  · intro p hp hx; exact Nat.ne_of_lt (hlt p hp) (List.mem_singleton.mp hx)
  · exact ⟨_, _, Heap.get?_push_size _ rfl, od, Heap.get?_push_of_some _ (N _ hd).1, hod, hdd⟩
  · exact ⟨h0, fun _ _ _ => rfl⟩
  · rintro i vv m₁ nw h₁ tk₁ own hi ⟨T, rfl, hi', hT⟩ ⟨hJ, hm₁⟩ hnI hown - - - F₁ N₁
    refine wpAny_assign_Tuple hh hT rfl rfl fun h₂ hx₂ => ?_
    replace hx₂ : Heap.ExtBut h₁.objs.size h₁ h₂ := hx₂
    have up : ∀ b o, h₁.get? b = some o → h₂.get? b = some o := fun b o e => hx₂ b o (Nat.ne_of_lt (Heap.lt_size e)) e
    have F₂ := F₁.grownK up
    have N₂ := N₁.grown up
    show wpAny _ _ (do holding [es[i].val] (assign (.Name xk pk) env es[i].key); do holding [] (assign (.Name xv pv) env es[i].val); pure ()) _ _ _
    refine wpAny_bind (wpAny_holding (wpAny_assign_Name (wpAny_storeName_local hxk F₂.ns (fun h₃ hn₃ hs₃ => ?_) hp)))
    replace hs₃ : Heap.SameBut env.locals h₂ h₃ := hs₃
    have F₃ := F₂.set hn₃ hs₃
    refine wpAny_bind (wpAny_holding (wpAny_assign_Name (wpAny_storeName_local hxv F₃.ns (fun h₄ hn₄ hs₄ => wpAny_pure ?_) hp)))
    replace hs₄ : Heap.SameBut env.locals h₃ h₄ := hs₄
    have F₄ := F₃.set hn₄ hs₄
    have N₄ : News h₀ env.locals h₄ (own ++ nw) := (N₂.set hs₃).set hs₄
    have e : (fun y => if y = xv then some es[i].val else if y = xk then some es[i].key else m₁ y) = fun z => if z = xv then some es[i].val else if z = xk then some es[i].key else m z := by
      funext z
      by_cases e1 : z = xv
      · rw [if_pos e1, if_pos e1]
      · rw [if_neg e1, if_neg e1]
        by_cases e2 : z = xk
        · rw [if_pos e2, if_pos e2]
        · rw [if_neg e2, if_neg e2]; exact hm₁ z e2 e1
    have F₅ : Fr h₀ env.locals h₄ (fun z => if z = xv then some es[i].val else if z = xk then some es[i].key else m z) := e ▸ F₄
    exact turn i hi' _ nw h₄ _ own hJ hnI (fun p hp => by simpa using hown p hp) F₅ N₄
  · rintro h' tk m' nw F' N' - ⟨hJ, hm'⟩
    refine done nw m' h' tk hJ ?_ N'
    have e : m' = fun z => if z = xv then m' z else if z = xk then m' z else m z := by
      funext z
      by_cases e1 : z = xv
      · rw [if_pos e1]
      · rw [if_neg e1]
        by_cases e2 : z = xk
        · rw [if_pos e2]
        · rw [if_neg e2]; exact hm' z e2 e1
    rw [e] at F'
    exact F'
end
def look (kvs : List (Int × Int)) (k : Int) : Option Int := (kvs.find? fun p => decide (p.1 = k)).map (·.2)
def putC (kvs : List (Int × Int)) (k c : Int) : List (Int × Int) := if (look kvs k).isSome then kvs.map (fun p => if p.1 = k then (p.1, c) else p) else kvs ++ [(k, c)]
theorem CVals.atKey : ∀ {xs kvs}, CVals xs kvs → ∀ k, (∀ c, look kvs k = some c → ∃ a t, PySem.atKey xs k = some (a, .int c t)) ∧ (look kvs k = none → PySem.atKey xs k = none)
  | _, _, .nil, k => ⟨fun c h => by simp [look] at h, fun _ => rfl⟩
  | _, _, .cons k' a c' t h, k => by
    have ih := h.atKey k
    by_cases e : k' = k
    · constructor
      · intro c hc
        simp [look, e] at hc
        exact ⟨a, t, by simp [PySem.atKey, e, hc]⟩
      · intro hc; simp [look, e] at hc
    · constructor
      · intro c hc
        obtain ⟨a', t', q⟩ := ih.1 c (by simpa [look, e] using hc)
        exact ⟨a', t', by simpa [PySem.atKey, e] using q⟩
      · intro hc
        have := ih.2 (by simpa [look, e] using hc)
        simpa [PySem.atKey, e] using this
theorem CVals.isSome {xs kvs} (h : CVals xs kvs) (k : Int) : (PySem.atKey xs k).isSome = (look kvs k).isSome := by
  cases e : look kvs k with
  | none => rw [(h.atKey k).2 e]; rfl
  | some c => obtain ⟨a, t, q⟩ := (h.atKey k).1 c e; rw [q]; rfl
theorem CVals.map {k : Int} {c : Int} {t : Tok} : ∀ {xs kvs}, CVals xs kvs → CVals (xs.map (putAt k (.int c t))) (kvs.map fun p => if p.1 = k then (p.1, c) else p)
  | _, _, .nil => .nil
  | _, _, .cons k' a c' t' h => by
    by_cases e : k' = k
    · have := CVals.cons k' a c t (CVals.map (k := k) (c := c) (t := t) h)
      simpa [putAt, e] using this
    · have := CVals.cons k' a c' t' (CVals.map (k := k) (c := c) (t := t) h)
      simpa [putAt, e] using this
theorem CVals.append {k a c t} : ∀ {xs kvs}, CVals xs kvs → CVals (xs ++ [(k, a, .int c t)]) (kvs ++ [(k, c)])
  | _, _, .nil => .cons k a c t .nil
  | _, _, .cons k' a' c' t' h => .cons k' a' c' t' h.append
theorem CVals.stored {xs kvs} (h : CVals xs kvs) (k : Int) (a : Addr) (c : Int) (t : Tok) : CVals (storedH xs k a (.int c t)) (putC kvs k c) := by
  unfold storedH putC
  rw [h.isSome k]
  split
  · exact h.map
  · exact h.append
section
variable {prog : Program} {w : World} {A : Around} {E : Value → Shared → Prop} {s : Shared} {h₀ h : Heap} {L d a : Addr} {m : Str → Option Value} {news news' : List (Addr × Obj)} {kvs : List (Int × Int)} {k : Int} {ok : Obj}
theorem bRoom (hu : A.units + 1 < cLine) : (bKind prog w).room A.in1 := tupleKind_room_in1 (knd := siKind prog w) hu
theorem cnt_in {Q : Value → Shared → Prop} (hu : A.units + 1 < cLine) (N : News h₀ L s.heap news) (C : CntAt prog w news d kvs) (hk : (a, ok) ∈ news) (ko : KeyObj prog w k ok)
    (h : Q (.bool (look kvs k).isSome) { s with toks := s.toks + 4 }) : wpAny (model prog w) A (compareOp .In (.ref a) (.ref d)) Q E s := by
  obtain ⟨lo, xs, hd, hV⟩ := C.dict N
  refine wpAny_in_heap (bRoom hu) (ko.at (N _ hk).1) lo hd ?_
  rw [hV.isSome]; exact h
theorem cnt_get {Q : Value → Shared → Prop} {c : Int} (hu : A.units + 1 < cLine) (N : News h₀ L s.heap news) (C : CntAt prog w news d kvs) (hk : (a, ok) ∈ news) (ko : KeyObj prog w k ok) (hc : look kvs k = some c)
    (h : ∀ t, Q (.int c t) { s with toks := s.toks + 4 }) : wpAny (model prog w) A (getItem (.ref d) (.ref a)) Q E s := by
  obtain ⟨lo, xs, hd, hV⟩ := C.dict N
  obtain ⟨a', t', e⟩ := (hV.atKey k).1 c hc
  exact wpAny_getItem_heap (bRoom hu) (ko.at (N _ hk).1) hd e (h t')
theorem cnt_dget {Q : Value → Shared → Prop} {c : Int} {t : Tok} (hu : A.units + 1 < cLine) (N : News h₀ L s.heap news) (C : CntAt prog w news d kvs) (hk : (a, ok) ∈ news) (ko : KeyObj prog w k ok)
    (h : ∀ t, Q (.int ((look kvs k).getD c) t) { s with toks := s.toks + 4 }) : wpAny (model prog w) A (call (.builtin "dict.get") [.ref d, .ref a, .int c t]) Q E s := by
  obtain ⟨lo, xs, hd, hV⟩ := C.dict N
  refine call_meetsIn PySem.F.slot_dict_get hd.typeIs PySem.F.entry_dict_get (PySem.F.args_dict_get_3 _ _ _) (meetsH_dict_get_default (bKind prog w) d a lo (.int c t)) ⟨bRoom hu, k, xs, ko.at (N _ hk).1, hd, ?_⟩
  cases e : look kvs k with
  | none => rw [(hV.atKey k).2 e]; have := h t; rw [e] at this; exact this
  | some c' => obtain ⟨a', t', q⟩ := (hV.atKey k).1 c' e; rw [q]; have := h t'; rw [e] at this; exact this
theorem cnt_set {Q : Unit → Shared → Prop} {c : Int} {t : Tok} {own rest : List (Addr × Obj)} {on : Obj} (hu : A.units + 1 < cLine) (F : Fr h₀ L s.heap m) (N : News h₀ L s.heap (own ++ (d, on) :: rest)) (C : CntAt prog w ((d, on) :: rest) d kvs)
    (hown : ∀ p ∈ own, p.1 ≠ d) (hrest : ∀ p ∈ rest, p.1 ≠ d) (hk : (a, ok) ∈ rest) (ko : KeyObj prog w k ok) (hz : kvs.length ≤ 1000)
    (h : ∀ h' on', Fr h₀ L h' m → News h₀ L h' (own ++ (d, on') :: rest) → CntAt prog w ((d, on') :: rest) d (putC kvs k c) → Q () { s with heap := h', toks := s.toks + 4 }) :
    wpAny (model prog w) A (setItem (.ref d) (.ref a) (.int c t)) Q E s := by
  have N' : News h₀ L s.heap ((d, on) :: rest) := N.right
  have C' := C
  obtain ⟨lo, o, es, ep, xs, hm, hc, hd, he, hn, hkx, hV⟩ := C'
  have hD : s.heap.DictOfH (bKind prog w) d xs := ⟨o, es, ep, (N' _ hm).1, hc, hd, he, fun x hx => let ⟨_, h1, h2⟩ := hkx x hx; h2.at (N' _ h1).1, hn⟩
  have hka : (bKind prog w).is s.heap k a := ko.at (N' _ (.tail _ hk)).1
  refine wpAny_setItem_heap (hsz := by rw [hV.length, sizeLine_eq]; omega) (bRoom hu) hka hD fun h' hm' hs => ?_
  obtain ⟨o', es', ep', ho', hc', hd', he', _, hn'⟩ := hm'
  have hdl := N' (d, on) (.head _)
  refine h h' o' (F.change hs hdl.2.1 hdl.2.2) (fun p hp => ?_) ⟨lo, o', es', ep', storedH xs k a (.int c t), .head _, hc', hd', he', hn', fun x hx => ?_, hV.stored k a c t⟩
  · rcases List.mem_append.mp hp with hp | hp
    · exact ⟨(hs.2 _ (hown p hp)).trans (N p (List.mem_append_left _ hp)).1, (N p (List.mem_append_left _ hp)).2⟩
    · rcases List.mem_cons.mp hp with rfl | hp
      · exact ⟨ho', hdl.2⟩
      · exact ⟨(hs.2 _ (hrest p hp)).trans (N' p (.tail _ hp)).1, (N' p (.tail _ hp)).2⟩
  · rcases mem_storedH hx with ⟨y, hy, e1, e2⟩ | ⟨e1, e2⟩
    · obtain ⟨oky, h1, h2⟩ := hkx y hy
      rw [e1, e2]
      rcases List.mem_cons.mp h1 with e | h1
      · injection e with q1 q2
        have hon : on = o := by
          rcases List.mem_cons.mp hm with e | hm
          · injection e with _ e; exact e.symm
          · exact absurd rfl (hrest _ hm)
        have := h2.1
        rw [q2, hon, hc.1] at this
        injection this with this
        exact absurd this (by decide)
      · exact ⟨oky, .tail _ h1, h2⟩
    · exact ⟨ok, by rw [e2]; exact .tail _ hk, by rw [e1]; exact ko⟩
end
end Mine
end
section
open PySem PySem.W PyProof.Rows PySem.Calls
namespace Mine
theorem look_append {xs : List (Int × Int)} {k c k' : Int} : look (xs ++ [(k, c)]) k' = (look xs k').or (if k = k' then some c else none) := by
  unfold look
  rw [List.find?_append]
  cases e : xs.find? fun p => decide (p.1 = k') with
  | some p => simp
  | none => by_cases h : k = k' <;> simp [h]
theorem look_none_of {xs : List (Int × Int)} {k : Int} (h : k ∉ xs.map (·.1)) : look xs k = none := by
  unfold look
  rw [Option.map_eq_none_iff, List.find?_eq_none]
  intro p hp q
  exact h (List.mem_map.mpr ⟨p, hp, by simpa using q⟩)
theorem putC_new {xs : List (Int × Int)} {k c : Int} (h : look xs k = none) : putC xs k c = xs ++ [(k, c)] := by
  unfold putC; rw [h]; rfl
section
variable {prog : Program} {w : World} {A : Around} {E : Value → Shared → Prop} {s : Shared} {h₀ h : Heap} {L d a : Addr} {m : Str → Option Value} {news news' : List (Addr × Obj)} {kvs : List (Int × Int)} {k : Int} {ok : Obj}
theorem CntAt.open (C : CntAt prog w news d kvs) : ∃ od es ep, (d, od) ∈ news ∧ od.ExactDict ∧ od.data = .dict es ep ∧ es.size = kvs.length ∧ (kvs.map (·.1)).Nodup ∧
    ∀ i (hi : i < es.size) (hk : i < kvs.length), ∃ a t ok, es[i].key = .ref a ∧ es[i].val = .int kvs[i].2 t ∧ (a, ok) ∈ news ∧ KeyObj prog w kvs[i].1 ok := by
  obtain ⟨lo, o, es, ep, xs, hm, hc, hd, he, hn, hkx, hV⟩ := C
  have hsz : es.size = kvs.length := by rw [← Array.length_toList, he, List.length_map, hV.length]
  refine ⟨o, es, ep, hm, hc, hd, hsz, hV.keys ▸ hn, fun i hi hk => ?_⟩
  obtain ⟨a, t, hx⟩ := hV.get i hk
  have hval : es[i] = entryOfKey (bKind prog w) (kvs[i].1, a, .int kvs[i].2 t) := by
    have : es[i]? = (xs.map (entryOfKey (bKind prog w)))[i]? := by rw [← he, Array.getElem?_toList]
    rw [List.getElem?_map, hx, Array.getElem?_eq_getElem hi] at this
    exact Option.some.inj this
  obtain ⟨ok, h1, h2⟩ := hkx _ (List.mem_of_getElem? hx)
  exact ⟨a, t, ok, by rw [hval]; rfl, by rw [hval]; rfl, h1, h2⟩
theorem cnt_empty {o : Obj} {K : Type} [DecidableEq K] {knd : KeyKind prog w K} (lo : (d == sysModules) = false) (hi : o.IsDictOf knd []) : CntAt prog w ((d, o) :: news) d [] := by
  obtain ⟨es, ep, hc, hdat, _, hp, _⟩ := hi
  have he : es.toList = [] := List.length_eq_zero_iff.mp hp.length
  exact ⟨lo, o, es, ep, [], .head _, hc, hdat, he, List.nodup_nil, fun _ hx => by simp at hx, .nil⟩
end
section
variable {prog : Program} {w : World} {A : Around} {E : Value → Shared → Prop} {s : Shared} {h₀ : Heap} {env : Env} {m : Str → Option Value} {news : List (Addr × Obj)} {D v d0 : Addr} {o on : Obj} {kvs : List (Int × Int)} {xk xv : Str} {pk pv pt : Pos} {x1 : Nat} {body : List Stmt} {Q : Flow → Shared → Prop}
theorem copy_loop (hh : A.handled = none) (hxk : env.kindOf xk = some .local) (hxv : env.kindOf xv = some .local) (hp : (env.scope.kind == .class || (env.scope.kind == .module && env.locals != env.globals)) = false)
    (F : Fr h₀ env.locals s.heap m) (N : News h₀ env.locals s.heap ((v, itemsView d0) :: (D, o) :: news)) (hD : ∀ p ∈ news, p.1 < D) (hvD : v ≠ D) (C0 : CntAt prog w news d0 kvs) (CD : CntAt prog w ((D, o) :: news) D [])
    (turn : ∀ a t k c ok xs on I h tk own, CntAt prog w ((D, on) :: (v, itemsView d0) :: news) D xs → xs.length ≤ kvs.length → (a, ok) ∈ (v, itemsView d0) :: news → KeyObj prog w k ok → putC xs k c = xs ++ [(k, c)] → (∀ p ∈ own, p.1 ≠ D) → (∀ p ∈ (v, itemsView d0) :: news, p.1 ≠ D) →
      (∀ on', ∀ p ∈ (D, on') :: (v, itemsView d0) :: news, p.1 ∉ [I]) → Fr h₀ env.locals h (fun z => if z = xv then some (.int c t) else if z = xk then some (.ref a) else m z) → News h₀ env.locals h (own ++ (D, on) :: (v, itemsView d0) :: news) →
      wpAny (model prog w) A (execs body env) (LoopStepV h₀ env.locals [I] own (fun m' nw' => (∃ on', nw' = (D, on') :: (v, itemsView d0) :: news ∧ CntAt prog w nw' D (xs ++ [(k, c)])) ∧ ∀ z, z ≠ xk → z ≠ xv → m' z = m z) { s with heap := h, toks := tk } (fun v s' => Q (.ret v) s') fun s' => Q .next s') E { s with heap := h, toks := tk })
    (done : ∀ on (u : Str → Option Value) h tk, Fr h₀ env.locals h (fun z => if z = xv then u z else if z = xk then u z else m z) → News h₀ env.locals h ((D, on) :: (v, itemsView d0) :: news) → CntAt prog w ((D, on) :: (v, itemsView d0) :: news) D kvs → Q .next { s with heap := h, toks := tk }) :
    wpAny (model prog w) A (pyIter (.ref v)) (fun it s₂ => TurnsAt prog w A h₀ env (.Tuple [.Name xk pk, .Name xv pv] x1 pt) body Q E it s₂) E s := by
  obtain ⟨od, es, ep, hm, hc, hd, hsz, hnd, hes⟩ := C0.open
  have N' : News h₀ env.locals s.heap ((D, o) :: (v, itemsView d0) :: news) := fun p hp => N p (by
    rcases List.mem_cons.mp hp with rfl | hp
    · exact .tail _ (.head _)
    · rcases List.mem_cons.mp hp with rfl | hp
      · exact .head _
      · exact .tail _ (.tail _ hp))
  have hrest : ∀ p ∈ (v, itemsView d0) :: news, p.1 ≠ D := fun p hp => by
    rcases List.mem_cons.mp hp with rfl | hp
    · exact hvD
    · exact Nat.ne_of_lt (hD p hp)
  refine items_loop hh hxk hxv hp F N' (.tail _ (.tail _ hm)) hc hd (.tail _ (.head _)) (fun i nw => ∃ on, nw = (D, on) :: (v, itemsView d0) :: news ∧ CntAt prog w nw D (kvs.take i)) ?_ ?_ ?_
  · refine ⟨o, rfl, CD.mono fun p hp => ?_⟩
    rcases List.mem_cons.mp hp with rfl | hp
    · exact .head _
    · exact .tail _ (.tail _ hp)
  · rintro i hi I nw h tk own ⟨on, rfl, C⟩ hnI hown F₁ N₁
    have hik : i < kvs.length := by omega
    obtain ⟨a, t, ok, e1, e2, h1, h2⟩ := hes i hi hik
    rw [e1, e2] at F₁
    have hlook : look (kvs.take i) kvs[i].1 = none := by
      refine look_none_of fun hmem => ?_
      obtain ⟨p, hp, e⟩ := List.mem_map.mp hmem
      obtain ⟨j, hj, ej⟩ := List.getElem_of_mem hp
      rw [List.length_take] at hj
      rw [List.getElem_take] at ej
      have q1 : (kvs.map (·.1))[j]'(by rw [List.length_map]; omega) = (kvs.map (·.1))[i]'(by rw [List.length_map]; omega) := by
        rw [List.getElem_map, List.getElem_map, ej]; exact e
      have := (List.getElem_inj hnd).mp q1
      omega
    have hs : kvs.take (i + 1) = kvs.take i ++ [(kvs[i].1, kvs[i].2)] := by
      rw [List.take_add_one, List.getElem?_eq_getElem hik]; rfl
    rw [hs]
    refine turn a t _ _ ok _ on I h tk own C (by rw [List.length_take]; omega) (.tail _ h1) h2 (putC_new hlook) (fun p hp e => ?_) hrest (fun on' p hp => ?_) F₁ N₁
    · rcases hown p hp with q | q
      · exact hnI (D, on) (.head _) (by rw [List.mem_singleton]; exact e.symm.trans q)
      · have := hD _ hm
        rw [← e, q] at this; exact Nat.lt_irrefl _ this
    · rcases List.mem_cons.mp hp with rfl | hp
      · exact hnI (D, on) (.head _)
      · exact hnI p (.tail _ hp)
  · rintro nw u h tk ⟨on, rfl, C⟩ F₁ N₁
    rw [hsz, List.take_length] at C
    exact done on u h tk F₁ N₁ C
theorem one_loop {k c : Int} {kvs' : List (Int × Int)} {rest : List (Addr × Obj)} (hh : A.handled = none) (hxk : env.kindOf xk = some .local) (hxv : env.kindOf xv = some .local) (hp : (env.scope.kind == .class || (env.scope.kind == .module && env.locals != env.globals)) = false)
    (F : Fr h₀ env.locals s.heap m) (N : News h₀ env.locals s.heap ((v, itemsView d0) :: (D, on) :: rest)) (hD : ∀ p ∈ rest, p.1 ≠ D) (hvD : v ≠ D) (C0 : CntAt prog w rest d0 [(k, c)]) (CD : CntAt prog w ((D, on) :: rest) D kvs)
    (turn : ∀ a t ok I h tk own, CntAt prog w ((D, on) :: (v, itemsView d0) :: rest) D kvs → (a, ok) ∈ (v, itemsView d0) :: rest → KeyObj prog w k ok → (∀ p ∈ own, p.1 ≠ D) → (∀ p ∈ (v, itemsView d0) :: rest, p.1 ≠ D) →
      (∀ on', ∀ p ∈ (D, on') :: (v, itemsView d0) :: rest, p.1 ∉ [I]) → Fr h₀ env.locals h (fun z => if z = xv then some (.int c t) else if z = xk then some (.ref a) else m z) → News h₀ env.locals h (own ++ (D, on) :: (v, itemsView d0) :: rest) →
      wpAny (model prog w) A (execs body env) (LoopStepV h₀ env.locals [I] own (fun m' nw' => (∃ on', nw' = (D, on') :: (v, itemsView d0) :: rest ∧ CntAt prog w nw' D kvs') ∧ ∀ z, z ≠ xk → z ≠ xv → m' z = m z) { s with heap := h, toks := tk } (fun v s' => Q (.ret v) s') fun s' => Q .next s') E { s with heap := h, toks := tk })
    (done : ∀ on' (u : Str → Option Value) h tk, Fr h₀ env.locals h (fun z => if z = xv then u z else if z = xk then u z else m z) → News h₀ env.locals h ((D, on') :: (v, itemsView d0) :: rest) → CntAt prog w ((D, on') :: (v, itemsView d0) :: rest) D kvs' → Q .next { s with heap := h, toks := tk }) :
    wpAny (model prog w) A (pyIter (.ref v)) (fun it s₂ => TurnsAt prog w A h₀ env (.Tuple [.Name xk pk, .Name xv pv] x1 pt) body Q E it s₂) E s := by
  obtain ⟨od, es, ep, hm, hc, hd, hsz, hnd, hes⟩ := C0.open
  have hsz1 : es.size = 1 := hsz
  have N' : News h₀ env.locals s.heap ((D, on) :: (v, itemsView d0) :: rest) := fun p hp => N p (by
    rcases List.mem_cons.mp hp with rfl | hp
    · exact .tail _ (.head _)
    · rcases List.mem_cons.mp hp with rfl | hp
      · exact .head _
      · exact .tail _ (.tail _ hp))
  have hrest : ∀ p ∈ (v, itemsView d0) :: rest, p.1 ≠ D := fun p hp => by
    rcases List.mem_cons.mp hp with rfl | hp
    · exact hvD
    · exact hD p hp
  have up : ∀ p ∈ (D, on) :: rest, p ∈ (D, on) :: (v, itemsView d0) :: rest := fun p hp => by
    rcases List.mem_cons.mp hp with rfl | hp
    · exact .head _
    · exact .tail _ (.tail _ hp)
  refine items_loop hh hxk hxv hp F N' (.tail _ (.tail _ hm)) hc hd (.tail _ (.head _)) (fun i nw => if i = 0 then nw = (D, on) :: (v, itemsView d0) :: rest else ∃ on', nw = (D, on') :: (v, itemsView d0) :: rest ∧ CntAt prog w nw D kvs') (by rw [if_pos rfl]) ?_ ?_
  · rintro i hi I nw h tk own hJ hnI hown F₁ N₁
    have hi0 : i = 0 := by omega
    subst hi0
    rw [if_pos rfl] at hJ
    subst hJ
    obtain ⟨a, t, ok, e1, e2, h1, h2⟩ := hes 0 hi (by simp)
    rw [e1, e2] at F₁
    refine wpAny_mono (turn a t ok I h tk own (CD.mono up) (.tail _ h1) h2 (fun p hp e => ?_) hrest (fun on' p hp => ?_) F₁ N₁) (fun f s' x => x) fun _ _ x => x
    · rcases hown p hp with q | q
      · exact hnI (D, on) (.head _) (by rw [List.mem_singleton]; exact e.symm.trans q)
      · exact hD _ hm (q ▸ e)
    · rcases List.mem_cons.mp hp with rfl | hp
      · exact hnI (D, on) (.head _)
      · exact hnI p (.tail _ hp)
  · rintro nw u h tk hJ F₁ N₁
    rw [hsz1, if_neg (by decide)] at hJ
    obtain ⟨on', rfl, C⟩ := hJ
    exact done on' u h tk F₁ N₁ C
end
end Mine
end
section
open PySem PySem.W PyProof.Rows PySem.Calls
namespace Mine
section
variable {prog : Program} {w : World} {A : Around} {E : Value → Shared → Prop} {s : Shared} {h₀ h : Heap} {L d : Addr} {m : Str → Option Value} {news news' : List (Addr × Obj)} {kvs : List (Int × Int)}
theorem cnt_items2 {Q : Value → Shared → Prop} (F : Fr h₀ L s.heap m) (N : News h₀ L s.heap news') (C : CntAt prog w news d kvs) (sub : ∀ p ∈ news, p ∈ news')
    (h : ∀ v h', Fr h₀ L h' m → News h₀ L h' ((v, itemsView d) :: news') → (∀ p ∈ news', p.1 < v) → Q (.ref v) { s with heap := h' }) : wpAny (model prog w) A (call (.builtin "dict.items") [.ref d]) Q E s := by
  obtain ⟨lo, o, es, ep, xs, hm, hc, hd, _⟩ := C
  exact raw_call_items lo ⟨o, (N _ (sub _ hm)).1, hc, hd⟩ (h _ _ (F.push _) (N.push F _) (fun p hp => Heap.lt_size (N p hp).1))
theorem cnt_in_yes {a : Addr} {ok : Obj} {k c : Int} {Q : Value → Shared → Prop} (hu : A.units + 1 < cLine) (N : News h₀ L s.heap news) (C : CntAt prog w news d kvs) (hk : (a, ok) ∈ news) (ko : KeyObj prog w k ok) (hc : look kvs k = some c)
    (h : Q (.bool true) { s with toks := s.toks + 4 }) : wpAny (model prog w) A (compareOp .In (.ref a) (.ref d)) Q E s := cnt_in hu N C hk ko (by rw [hc]; exact h)
theorem cnt_in_no {a : Addr} {ok : Obj} {k : Int} {Q : Value → Shared → Prop} (hu : A.units + 1 < cLine) (N : News h₀ L s.heap news) (C : CntAt prog w news d kvs) (hk : (a, ok) ∈ news) (ko : KeyObj prog w k ok) (hc : look kvs k = none)
    (h : Q (.bool false) { s with toks := s.toks + 4 }) : wpAny (model prog w) A (compareOp .In (.ref a) (.ref d)) Q E s := cnt_in hu N C hk ko (by rw [hc]; exact h)
theorem news_drop2 {p q r : Addr × Obj} (N : News h₀ L h (p :: q :: r :: news)) : News h₀ L h (p :: news) := fun x hx => N x (by
  rcases List.mem_cons.mp hx with rfl | hx
  · exact .head _
  · exact .tail _ (.tail _ (.tail _ hx)))
theorem mem_drop {x p q : Addr × Obj} (h : x ∈ p :: q :: news) (hq : x ≠ q) : x ∈ p :: news := by
  rcases List.mem_cons.mp h with rfl | h
  · exact .head _
  · rcases List.mem_cons.mp h with rfl | h
    · exact absurd rfl hq
    · exact .tail _ h
theorem CntAt.drop {p : Addr × Obj} {v d0 : Addr} (C : CntAt prog w (p :: (v, itemsView d0) :: news) d kvs) : CntAt prog w (p :: news) d kvs := by
  obtain ⟨lo, o, es, ep, xs, hm, hc, hd, he, hn, hk, hv⟩ := C
  refine ⟨lo, o, es, ep, xs, mem_drop hm fun e => ?_, hc, hd, he, hn, fun x hx => ?_, hv⟩
  · injection e with _ e
    have := hc.1
    rw [e] at this
    injection this with this
    exact absurd this (by decide)
  · obtain ⟨ok, h1, h2⟩ := hk x hx
    refine ⟨ok, mem_drop h1 fun e => ?_, h2⟩
    injection e with _ e
    have := h2.1
    rw [e] at this
    injection this with this
    exact absurd this (by decide)
theorem cnt_put {k c : Int} {xs : List (Int × Int)} (hp : putC xs k c = xs ++ [(k, c)]) (C : CntAt prog w news d (putC xs k c)) : CntAt prog w news d (xs ++ [(k, c)]) := hp ▸ C
theorem ne_of_hd {v D : Addr} {o : Obj} (h : ∀ p ∈ (D, o) :: news, p.1 < v) : v ≠ D := fun e => Nat.lt_irrefl _ (e ▸ h (D, o) (.head _))
theorem ne_rest {v D : Addr} {o ov : Obj} (h : ∀ p ∈ (D, o) :: news, p.1 < v) (h' : ∀ p ∈ news, p.1 < D) : ∀ p ∈ (v, ov) :: news, p.1 ≠ D := fun p hp => by
  rcases List.mem_cons.mp hp with rfl | hp
  · exact ne_of_hd h
  · exact Nat.ne_of_lt (h' p hp)
end
local macro_rules | `(tactic| cell_enter) => `(tactic| (refine' code_def ?k1 ?k2 ?k3 ?k4 ?k5 ?kA ?kF ?kK ?k6 ?k7 ?k8 ?k9 ?kB ?_ ?c2 ?c3 ?c4 ?c5; (case kA => exact rfl); (case kF => exact rfl); (case kK => assumption); (case k1 => k_asm); (case k2 => k_asm); (case k3 => k_asm); (case k4 => k_asm); (case k5 => k_asm); (case k6 => k_is); (case k7 => k_is); (case k8 => ktr_room); (case k9 => first | exact BindsTo.of_eq rfl | exact binds_K (by k_in) rfl (by k_is) rfl rfl rfl); (case c5 => decide); (case kB => exact locs rfl); (case c2 => exact rfl); (case c3 => exact rfl); (case c4 => exact rfl); k_whole; intro g' L' h' FG' F' N' B' X' T'; (try dsimp only); (try k_lift B'); (try k_fold)))
local macro_rules | `(tactic| walk_at "exec For Tuple Call cons nil") => `(tactic| (k_here; (rename Fr _ _ _ _ => lF'); (with_unfolding_all refine' For_turns lF' ?_)))
local macro_rules | `(tactic| walk_at "getMethod ref") => `(tactic| (k_here; (with_reducible show wpAny _ _ (getMethod (Value.ref _) (PySem.Str.ofString "items") _) _ _ _); (refine' cnt_method PySem.F.slot_dict_items PySem.F.type_dict_items ?C ?N ?_; (case N => k_asm); (case C => exact CntAt.mono (by assumption) (by kcf_all)))))
local macro_rules | `(tactic| walk_at "call builtin:dict.items") => `(tactic| (k_here; (k_dflt (refine' cnt_items2 ?F ?N ?C ?sub ?_; (case F => k_asm); (case N => k_asm); (case C => assumption); (case sub => kcf_all))); intro v' h' F' N' l2))
local macro_rules | `(tactic| walk_at "pyIter ref") => `(tactic| (k_here; (k_dflt (first
  | (refine' copy_loop ?hh ?xk ?xv ?hp ?F ?N ?D ?v ?C ?E ?_ ?_; (case hh => rfl); (case xk => rfl); (case xv => rfl); (case hp => rfl); (case F => k_asm); (case N => k_asm); (case D => assumption); (case v => exact ne_of_hd (by assumption)); (case C => assumption); (case E => exact cnt_empty (by assumption) (by assumption)))
  | (refine' one_loop (kvs' := putC _ _ ((look _ _).getD 0 + _)) ?hh ?xk ?xv ?hp ?F ?N ?D ?v ?C ?E ?_ ?_; (case hh => rfl); (case xk => rfl); (case xv => rfl); (case hp => rfl); (case F => k_asm); (case N => k_asm); (case D => exact ne_rest (by assumption) (by assumption)); (case v => exact ne_of_hd (by assumption)); (case C => exact CntAt.mono (by assumption) fun _ h => .tail _ h); (case E => assumption))))
  <;> first | intro a' t' k' c' ok' xs' on' I' h' tk' own' hC' hx' hk' ko' hp' ho' hr' hn' F' N' | intro a' t' ok' I' h' tk' own' hC' hk' ko' ho' hr' hn' F' N' | intro on' u' h' tk' F' N' hC'))
local macro_rules | `(tactic| walk_at "setItem ref") => `(tactic| (k_here; (k_dflt (refine' cnt_set ?hu ?F ?N ?C ?o ?r ?k ?ko ?z ?_; (case F => k_asm); (case N => k_asm); (case C => assumption); (case hu => ktr_units); (case o => assumption); (case r => assumption); (case k => assumption); (case ko => assumption); (case z => omega))); intro h' on' F' N' hC'))
local macro_rules | `(tactic| walk_at "compareOp In ref ref") => `(tactic| (k_here; (k_dflt (first | (refine cnt_in_yes (by ktr_units) (News.right (by assumption)) (by assumption) (by first | assumption | exact .tail _ (by assumption)) (by assumption) (by assumption) ?_) | (refine cnt_in_no (by ktr_units) (News.right (by assumption)) (by assumption) (by first | assumption | exact .tail _ (by assumption)) (by assumption) (by assumption) ?_)))))
local macro_rules | `(tactic| walk_at "getItem ref ref") => `(tactic| (k_here; (k_dflt (refine cnt_get (by ktr_units) (News.right (by assumption)) (by assumption) (by first | assumption | exact .tail _ (by assumption)) (by assumption) (by assumption) ?_)); intro t'))
set_option maxRecDepth 100000 in
set_option maxHeartbeats 8000000 in
theorem c5 : ∀ {Lo : List Str} {w : World} {mean : ExcName → Option Value} {mg mb : Str → Option Value} {dp un : Nat} {gd : Option (List Code)} {cn : Str} {cs : Scope} {a : Addr} {ccd : Value} {cl : List (Str × Addr)} {outer : List Env} {A₀ : Around} {base h₀ : Heap} {L : Addr} {m : Str → Option Value} {s : Shared} {Q E : Value → Shared → Prop} {news : List (Addr × Obj)} {d0 d1 : Addr} {kvs : List (Int × Int)} {k c : Int}
  (_ : Below A₀ base outer h₀) (_ : Fr h₀ L s.heap m) (_ : ((hd.heap_39 w.params) : Frag).In h₀) (_ : News h₀ L s.heap news) (_ : Top hd.view_39 Lo mean mg mb h₀) (_ : cs.kind = .function)
  (_ : dp + 1 < recursionLimit) (_ : un + 8 < cLine) (_ : CntAt PG w news d0 kvs) (_ : CntAt PG w news d1 [(k, c)]) (_ : kvs.length ≤ 1000)
  (_ : ∀ D o h' tk', Fr h₀ L h' m → News h₀ L h' ((D, o) :: news) → (∀ p ∈ news, p.1 < D) → CntAt PG w ((D, o) :: news) D (putC kvs k ((look kvs k).getD 0 + c)) → Q (.ref D) { s with heap := h', toks := tk' }),
  wpAny (model Challenge.rw_gg0001_01.row.prog w) (ktrTop dp un gd cn cs L a ccd cl outer) (call (.ref 51) [.ref d0, .ref d1]) Q E s := by
  k_fill
  intro Lo w mean mg mb dp un gd cn cs a ccd cl outer A₀ base h₀ L m s Q E news d0 d1 kvs k c B F X N T hk hd1 hu hC0 hC1 hlen ret
  refine wpAny_call ?_
  k_dflt cell_enter
  k_steps
  rotate_left
  · refine one_loop (k := k) (c := c) (kvs := kvs) (kvs' := putC kvs k ((look kvs k).getD 0 + c)) rfl rfl rfl rfl (by k_asm) (by k_asm) (ne_rest (by assumption) (by assumption)) (ne_of_hd (by assumption)) (CntAt.mono (by assumption) fun _ h => .tail _ h) (by assumption) ?_ ?_
    · intro a' t' ok' I' h' tk' own' hC' hk' ko' ho' hr' hn' F' N'
      cases hl : look kvs k with
      | some c0 =>
        k_steps
        refine ⟨rfl, _, _, _, _, rfl, by assumption, by assumption, hn' _, ⟨_, rfl, by rw [Option.getD_some]; assumption⟩, ?_⟩
        intro z h1 h2
        simp [h1, h2]
      | none =>
        k_steps
        refine ⟨rfl, _, _, _, _, rfl, by assumption, by assumption, hn' _, ⟨_, rfl, by rw [Option.getD_none, Int.zero_add]; assumption⟩, ?_⟩
        intro z h1 h2
        simp [h1, h2]
    · intro on' u' h' tk' F' N' hC'
      k_steps
      exact ret _ _ _ _ (by assumption) (news_drop2 (by assumption)) (by assumption) hC'.drop.drop
  · refine ⟨rfl, _, _, _, _, rfl, by assumption, by assumption, by apply_assumption, ⟨_, rfl, cnt_put (by assumption) (by assumption)⟩, ?_⟩
    intro z h1 h2
    simp [h1, h2]
end Mine
end
section
open PySem PySem.W PyProof.Rows PySem.Calls
namespace Mine
section
variable {prog : Program} {w : World} {A : Around} {E : Value → Shared → Prop} {s : Shared} {env : Env} {h₀ : Heap} {target : PySem.Expr} {body : List Stmt} {Q : Flow → Shared → Prop}
def RowEnd (h₀ : Heap) (L I : Addr) (it : Obj) (s : Shared) (m : Str → Option Value) (J : List (Addr × Obj) → Prop) (Q : Flow → Shared → Prop) (f : Flow) (s₃ : Shared) : Prop :=
  match f with
  | .ret v => Q (.ret v) s₃
  | .brk => Q .next s₃
  | _ => ∃ h' tk nw', s₃ = { s with heap := h', toks := tk } ∧ Fr h₀ L h' m ∧ News h₀ L h' ((I, it) :: nw') ∧ (∀ p ∈ nw', p.1 ≠ I) ∧ J nw'
theorem rows_loop {ax : Addr} {lo : Obj} {vs : List Value} {xs : List Str} {n : Nat} {m : Str → Option Value} {news : List (Addr × Obj)}
    (hh : A.handled = none) (F : Fr h₀ env.locals s.heap m) (N : News h₀ env.locals s.heap news) (hm : (ax, lo) ∈ news) (hc : lo.cls = .type "list") (hd : lo.data = .seq vs.toArray n) (hS : StrsAre vs xs)
    (J : Addr → Nat → List (Addr × Obj) → Prop) (hkeep : ∀ I i nw, J I i nw → (ax, lo) ∈ nw) (h0 : ∀ I, (∀ p ∈ news, p.1 < I) → J I 0 news)
    (turn : ∀ I i (hi : i < xs.length) t h tk nw it, J I i nw → it.cls = .type "list_iterator" → Fr h₀ env.locals h m → News h₀ env.locals h ((I, it) :: nw) →
      wpAny (model prog w) A (assign target env (.str xs[i] t)) (fun _ s₂ => wpAny (model prog w) A (execs body env) (RowEnd h₀ env.locals I it { s with heap := h, toks := tk } m (J I (i + 1)) Q) E s₂) E { s with heap := h, toks := tk })
    (done : ∀ I nw h tk, J I xs.length nw → Fr h₀ env.locals h m → News h₀ env.locals h nw → Q .next { s with heap := h, toks := tk }) :
    wpAny (model prog w) A (pyIter (.ref ax)) (fun it s₂ => TurnsAt prog w A h₀ env target body Q E it s₂) E s := by
  refine iter_listTurns hh F N hm hc hd fun I hI => ?_
  have key : ∀ (j i : Nat) (s : Shared) (nw : List (Addr × Obj)), i + j = xs.length → J I i nw →
      (∀ i (hi : i < xs.length) t h tk nw it, J I i nw → it.cls = .type "list_iterator" → Fr h₀ env.locals h m → News h₀ env.locals h ((I, it) :: nw) →
      wpAny (model prog w) A (assign target env (.str xs[i] t)) (fun _ s₂ => wpAny (model prog w) A (execs body env) (RowEnd h₀ env.locals I it { s with heap := h, toks := tk } m (J I (i + 1)) Q) E s₂) E { s with heap := h, toks := tk }) →
      (∀ nw h tk, J I xs.length nw → Fr h₀ env.locals h m → News h₀ env.locals h nw → Q .next { s with heap := h, toks := tk }) →
      ItemsRest prog w A E h₀ env target body Q s [(I, "list_iterator")] [(ax, lo)] ((vs.drop i).map .val) m nw := by
    intro j
    induction j with
    | zero =>
      intro i s nw e hJ _ done
      have e' : i = vs.length := by rw [hS.length]; omega
      rw [e', List.drop_length]
      refine ItemsRest.zero fun h tk F N => done nw h tk ?_ F N
      have : i = xs.length := by omega
      exact this ▸ hJ
    | succ j ih =>
      intro i s nw e hJ turn done
      have hi : i < xs.length := by omega
      obtain ⟨t, ht⟩ := hS.get i xs[i] (List.getElem?_eq_getElem hi)
      have hi' : i < vs.length := by rw [hS.length]; exact hi
      have hv : vs[i] = .str xs[i] t := by rw [List.getElem?_eq_getElem hi'] at ht; exact Option.some.inj ht
      rw [List.drop_eq_getElem_cons hi', List.map_cons, hv]
      refine ItemsRest.val fun h tk F => AllObj.cons fun it hit => AllObj.nil fun N => ?_
      refine wpAny_mono (turn i hi t h tk nw it hJ hit F N) (fun _ s₂ q => wpAny_mono q (fun f s₃ q => ?_) fun _ _ e => e) fun _ _ e => e
      have fin : (∃ h' tk' nw', s₃ = { s with heap := h', toks := tk' } ∧ Fr h₀ env.locals h' m ∧ News h₀ env.locals h' ((I, it) :: nw') ∧ (∀ p ∈ nw', p.1 ≠ I) ∧ J I (i + 1) nw') →
          UnrEndW h₀ env.locals { s with heap := h, toks := tk } [(I, it)] (fun m' n' => SubL [(ax, lo)] n' ∧ ItemsRest prog w A E h₀ env target body Q s [(I, "list_iterator")] [(ax, lo)] ((vs.drop (i + 1)).map .val) m' n') s₃ := by
        rintro ⟨h', tk', nw', e', F', N', off, hJ'⟩
        refine ⟨h', tk', m, nw', e', F', N', fun p hp q hq => ?_, ⟨hkeep _ _ _ hJ', trivial⟩, ih (i + 1) s nw' (by omega) hJ' turn done⟩
        rw [List.mem_singleton.mp hq]; exact off p hp
      cases f with
      | ret v => exact q
      | brk => exact q
      | next => exact fin q
      | cont => exact fin q
  have := key xs.length 0 s news (by omega) (h0 I hI) (turn I) (done I)
  rwa [List.drop_zero] at this
end
end Mine
end
section
open PySem PySem.W PyProof.Rows PySem.Calls
namespace Mine
theorem par_append {x y : Str} (hx : Par x) (hy : Par y) : Par (x ++ y) := fun c hc => by
  have : (x ++ y).cps.toList = x.cps.toList ++ y.cps.toList := by
    show (x.cps ++ y.cps).toList = _
    simp
  rw [this] at hc
  exact (List.mem_append.mp hc).elim (hx c) (hy c)
theorem par_mul {y : Str} {c : Nat} {n : Int} (hy : y = ⟨#[c]⟩) (hc : c = 40 ∨ c = 41) : Par (Txt.mul y n) := fun b hb => by
  rw [hy, mul_one_list] at hb
  rw [List.eq_of_mem_replicate hb]; exact hc
theorem par_one {y : Str} {c : Nat} (hy : y = ⟨#[c]⟩) (hc : c = 40 ∨ c = 41) : Par y := fun b hb => by
  rw [hy] at hb
  have : b = c := by simpa using hb
  rw [this]; exact hc
theorem rowsF_par : ∀ (n : Nat) (a b : Int) (k : Str), k ∈ rowsF n a b → Par k
  | 0, _, _, _, h => by simp [rowsF] at h
  | n + 1, a, b, k, h => by
    have e1 : Str.ofString "(" = ⟨#[40]⟩ := by decide +kernel
    have e2 : Str.ofString ")" = ⟨#[41]⟩ := by decide +kernel
    unfold rowsF at h
    split at h
    · rw [List.mem_singleton] at h
      subst h
      exact par_append (par_mul e1 (.inl rfl)) (par_mul e2 (.inr rfl))
    · rcases List.mem_append.mp h with h | h
      · obtain ⟨r, hr, rfl⟩ := List.mem_map.mp h
        exact par_append (par_one e1 (.inl rfl)) (rowsF_par n _ _ r hr)
      · obtain ⟨r, hr, rfl⟩ := List.mem_map.mp h
        exact par_append (par_one e2 (.inr rfl)) (rowsF_par n _ _ r hr)
theorem ne_gt {d b : Nat} {news : List (Addr × Obj)} (h : ∀ p ∈ news, (@LT.lt Nat _ b p.1)) (k : d ≤ b) : ∀ p ∈ news, p.1 ≠ d := fun p hp => Nat.ne_of_gt (Nat.lt_of_le_of_lt k (h p hp))
def tally1 (kvs : List (Int × Int)) (x : Str) : List (Int × Int) := putC kvs (belowOf x) ((look kvs (belowOf x)).getD 0 + 1)
def tallyF (xs : List Str) : List (Int × Int) := xs.foldl tally1 []
theorem putC_len (kvs : List (Int × Int)) (k c : Int) : (putC kvs k c).length ≤ kvs.length + 1 := by
  unfold putC; split <;> simp
theorem tally_len : ∀ (xs : List Str) (kvs : List (Int × Int)), (xs.foldl tally1 kvs).length ≤ kvs.length + xs.length
  | [], kvs => by simp
  | x :: xs, kvs => by
    have h1 := tally_len xs (tally1 kvs x)
    have h2 := putC_len kvs (belowOf x) ((look kvs (belowOf x)).getD 0 + 1)
    rw [List.foldl_cons, List.length_cons]
    unfold tally1 at h1 ⊢
    omega
theorem tally_take {xs : List Str} {i : Nat} (hi : i < xs.length) : tallyF (xs.take (i + 1)) = tally1 (tallyF (xs.take i)) xs[i] := by
  unfold tallyF
  rw [List.take_add_one, List.getElem?_eq_getElem hi, Option.toList_some, List.foldl_append]; rfl
section
variable {w : World} {A : Around} {E : Value → Shared → Prop} {s : Shared} {env : Env} {h₀ : Heap} {target : PySem.Expr} {body : List Stmt} {Q : Flow → Shared → Prop} {R c1 c2 c3 c4 c5 : Addr} {lo w3 w4 w5 : Obj}
def LJ (w : World) (R c1 c2 c3 c4 c5 : Addr) (lo w3 w4 w5 : Obj) (I : Addr) (kvs : List (Int × Int)) (nw : List (Addr × Obj)) : Prop :=
  ∃ (o1 o2 : Obj) (v2 : Option Value) (d : Addr) (pre : List (Addr × Obj)), nw = (R, lo) :: (c5, w5) :: (c4, w4) :: (c3, w3) :: (c2, o2) :: (c1, o1) :: pre ∧ o1.data = .cell (some (.ref d)) ∧ o2.data = .cell v2 ∧ (∀ p ∈ nw, p.1 ≠ I) ∧ (∀ p ∈ pre, (@LT.lt Nat _ R p.1)) ∧ CntAt PG w pre d kvs
theorem law_loop {d T : Addr} {o oT o1 o2 : Obj} {vs : List Value} {xs : List Str} {k : Nat} {m : Str → Option Value} {v2 : Option Value} {K : Type} [DecidableEq K] {knd : KeyKind PG w K}
    (hh : A.handled = none) (F : Fr h₀ env.locals s.heap m) (N : News h₀ env.locals s.heap ((T, oT) :: (d, o) :: (R, W.listOf vs.toArray k) :: (c5, w5) :: (c4, w4) :: (c3, w3) :: (c2, o2) :: (c1, o1) :: [])) (hS : StrsAre vs xs)
    (ho1 : o1.data = .cell (some (.ref d))) (ho2 : o2.data = .cell v2) (hRd : (@LT.lt Nat _ R d)) (hlo : (d == sysModules) = false) (hi : o.IsDictOf knd [])
    (hlen : xs.length ≤ 512) (hP : ∀ x ∈ xs, Par x ∧ x.length ≤ 100)
    (turn : ∀ I x t h tk it o1 o2 v2 d pre kvs, Par x → x.length ≤ 100 → o1.data = .cell (some (.ref d)) → o2.data = .cell v2 → (@Ne Nat R I ∧ @Ne Nat c5 I ∧ @Ne Nat c4 I ∧ @Ne Nat c3 I ∧ @Ne Nat c2 I ∧ @Ne Nat c1 I) → (∀ p ∈ pre, p.1 ≠ I) → (∀ p ∈ pre, (@LT.lt Nat _ R p.1)) → CntAt PG w pre d kvs → kvs.length ≤ 1000 → it.cls = .type "list_iterator" → Fr h₀ env.locals h m → News h₀ env.locals h ((I, it) :: (R, W.listOf vs.toArray k) :: (c5, w5) :: (c4, w4) :: (c3, w3) :: (c2, o2) :: (c1, o1) :: pre) →
      wpAny (model PG w) A (assign target env (.str x t)) (fun _ s₂ => wpAny (model PG w) A (execs body env) (RowEnd h₀ env.locals I it { s with heap := h, toks := tk } m (LJ w R c1 c2 c3 c4 c5 (W.listOf vs.toArray k) w3 w4 w5 I (putC kvs (belowOf x) ((look kvs (belowOf x)).getD 0 + 1))) Q) E s₂) E { s with heap := h, toks := tk })
    (done : ∀ rs kv h tk o1 o2 v2 d pre, rs = xs → kv = tallyF xs → StrsAre vs rs → o1.data = .cell (some (.ref d)) → o2.data = .cell v2 → (∀ p ∈ pre, (@LT.lt Nat _ R p.1)) → CntAt PG w pre d kv → Fr h₀ env.locals h m → News h₀ env.locals h ((R, W.listOf vs.toArray k) :: (c5, w5) :: (c4, w4) :: (c3, w3) :: (c2, o2) :: (c1, o1) :: pre) → Q .next { s with heap := h, toks := tk }) :
    wpAny (model PG w) A (pyIter (.ref R)) (fun it s₂ => TurnsAt PG w A h₀ env target body Q E it s₂) E s := by
  have N' : News h₀ env.locals s.heap ((R, W.listOf vs.toArray k) :: (c5, w5) :: (c4, w4) :: (c3, w3) :: (c2, o2) :: (c1, o1) :: [(d, o)]) := fun p hp => N p (by simp only [List.mem_cons, List.not_mem_nil, or_false] at hp ⊢; rcases hp with h | h | h | h | h | h | h <;> simp [h])
  refine rows_loop hh F N' (.head _) rfl rfl hS (fun I i nw => LJ w R c1 c2 c3 c4 c5 (W.listOf vs.toArray k) w3 w4 w5 I (tallyF (xs.take i)) nw) ?_ ?_ ?_ ?_
  · rintro I i nw ⟨o1, o2, v2, d, pre, rfl, _⟩; exact .head _
  · intro I hI
    refine ⟨o1, o2, v2, d, _, rfl, ho1, ho2, fun p hp => Nat.ne_of_lt (hI p hp), fun p hp => ?_, ?_⟩
    · rw [List.mem_singleton.mp hp]; exact hRd
    · exact cnt_empty hlo hi
  · rintro I i hi t h tk nw it ⟨o1, o2, v2, d, pre, rfl, e1, e2, hne, hpre, C⟩ hit F N
    have := tally_len (xs.take i) []
    have q := turn I xs[i] t h tk it o1 o2 v2 d pre _ (hP _ (List.getElem_mem hi)).1 (hP _ (List.getElem_mem hi)).2 e1 e2 ⟨hne (R, _) (.head _), hne (c5, _) (.tail _ (.head _)), hne (c4, _) (.tail _ (.tail _ (.head _))), hne (c3, _) (.tail _ (.tail _ (.tail _ (.head _)))), hne (c2, o2) (.tail _ (.tail _ (.tail _ (.tail _ (.head _))))), hne (c1, o1) (.tail _ (.tail _ (.tail _ (.tail _ (.tail _ (.head _))))))⟩ (fun p hp => hne p (by simp [hp])) hpre C (by
      unfold tallyF
      rw [List.length_take] at this
      simp only [List.length_nil] at this
      omega) hit F N
    rw [tally_take hi]
    exact q
  · rintro I nw h tk ⟨o1, o2, v2, d, pre, rfl, e1, e2, hne, hpre, C⟩ F N
    rw [List.take_length] at C
    exact done xs _ h tk o1 o2 v2 d pre rfl rfl hS e1 e2 hpre C F N
theorem CntAt.sub {prog : Program} {d : Addr} {kvs : List (Int × Int)} {news news' : List (Addr × Obj)} (C : CntAt prog w news d kvs) (hs : ∀ p ∈ news, p ∈ news' ∨ (∃ v, p.2.data = .cell v) ∨ p.2.cls = .type "list" ∨ p.2.cls = .type "list_iterator") : CntAt prog w news' d kvs := by
  obtain ⟨lo, o, es, ep, xs, hm, hc, hd, he, hn, hk, hv⟩ := C
  refine ⟨lo, o, es, ep, xs, ?_, hc, hd, he, hn, fun x hx => ?_, hv⟩
  · rcases hs _ hm with h | ⟨v, h⟩ | h | h
    · exact h
    · rw [hd] at h; cases h
    · have := hc.1; rw [h] at this; injection this with this; exact absurd this (by decide)
    · have := hc.1; rw [h] at this; injection this with this; exact absurd this (by decide)
  · obtain ⟨ok, h1, h2⟩ := hk x hx
    refine ⟨ok, ?_, h2⟩
    rcases hs _ h1 with h | ⟨v, h⟩ | h | h
    · exact h
    · obtain ⟨_, items, n, h3, _⟩ := h2; rw [h3] at h; cases h
    · have := h2.1; rw [h] at this; injection this with this; exact absurd this (by decide)
    · have := h2.1; rw [h] at this; injection this with this; exact absurd this (by decide)
theorem row_end {L : Addr} {D d' T I : Addr} {oD od oT it o1 o1' o2 lo : Obj} {v1 v2 v3 v4 v5 : Option Value} {pre : List (Addr × Obj)} {kvs : List (Int × Int)} {h' : Heap} {tk' : Nat} {m : Str → Option Value}
    (F : Fr h₀ L h' m) (N : News h₀ L h' ((D, oD) :: (d', od) :: (T, oT) :: (I, it) :: (R, lo) :: (c5, w5) :: (c4, w4) :: (c3, w3) :: (c2, o2) :: (c1, o1) :: pre))
    (C : CntAt PG w ((D, oD) :: (d', od) :: (T, oT) :: (I, it) :: (R, lo) :: (c5, w5) :: (c4, w4) :: (c3, w3) :: (c2, o2) :: (c1, o1') :: pre) D kvs)
    (e1 : o1.data = .cell (some (.ref D))) (e1' : o1'.data = .cell v1) (e2 : o2.data = .cell v2) (e3 : w3.data = .cell v3) (e4 : w4.data = .cell v4) (e5 : w5.data = .cell v5) (hit : it.cls = .type "list_iterator") (hlo : lo.cls = .type "list")
    (hpre : ∀ p ∈ pre, (@LT.lt Nat _ R p.1)) (hR : (@LT.lt Nat _ R D) ∧ (@LT.lt Nat _ R d') ∧ (@LT.lt Nat _ R T)) (hI : (@LT.lt Nat _ I D) ∧ (@LT.lt Nat _ I d') ∧ (@LT.lt Nat _ I T))
    (hne : @Ne Nat R I ∧ @Ne Nat c5 I ∧ @Ne Nat c4 I ∧ @Ne Nat c3 I ∧ @Ne Nat c2 I ∧ @Ne Nat c1 I) (hneI : ∀ p ∈ pre, p.1 ≠ I) :
    RowEnd h₀ L I it s m (LJ w R c1 c2 c3 c4 c5 lo w3 w4 w5 I kvs) Q .next { s with heap := h', toks := tk' } := by
  refine ⟨h', tk', (R, lo) :: (c5, w5) :: (c4, w4) :: (c3, w3) :: (c2, o2) :: (c1, o1) :: (D, oD) :: (d', od) :: (T, oT) :: pre, rfl, F, fun p hp => N p ?_, ?_, o1, o2, v2, D, _, rfl, e1, e2, ?_, ?_, C.sub fun p hp => ?_⟩
  · simp only [List.mem_cons] at hp ⊢
    rcases hp with h | h | h | h | h | h | h | h | h | h | h <;> simp [h]
  · intro p hp
    simp only [List.mem_cons] at hp
    rcases hp with rfl | rfl | rfl | rfl | rfl | rfl | rfl | rfl | rfl | h
    · exact hne.1
    · exact hne.2.1
    · exact hne.2.2.1
    · exact hne.2.2.2.1
    · exact hne.2.2.2.2.1
    · exact hne.2.2.2.2.2
    · exact Nat.ne_of_gt hI.1
    · exact Nat.ne_of_gt hI.2.1
    · exact Nat.ne_of_gt hI.2.2
    · exact hneI p h
  · intro p hp
    simp only [List.mem_cons] at hp
    rcases hp with rfl | rfl | rfl | rfl | rfl | rfl | rfl | rfl | rfl | h
    · exact hne.1
    · exact hne.2.1
    · exact hne.2.2.1
    · exact hne.2.2.2.1
    · exact hne.2.2.2.2.1
    · exact hne.2.2.2.2.2
    · exact Nat.ne_of_gt hI.1
    · exact Nat.ne_of_gt hI.2.1
    · exact Nat.ne_of_gt hI.2.2
    · exact hneI p h
  · intro p hp
    simp only [List.mem_cons] at hp
    rcases hp with rfl | rfl | rfl | h
    · exact hR.1
    · exact hR.2.1
    · exact hR.2.2
    · exact hpre p h
  · simp only [List.mem_cons] at hp ⊢
    rcases hp with rfl | rfl | rfl | rfl | rfl | rfl | rfl | rfl | rfl | rfl | h
    · exact .inl (.inl rfl)
    · exact .inl (.inr (.inl rfl))
    · exact .inl (.inr (.inr (.inl rfl)))
    · exact .inr (.inr (.inr hit))
    · exact .inr (.inr (.inl hlo))
    · exact .inr (.inl ⟨_, e5⟩)
    · exact .inr (.inl ⟨_, e4⟩)
    · exact .inr (.inl ⟨_, e3⟩)
    · exact .inr (.inl ⟨_, e2⟩)
    · exact .inr (.inl ⟨_, e1'⟩)
    · exact .inl (.inr (.inr (.inr h)))
end
end Mine
end
section
open PySem PySem.W PyProof.Rows PySem.Calls PyProof.V
namespace Mine
section
variable {prog : Program} {w : World} {A : Around} {E : Value → Shared → Prop} {s : Shared} {h₀ h : Heap} {L d T : Addr} {m : Str → Option Value} {news rest : List (Addr × Obj)} {kvs : List (Int × Int)} {k c : Int} {o ok : Obj}
theorem key_made {t1 t2 t3 : Tok} {n : Nat} : KeyObj prog w k { cls := .type "tuple", data := .seq #[.str (Str.ofString "below") t1, .int k t2, .str (Str.ofString "row") t3] n } :=
  ⟨rfl, _, _, rfl, .cons (by show Value.isStrOf sBelow (.str (Str.ofString "below") t1) = true; simp [Value.isStrOf, sBelow]) (.cons (by show Value.isInt k (.int k t2) = true; simp [Value.isInt]) (.cons (by show Value.isStrOf sRow (.str (Str.ofString "row") t3) = true; simp [Value.isStrOf, sRow]) .nil))⟩
theorem dict_made {env : Env} {keys : List (Option PySem.Expr)} {values : List PySem.Expr} {pos : Pos} {Q : Value → Shared → Prop} (htf : tupFirst keys = true) (F : Fr h₀ L s.heap m) (N : News h₀ L s.heap news)
    (hbig : sysModules < h₀.objs.size) (hall : keys.all (·.isSome) = true) (hl : keys.length = values.length) (h0 : keys ≠ []) (hlen : keys.length ≤ 15)
    (h : ∀ d o h', Fr h₀ L h' m → News h₀ L h' ((d, o) :: news) → (∀ p ∈ news, p.1 < d) → (d == sysModules) = false → o.IsDictOf (intKind prog w) [] →
      wpAny (model prog w) A (evalPairs (pairTrees keys values env pos)) (TupStores prog w A E d Q) E { s with heap := h' }) :
    wpAny (model prog w) A (eval (.Dict keys values pos) env) Q E s :=
  Dict_tup_made htf F N hbig hall hl h0 hlen fun o F' N' e hi => h _ o _ F' N' (fun p hp => Heap.lt_size (N p hp).1) e hi
theorem cnt_dset {Q : Unit → Shared → Prop} {t : Tok} {on : Obj} {a : Addr} (hu : A.units < cLine) (F : Fr h₀ L s.heap m) (N' : News h₀ L s.heap ((d, on) :: rest)) (C : CntAt prog w ((d, on) :: rest) d kvs)
    (hrest : ∀ p ∈ rest, p.1 ≠ d) (hk : (a, ok) ∈ rest) (ko : KeyObj prog w k ok) (hz : kvs.length ≤ 1000)
    (h : ∀ h' on', Fr h₀ L h' m → News h₀ L h' ((d, on') :: rest) → CntAt prog w ((d, on') :: rest) d (putC kvs k c) → Q () { s with heap := h', toks := s.toks + 4 }) :
    wpAny (model prog w) A (dictSet d (.ref a) (.int c t)) Q E s := by
  have C' := C
  obtain ⟨lo, o, es, ep, xs, hm, hc, hd, he, hn, hkx, hV⟩ := C'
  have hD : s.heap.DictOfH (bKind prog w) d xs := ⟨o, es, ep, (N' _ hm).1, hc, hd, he, fun x hx => let ⟨_, h1, h2⟩ := hkx x hx; h2.at (N' _ h1).1, hn⟩
  have hka : (bKind prog w).is s.heap k a := ko.at (N' _ (.tail _ hk)).1
  refine wpAny_dictSet_heap (hsz := by rw [hV.length, sizeLine_eq]; omega) (knd := bKind prog w) hu hka hD fun h' hm' hs => ?_
  obtain ⟨o', es', ep', ho', hc', hd', he', _, hn'⟩ := hm'
  have hdl := N' (d, on) (.head _)
  refine h h' o' (F.change hs hdl.2.1 hdl.2.2) (fun p hp => ?_) ⟨lo, o', es', ep', storedH xs k a (.int c t), .head _, hc', hd', he', hn', fun x hx => ?_, hV.stored k a c t⟩
  · rcases List.mem_cons.mp hp with rfl | hp
    · exact ⟨ho', hdl.2⟩
    · exact ⟨(hs.2 _ (hrest p hp)).trans (N' p (.tail _ hp)).1, (N' p (.tail _ hp)).2⟩
  · rcases mem_storedH hx with ⟨y, hy, e1, e2⟩ | ⟨e1, e2⟩
    · obtain ⟨oky, h1, h2⟩ := hkx y hy
      rw [e1, e2]
      rcases List.mem_cons.mp h1 with e | h1
      · injection e with q1 q2
        have hon : on = o := by
          rcases List.mem_cons.mp hm with e | hm
          · injection e with _ e; exact e.symm
          · exact absurd rfl (hrest _ hm)
        have := h2.1
        rw [q2, hon, hc.1] at this
        injection this with this
        exact absurd this (by decide)
      · exact ⟨oky, .tail _ h1, h2⟩
    · exact ⟨ok, by rw [e2]; exact .tail _ hk, by rw [e1]; exact ko⟩
theorem one_store {Q : Value → Shared → Prop} {t : Tok} (hu : A.units < cLine) (F : Fr h₀ L s.heap m) (N : News h₀ L s.heap ((T, ok) :: (d, o) :: rest)) (lo : (d == sysModules) = false) (hi : o.IsDictOf (intKind prog w) []) (ko : KeyObj prog w k ok)
    (hTd : (@LT.lt Nat _ d T)) (hrest : ∀ p ∈ rest, p.1 ≠ d)
    (h : ∀ h' on tk', Fr h₀ L h' m → News h₀ L h' ((d, on) :: (T, ok) :: rest) → CntAt prog w ((d, on) :: (T, ok) :: rest) d [(k, c)] → Q (.ref d) { s with heap := h', toks := tk' }) :
    TupStores prog w A E d Q [(.ref T, .int c t)] s := by
  have N' : News h₀ L s.heap ((d, o) :: (T, ok) :: rest) := fun p hp => N p (by
    rcases List.mem_cons.mp hp with rfl | hp
    · exact .tail _ (.head _)
    · rcases List.mem_cons.mp hp with rfl | hp
      · exact .head _
      · exact .tail _ (.tail _ hp))
  unfold TupStores storeAll
  rw [List.forIn_cons]
  refine wpAny_bind (wpAny_bind (cnt_dset hu F N' (cnt_empty lo hi) (fun p hp => ?_) (.head _) ko (by simp) fun h' on F' N' C' => wpAny_pure ?_))
  · rcases List.mem_cons.mp hp with rfl | hp
    · exact Nat.ne_of_gt hTd
    · exact hrest p hp
  · dsimp only
    rw [List.forIn_nil]
    exact wpAny_pure (h h' on _ F' N' C')
end
end Mine
end
section
open PySem PySem.W PyProof.Rows PySem.Calls PyProof.V
namespace Mine
noncomputable def rowsL : Nat → Int → Int → List (List Nat)
  | 0, _, _ => []
  | n + 1, a, b => if a = 0 ∨ b = 0 then [List.replicate a.toNat 40 ++ List.replicate b.toNat 41] else (rowsL n (a - 1) b).map (40 :: ·) ++ (rowsL n a (b - 1)).map (41 :: ·)
theorem cps_add (x y : Str) : (x ++ y).cps.toList = x.cps.toList ++ y.cps.toList := by
  show (x.cps ++ y.cps).toList = _
  simp
theorem rowsF_L : ∀ (n : Nat) (a b : Int), (rowsF n a b).map (fun x => x.cps.toList) = rowsL n a b
  | 0, _, _ => rfl
  | n + 1, a, b => by
    unfold rowsF rowsL
    split
    · show [(baseS a b).cps.toList] = _
      unfold baseS
      rw [cps_add, open_eq, shut_eq, mul_one_list, mul_one_list]
    · rw [List.map_append, List.map_map, List.map_map, ← rowsF_L n (a - 1) b, ← rowsF_L n a (b - 1), List.map_map, List.map_map]
      refine congr (congrArg _ (List.map_congr_left fun x _ => ?_)) (List.map_congr_left fun x _ => ?_)
      · show (Str.ofString "(" ++ x).cps.toList = 40 :: x.cps.toList
        rw [cps_add, open_eq]; rfl
      · show (Str.ofString ")" ++ x).cps.toList = 41 :: x.cps.toList
        rw [cps_add, shut_eq]; rfl
noncomputable def tallyL1 (kvs : List (Int × Int)) (l : List Nat) : List (Int × Int) := putC kvs (belowL 0 l) ((look kvs (belowL 0 l)).getD 0 + 1)
theorem tally_list : ∀ (xs : List Str) (kvs : List (Int × Int)), (∀ x ∈ xs, Par x) → xs.foldl tally1 kvs = (xs.map (fun x => x.cps.toList)).foldl tallyL1 kvs
  | [], _, _ => rfl
  | x :: xs, kvs, h => by
    rw [List.foldl_cons, List.map_cons, List.foldl_cons, tally_list xs _ fun y hy => h y (.tail _ hy)]
    unfold tally1 tallyL1
    rw [below_list (h x (.head _))]
theorem tally_rows (n : Nat) (a b : Int) : tallyF (rowsF n a b) = (rowsL n a b).foldl tallyL1 [] := by
  unfold tallyF
  rw [tally_list _ _ fun x hx => rowsF_par _ _ _ _ hx, rowsF_L]
theorem len_rows (n : Nat) (a b : Int) : (rowsF n a b).length = (rowsL n a b).length := by rw [← rowsF_L, List.length_map]
set_option maxRecDepth 100000 in
theorem x1 : tallyF (rowsF 9 1 1) = [(0, 1), (1, 1)] ∧ (rowsF 9 1 1).length = 2 := by
  rw [tally_rows, len_rows]; decide +kernel
set_option maxRecDepth 100000 in
theorem x2 : tallyF (rowsF 9 2 2) = [(0, 2), (1, 2), (2, 2)] ∧ (rowsF 9 2 2).length = 6 := by
  rw [tally_rows, len_rows]; decide +kernel
set_option maxRecDepth 100000 in
theorem x3 : tallyF (rowsF 9 3 3) = [(0, 5), (1, 5), (2, 5), (3, 5)] ∧ (rowsF 9 3 3).length = 20 := by
  rw [tally_rows, len_rows]; decide +kernel
set_option maxRecDepth 100000 in
theorem x4 : tallyF (rowsF 9 4 4) = [(0, 14), (1, 14), (2, 14), (3, 14), (4, 14)] ∧ (rowsF 9 4 4).length = 70 := by
  rw [tally_rows, len_rows]; decide +kernel
def flipN (c : Nat) : Nat := if c = 40 then 41 else 40
theorem join_none : ∀ ys : List Str, (Txt.join (Str.ofString "") ys).cps.toList = (ys.map (fun x => x.cps.toList)).flatten := by
  have e : Str.ofString "" = ⟨#[]⟩ := by decide +kernel
  have key : ∀ ys : List Str, (Str.join ⟨#[]⟩ ys).cps.toList = (ys.map (fun x => x.cps.toList)).flatten := by
    intro ys
    induction ys with
    | nil => rfl
    | cons y r ih =>
      cases r with
      | nil => simp [Str.join]
      | cons z r =>
        show ((y ++ (⟨#[]⟩ : Str)) ++ Str.join ⟨#[]⟩ (z :: r)).cps.toList = _
        rw [cps_add, cps_add, ih]
        simp
  intro ys
  unfold Txt.join
  rw [StrLaws.glued_eq_join, e]
  exact key ys
end Mine
end
section
open PySem PySem.W PyProof.Rows PySem.Calls PyProof.V
namespace Mine
def Facts (n : Int) (rs : List Str) (kv : List (Int × Int)) : Prop := 1 ≤ n ∧ n ≤ 4 ∧ rs = rowsF 9 n n ∧ kv = tallyF rs
theorem ite_bne {a b : Int} {P Q : Prop} (h : a = b) (q : Q) : if (a != b) = true then P else Q := by
  rw [if_neg (by simp [h])]; exact q
def RowF (n : Int) (x : Str) : Prop := 1 ≤ n ∧ n ≤ 4 ∧ x ∈ rowsF 9 n n
section
variable {prog : Program} {w : World} {A : Around} {E : Value → Shared → Prop} {s : Shared}
theorem len_strs {l : Addr} {vs : List Value} {xs : List Str} {Q : Value → Shared → Prop} (hl : s.heap.IsList l vs.toArray) (hS : StrsAre vs xs) (hz : xs.length ≤ 1000)
    (h : ∀ t k, Q (.int xs.length t) { s with toks := k }) : wpAny (model prog w) A (call (.builtin "len") [.ref l]) Q E s := by
  have e : vs.toArray.size = xs.length := by simp [hS.length]
  exact PyProof.Rows.len_list hl (by rw [e]; omega) (by rw [e]; exact h _ _)
theorem item_strs {value slice : PySem.Expr} {l : Addr} {vs : List Value} {xs : List Str} {k : Int} {u : Tok} {Q : Value → Shared → Prop}
    (hl : s.heap.IsList l vs.toArray) (hi : StrsAre vs xs) (h0 : 0 ≤ k) (hk : k < (xs.length : Int)) (hz : xs.length ≤ 1000) {n : Int} (hP : ∀ x ∈ xs, Par x ∧ x.length ≤ 100) (hR : ∀ x ∈ xs, RowF n x) (h : ∀ x t, x ∈ xs → RowF n x → Par x → x.length ≤ 100 → Q (.str x t) s)
    (hs : subscripted slice false (.ref l) (.int k u) = operate [.ref l, .int k u] (getItem (.ref l) (.int k u)) := by with_unfolding_all rfl) :
    wpAny (model prog w) A (subscriptTail value slice (.ref l) (.int k u)) Q E s := by
  have hlt : k.toNat < xs.length := by omega
  obtain ⟨t, hx⟩ := hi.get k.toNat xs[k.toNat] (List.getElem?_eq_getElem hlt)
  exact tail_any hl.typeIs PySem.slot_list_getitem.lookup (wpAny_getItem_list hl h0 (by omega) (by simpa using hx) (h _ t (List.getElem_mem hlt) (hR _ (List.getElem_mem hlt)) (hP _ (List.getElem_mem hlt)).1 (hP _ (List.getElem_mem hlt)).2)) hs
end
theorem facts0 {n : Int} {rs : List Str} {kv : List (Int × Int)} (h : Facts n rs kv) : rs.length ≤ 1000 := by
  obtain ⟨_, _, h, _⟩ := h
  rw [h]
  exact Nat.le_trans (rowsF_len _ _ _) (by decide)
theorem factsP {n : Int} {rs : List Str} {kv : List (Int × Int)} (h : Facts n rs kv) : ∀ x ∈ rs, Par x ∧ x.length ≤ 100 := by
  obtain ⟨h1, h2, h, _⟩ := h
  rw [h]
  exact fun x hx => ⟨rowsF_par _ _ _ _ hx, rowsF_100 hx (by omega)⟩
theorem ite_fold {ks : List Int} {P Q : Prop} (q : Q) : if (!decide (List.foldl (fun (l : List Int) (_ : Int) => l) [] ks = [])) = true then P else Q := by
  have e : ∀ (ks : List Int) (l : List Int), List.foldl (fun (l : List Int) (_ : Int) => l) l ks = l := by
    intro ks
    induction ks with
    | nil => intro l; rfl
    | cons a r ih => intro l; rw [List.foldl_cons]; exact ih l
  rw [e, if_neg (by simp)]; exact q
theorem factsR {n : Int} {rs : List Str} {kv : List (Int × Int)} (h : Facts n rs kv) : ∀ x ∈ rs, RowF n x := fun x hx => ⟨h.1, h.2.1, h.2.2.1 ▸ hx⟩
theorem factsC {n : Int} {rs : List Str} {kv : List (Int × Int)} (h : Facts n rs kv) : (n = 1 ∧ rs.length = 2 ∧ kv = [(0, 1), (1, 1)]) ∨ (n = 2 ∧ rs.length = 6 ∧ kv = [(0, 2), (1, 2), (2, 2)]) ∨ (n = 3 ∧ rs.length = 20 ∧ kv = [(0, 5), (1, 5), (2, 5), (3, 5)]) ∨ (n = 4 ∧ rs.length = 70 ∧ kv = [(0, 14), (1, 14), (2, 14), (3, 14), (4, 14)]) := by
  obtain ⟨h1, h2, h3, h4⟩ := h
  rw [h3] at h4
  rw [h4, h3]
  have : n = 1 ∨ n = 2 ∨ n = 3 ∨ n = 4 := by omega
  rcases this with rfl | rfl | rfl | rfl
  · exact .inl ⟨rfl, x1.2, x1.1⟩
  · exact .inr (.inl ⟨rfl, x2.2, x2.1⟩)
  · exact .inr (.inr (.inl ⟨rfl, x3.2, x3.1⟩))
  · exact .inr (.inr (.inr ⟨rfl, x4.2, x4.1⟩))
theorem facts5 {n : Int} {rs : List Str} {kv : List (Int × Int)} (h : Facts n rs kv) : (rs.length : Int) ≠ 0 := by
  rcases factsC h with ⟨_, h, _⟩ | ⟨_, h, _⟩ | ⟨_, h, _⟩ | ⟨_, h, _⟩ <;> omega
theorem facts1 {n : Int} {rs : List Str} {kv : List (Int × Int)} (h : Facts n rs kv) : (look kv 0).getD 0 = [1, 2, 5, 14].getD (n - 1).toNat 0 := by
  rcases factsC h with ⟨rfl, _, rfl⟩ | ⟨rfl, _, rfl⟩ | ⟨rfl, _, rfl⟩ | ⟨rfl, _, rfl⟩ <;> decide
theorem facts2 {n : Int} {rs : List Str} {kv : List (Int × Int)} (h : Facts n rs kv) : 0 + (kv.map (·.2)).sum = (n + 1) * (look kv 0).getD 0 := by
  rcases factsC h with ⟨rfl, _, rfl⟩ | ⟨rfl, _, rfl⟩ | ⟨rfl, _, rfl⟩ | ⟨rfl, _, rfl⟩ <;> decide
theorem facts3 {n : Int} {rs : List Str} {kv : List (Int × Int)} (h : Facts n rs kv) : (rs.length : Int) = 0 + (kv.map (·.2)).sum := by
  rcases factsC h with ⟨rfl, e, rfl⟩ | ⟨rfl, e, rfl⟩ | ⟨rfl, e, rfl⟩ | ⟨rfl, e, rfl⟩ <;> rw [e] <;> decide
def FK (n : Int) (kv : List (Int × Int)) : Prop := ∀ k, 0 ≤ k → k ≤ n → (look kv k).getD 0 = (look kv 0).getD 0
theorem fk_use {n k : Int} {kv : List (Int × Int)} (h : FK n kv) (h0 : 0 ≤ k) (h1 : k ≤ n) : (look kv k).getD 0 = (look kv 0).getD 0 := h k h0 h1
theorem facts4 {n : Int} {rs : List Str} {kv : List (Int × Int)} (h : Facts n rs kv) : FK n kv := by
  intro k h0 h1
  rcases factsC h with ⟨rfl, _, rfl⟩ | ⟨rfl, _, rfl⟩ | ⟨rfl, _, rfl⟩ | ⟨rfl, _, rfl⟩
  · have : k = 0 ∨ k = 1 := by omega
    rcases this with rfl | rfl <;> decide
  · have : k = 0 ∨ k = 1 ∨ k = 2 := by omega
    rcases this with rfl | rfl | rfl <;> decide
  · have : k = 0 ∨ k = 1 ∨ k = 2 ∨ k = 3 := by omega
    rcases this with rfl | rfl | rfl | rfl <;> decide
  · have : k = 0 ∨ k = 1 ∨ k = 2 ∨ k = 3 ∨ k = 4 := by omega
    rcases this with rfl | rfl | rfl | rfl | rfl <;> decide
end Mine
end
section
open PySem PySem.W PyProof.Rows PySem.Calls PyProof.V
namespace Mine
section
variable {prog : Program} {w : World} {A : Around} {E : Value → Shared → Prop} {s : Shared} {h₀ : Heap} {L : Addr} {m : Str → Option Value} {env : Env} {elt iter : PySem.Expr} {x : Str} {scope : Scope} {cl : List (Str × Addr)}
def SrcS (prog : Program) (w : World) (A : Around) (h₀ : Heap) (L : Addr) (m : Str → Option Value) (env : Env) (elt : PySem.Expr) (x : Str) (scope : Scope) (cl : List (Str × Addr)) (Fin : Shared → List Value → List (Addr × Obj) → Prop) (xv : Value) (s₁ : Shared) : Prop :=
  ∃ tx t news, xv = .str tx t ∧ A.handled = none ∧ Fr h₀ L s₁.heap m ∧ News h₀ L s₁.heap news ∧ tx.cps.size ≤ sizeLine ∧ tx.cps.all (· < 128) = true ∧
    ∀ s₂ : Shared, (∃ h, s₂ = { s₁ with heap := h }) → LCg.CompRest prog w A h₀ L m env elt x scope cl s₂ (fun _ => True) (SignAt tx) (Fin s₂) tx.cps.size 0 [] news
theorem ListComp_S {px pos : Pos} {Q : Value → Shared → Prop} (F₀ : Fr h₀ L s.heap m)
    (hclos : closureFor scope env = pure cl) (hcell : ∀ y ∈ scope.names, y.2 ≠ .cell) (hkind : scope.kind = .function)
    (hnames : ∀ y ∈ scope.names, y.2 = .local → scope.names.lookup y.1 = some .local) (hx : scope.names.lookup x = some .local)
    (h : wpAny (model prog w) A (eval iter env) (SrcS prog w A h₀ L m env elt x scope cl (fun s₂ => LCg.FinE h₀ L m s₂ Q)) E s)
    (hs : ∀ x, foldedSetIterable iter env x = pure x := by intro _; rfl) :
    wpAny (model prog w) A (eval (.ListComp elt [⟨.Name x px, iter, [], 0⟩] scope pos) env) Q E s := by
  rw [eval_ListComp]
  refine wpAny_comprehension_free (use := none) rfl hs hclos hkind hnames (wpAny_mono h (fun xv s₁ h₁ => ?_) fun _ _ e => e)
  obtain ⟨tx, t, news, rfl, hh, F, N, hsz, ha, R⟩ := h₁
  refine wpAny_pyIter_ascii ha ?_
  refine LCg.block_U (Walks.strAscii hh s₁.heap.objs.size tx t) hsz (fun i h st => by obtain ⟨o, e, _⟩ := st; exact ⟨o, e⟩)
    (fun i h h' o nw st e e' _ _ _ => by obtain ⟨o', q, r⟩ := st; rw [e] at q; cases q; exact ⟨o, e', r⟩) hcell hkind hx ⟨_, Heap.get?_push_size _ rfl, rfl, rfl⟩ (fun b hb => ?_)
    (F.keeps fun _ _ e => Heap.get?_push_of_some _ e) (N.grown fun _ _ e => Heap.get?_push_of_some _ e) (Nat.ne_of_lt F.ns.lt) (next_is_new F) (fun p hp => Nat.ne_of_lt (Heap.lt_size (N p hp).1)) trivial (R _ ⟨_, rfl⟩) ?_
  · rw [List.mem_singleton.mp hb]
    show s₁.heap.objs.size < (s₁.heap.push _).objs.size
    rw [Heap.size_push]; exact Nat.lt_succ_self _
  · intro D C h tk m' ys news' F' N' o1 hn hC₀ hD₀ hCL hDL hCD offC fin
    refine ⟨m', hn, fun h'' hs'' => fin D h'' tk (F'.change hs'' hCL hC₀) (fun p hp => ?_) o1⟩
    refine ⟨hs''.extBut _ _ ?_ (N' p hp).1, (N' p hp).2⟩
    rcases List.mem_cons.mp hp with rfl | hp
    · exact Ne.symm hCD
    · exact offC p hp
theorem SrcS.intro {Fin : Shared → List Value → List (Addr × Obj) → Prop} {tx : Str} {t : Tok} {news : List (Addr × Obj)} {s₁ : Shared} (hh : A.handled = none) (F : Fr h₀ L s₁.heap m) (N : News h₀ L s₁.heap news) (hp : Par tx) (hl : tx.length ≤ 100)
    (h : ∀ g, LCg.CompRest prog w A h₀ L m env elt x scope cl { s₁ with heap := g } (fun _ => True) (SignAt tx) (Fin { s₁ with heap := g }) tx.cps.size 0 [] news) : SrcS prog w A h₀ L m env elt x scope cl Fin (.str tx t) s₁ :=
  ⟨tx, t, news, rfl, hh, F, N, by rw [sizeLine_eq]; exact Nat.le_trans hl (by decide), by
    rw [Array.all_eq_true]
    intro i hi
    have := hp tx.cps[i] (by simp)
    simp only [decide_eq_true_eq]
    omega, fun _ ⟨g, e⟩ => e ▸ h g⟩
def flipC (c : Nat) : Str := if c = 40 then Str.ofString ")" else Str.ofString "("
theorem one40 : (⟨#[40]⟩ : Str) = Str.ofString "(" := by decide +kernel
theorem one41 : (⟨#[41]⟩ : Str) = Str.ofString ")" := by decide +kernel
theorem st_chars {Fin : List Value → List (Addr × Obj) → Prop} {news : List (Addr × Obj)} {tx : Str} (hp : Par tx)
    (turnO : ∀ t I oI C oC D m₂ ys h tk (E' : Value → Shared → Prop), LCg.NsObj oC m₂ → m₂ x = some (.str (Str.ofString "(") t) → Fr h₀ L h m → News h₀ L h ((I, oI) :: (C, oC) :: (D, LCg.lst ys) :: news) → LCg.Off3 I C D news → ((@Ne Nat I C) ∧ (@Ne Nat I D) ∧ (@Ne Nat C D)) → KPfMark →
      wpAny (model prog w) A (eval elt (compEnvC scope cl C env)) (LCg.CompEnd h₀ L m { s with heap := h, toks := tk } I oI C oC D (LCg.lst ys) (fun _ => True) (fun y news' => KCtEl news (Str.ofString ")") y news')) E' { s with heap := h, toks := tk })
    (turnC : ∀ t I oI C oC D m₂ ys h tk (E' : Value → Shared → Prop), LCg.NsObj oC m₂ → m₂ x = some (.str (Str.ofString ")") t) → Fr h₀ L h m → News h₀ L h ((I, oI) :: (C, oC) :: (D, LCg.lst ys) :: news) → LCg.Off3 I C D news → ((@Ne Nat I C) ∧ (@Ne Nat I D) ∧ (@Ne Nat C D)) → KPfMark →
      wpAny (model prog w) A (eval elt (compEnvC scope cl C env)) (LCg.CompEnd h₀ L m { s with heap := h, toks := tk } I oI C oC D (LCg.lst ys) (fun _ => True) (fun y news' => KCtEl news (Str.ofString "(") y news')) E' { s with heap := h, toks := tk })
    (fin : KPfDone (∀ ys, StrsAre ys (tx.cps.toList.map flipC) → Fin ys news)) : LCg.CompRest prog w A h₀ L m env elt x scope cl s (fun _ => True) (SignAt tx) Fin tx.cps.size 0 [] news := by
  unfold KPfDone at fin
  have key : ∀ (j i : Nat) (ys : List Value), i + j = tx.cps.size → StrsAre ys ((tx.cps.toList.take i).map flipC) → LCg.CompRest prog w A h₀ L m env elt x scope cl s (fun _ => True) (SignAt tx) Fin j i ys news := by
    intro j
    induction j with
    | zero =>
      intro i ys hi hy
      have e : i = tx.cps.toList.length := by simpa using hi
      subst e
      rw [List.take_length] at hy
      exact LCg.CompRest.zero (fin ys hy)
    | succ j ih =>
      intro i ys hi hy
      refine LCg.CompRest.succ ?_
      intro v I oI C oC D m₂ h tk E' hvi hC hx F N off ne
      have hi' : i < tx.cps.toList.length := by simp; omega
      obtain ⟨c, u, hc, rfl⟩ := hvi
      have hci : tx.cps.toList[i] = c := by
        have := hc
        rw [← Array.getElem?_toList, List.getElem?_eq_getElem hi'] at this
        exact Option.some.inj this
      have fin' : ∀ (y : Value) (s₂ : Shared), LCg.CompEnd h₀ L m { s with heap := h, toks := tk } I oI C oC D (LCg.lst ys) (fun _ => True) (fun y news' => KCtEl news (flipC c) y news') y s₂ →
          LCg.CompEnd h₀ L m { s with heap := h, toks := tk } I oI C oC D (LCg.lst ys) (fun _ => True) (fun y news' => LCg.CompRest prog w A h₀ L m env elt x scope cl s (fun _ => True) (SignAt tx) Fin j (i + 1) (ys ++ [y]) news') y s₂ := by
        rintro y s₂ ⟨h', tk', nw, e, F', N', off', hS, hn, t', hy'⟩
        rw [hn] at N' off'
        refine ⟨h', tk', news, e, F', N', off', True.intro, ?_⟩
        rw [hy']
        refine ih (i + 1) _ (by omega) ?_
        rw [List.take_add_one, List.getElem?_eq_getElem hi', List.map_append, hci]
        exact kct_snoc hy
      rcases hp c (hci ▸ List.getElem_mem hi') with rfl | rfl
      · rw [one40] at hx
        exact wpAny_mono (turnO u I oI C oC D m₂ ys h tk E' hC hx F N off ne True.intro) fin' fun _ _ e => e
      · rw [one41] at hx
        exact wpAny_mono (turnC u I oI C oC D m₂ ys h tk E' hC hx F N off ne True.intro) fin' fun _ _ e => e
  exact key _ 0 [] (by omega) (by simp only [List.take_zero, List.map_nil]; exact .nil)
def flipS (x : Str) : Str := Txt.join (Str.ofString "") (x.cps.toList.map flipC)
theorem flip_sum : ∀ l : List Nat, ((l.map flipC).map (·.length)).sum = l.length
  | [] => rfl
  | c :: l => by
    rw [List.map_cons, List.map_cons, List.sum_cons, flip_sum l, List.length_cons]
    have : (flipC c).length = 1 := by unfold flipC; split <;> decide +kernel
    omega
theorem rowL_all {P : Int → List Nat → Bool} (h1 : (rowsL 9 1 1).all (P 1) = true) (h2 : (rowsL 9 2 2).all (P 2) = true) (h3 : (rowsL 9 3 3).all (P 3) = true) (h4 : (rowsL 9 4 4).all (P 4) = true) {n : Int} {x : Str} (h : RowF n x) : P n x.cps.toList = true := by
  obtain ⟨a, b, c⟩ := h
  have hm : x.cps.toList ∈ rowsL 9 n n := by rw [← rowsF_L]; exact List.mem_map_of_mem c
  have : n = 1 ∨ n = 2 ∨ n = 3 ∨ n = 4 := by omega
  rcases this with rfl | rfl | rfl | rfl
  · exact List.all_eq_true.mp h1 _ hm
  · exact List.all_eq_true.mp h2 _ hm
  · exact List.all_eq_true.mp h3 _ hm
  · exact List.all_eq_true.mp h4 _ hm
theorem RowF.par {n : Int} {x : Str} (h : RowF n x) : Par x := rowsF_par _ _ _ _ h.2.2
theorem RowF.short {n : Int} {x : Str} (h : RowF n x) : x.length ≤ 100 := rowsF_100 h.2.2 (by have := h.1; have := h.2.1; omega)
theorem flip_list (tx : Str) : (flipS tx).cps.toList = tx.cps.toList.map flipN := by
  have e1 : ∀ c, (flipC c).cps.toList = [flipN c] := fun c => by
    unfold flipC flipN
    split
    · rw [shut_eq]
    · rw [open_eq]
  unfold flipS
  rw [join_none, List.map_map]
  generalize tx.cps.toList = l
  induction l with
  | nil => rfl
  | cons c l ih =>
    rw [List.map_cons, List.flatten_cons, ih, List.map_cons]
    show (flipC c).cps.toList ++ _ = _
    rw [e1]; rfl
theorem rowFlip {n : Int} {x : Str} (h : RowF n x) : Par (flipS x) ∧ (flipS x).length ≤ 100 := by
  constructor
  · intro c hc
    rw [flip_list] at hc
    obtain ⟨d, _, rfl⟩ := List.mem_map.mp hc
    unfold flipN
    split <;> simp
  · rw [lenL_eq, flip_list, List.length_map, ← lenL_eq]
    exact h.short
theorem join_flip {D : Addr} {ys : List Value} {tx : Str} {n : Int} {t : Tok} {Q : Value → Shared → Prop} (hr : RowF n tx) (hl : s.heap.IsList D ys.toArray) (hi : StrsAre ys (tx.cps.toList.map flipC)) (hlen : tx.length ≤ 100)
    (h : ∀ t' k, Par (flipS tx) → (flipS tx).length ≤ 100 → Q (.str (flipS tx) t') { s with toks := k }) : wpAny (model prog w) A (call (.builtin "str.join") [.str (Str.ofString "") t, .ref D]) Q E s := by
  refine join_listW hl (by simpa using hi) (by decide +kernel) ?_ fun t' k => h t' k (rowFlip hr).1 (rowFlip hr).2
  rw [flip_sum, List.length_map]
  have : tx.cps.toList.length = tx.length := by simp [Str.length]
  omega
theorem par_all {tx : Str} (h : Par tx) : tx.cps.all (· < 128) = true := by
  rw [Array.all_eq_true]
  intro i hi
  have := h tx.cps[i] (by simp)
  simp only [decide_eq_true_eq]
  omega
end
end Mine
end
section
open PySem PySem.W PyProof.Rows PySem.Calls PyProof.V
namespace Mine
set_option maxRecDepth 100000
noncomputable def okBelow (n : Int) (l : List Nat) : Bool := decide (belowL 0 (l.map flipN) = n - belowL 0 l)
theorem rowBelow {n : Int} {x : Str} (h : RowF n x) : belowOf (flipS x) = n - belowOf x := by
  have := of_decide_eq_true (rowL_all (P := okBelow) (by decide +kernel) (by decide +kernel) (by decide +kernel) (by decide +kernel) h)
  rw [below_list (rowFlip h).1, below_list h.par, flip_list]
  exact this
theorem cnt_count (c : Nat) : ∀ l : List Nat, cnt c l = (l.count c : Nat)
  | [] => rfl
  | n :: l => by
    rw [cnt_cons, cnt_count c l, List.count_cons]
    by_cases h : n = c
    · simp [h]; omega
    · simp [h]
theorem rowDepths {n : Int} {x : Str} (h : RowF n x) : depthsOf x = List.map (fun k' => if (Txt.slice x none (some k')).length ≤ x.length then Txt.count (Txt.slice x none (some k')) (Str.ofString "(") - Txt.count (Txt.slice x none (some k')) (Str.ofString ")") else k') (rangeKs 0 ((x.length : Int) + 1 - 0).toNat) := by
  have e : ((x.length : Int) + 1 - 0).toNat = x.length + 1 := by omega
  unfold depthsOf
  rw [e]
  refine List.map_congr_left fun k _ => ?_
  rw [if_pos (Txt.slice_le x none (some k)), depthS_list (h.par.slice _ _), open_eq, shut_eq, count_cnt, count_cnt, cnt_count, cnt_count]
  rfl
theorem ite_depths {n : Int} {x : Str} {P Q : Prop} (h : RowF n x) (q : P) : if decide (depthsOf x = List.map (fun k' => if (Txt.slice x none (some k')).length ≤ x.length then Txt.count (Txt.slice x none (some k')) (Str.ofString "(") - Txt.count (Txt.slice x none (some k')) (Str.ofString ")") else k') (rangeKs 0 ((x.length : Int) + 1 - 0).toNat)) = true then P else Q := by
  rw [if_pos (decide_eq_true (rowDepths h))]; exact q
theorem small_len {x : Str} (h : x.length ≤ 100) : Builtin.Range.small 0 (x.length : Int) 1 = true := small_one (by decide) (by decide) (by omega) (by omega)
theorem size_len {x : Str} (h : x.length ≤ 100) : ((x.length : Int) - 0).toNat ≤ sizeLine := by rw [sizeLine_eq]; omega
theorem small_len1 {x : Str} (h : x.length ≤ 100) : Builtin.Range.small 0 ((x.length : Int) + 1) 1 = true := small_one (by decide) (by decide) (by omega) (by omega)
theorem size_len1 {x : Str} (h : x.length ≤ 100) : ((x.length : Int) + 1 - 0).toNat ≤ sizeLine := by rw [sizeLine_eq]; omega
end Mine
end
section
open PySem PySem.W PyProof.Rows PySem.Calls PyProof.V
namespace Mine
def Stop (P : Prop) : Prop := P
theorem Stop.out {P : Prop} (h : Stop P) : P := h
theorem Stop.mk {P : Prop} (h : P) : Stop P := h
def Pick (_ : List (Addr × Obj)) : Prop := True
theorem pick_of {h₀ h : Heap} {L : Addr} {r c5 c4 c3 c2 c1 : Addr × Obj} {pre : List (Addr × Obj)} (_ : News h₀ L h (r :: c5 :: c4 :: c3 :: c2 :: c1 :: pre)) : Pick [c5, c4, c2] := True.intro
theorem cut_with {h₀ h : Heap} {L : Addr} {l news : List (Addr × Obj)} (_ : Pick l) (N : News h₀ L h news) (sub : ∀ p ∈ l, p ∈ news) : News h₀ L h l := fun p hp => N p (sub p hp)
end Mine
end
section
open PySem PySem.W PyProof.Rows PySem.Calls PyProof.V
namespace Mine
section
variable {prog : Program} {w : World} {A : Around} {E : Value → Shared → Prop} {s : Shared}
theorem str_item {value slice : PySem.Expr} {x : Str} {t u : Tok} {k : Int} {Q : Value → Shared → Prop} (hl : x.length ≤ 100) (h0 : 0 ≤ k) (h1 : k < 0 + ((((x.length : Int) - 0).toNat : Nat) : Int))
    (h : ∀ t' k', Q (.str (Txt.item x k) t') { s with toks := k' })
    (hs : subscripted slice false (.str x t) (.int k u) = operate [.str x t, .int k u] (getItem (.str x t) (.int k u)) := by with_unfolding_all rfl)
    (ht : ∀ r, letTemporaryGo value (.str x t) r = pure () := by intro _; with_unfolding_all rfl) :
    wpAny (model prog w) A (subscriptTail value slice (.str x t) (.int k u)) Q E s :=
  item_str (fitsSsize_of (N := 9223372036854775808) (by omega) (by omega) (Int.le_refl _)) (by omega) (by omega) (fun _ => h _ _) hs ht
theorem depth_item {value slice : PySem.Expr} {l : Addr} {vs : List Value} {x : Str} {k : Int} {u : Tok} {Q : Value → Shared → Prop}
    (hl : s.heap.IsList l vs.toArray) (hi : IntsAre vs (depthsOf x)) (h100 : x.length ≤ 100) (h0 : 0 ≤ k) (hk : k < 0 + ((((x.length : Int) - 0).toNat : Nat) : Int)) (h : ∀ t, Q (.int ((depthsOf x).getD k.toNat 0) t) s)
    (hs : subscripted slice false (.ref l) (.int k u) = operate [.ref l, .int k u] (getItem (.ref l) (.int k u)) := by with_unfolding_all rfl) :
    wpAny (model prog w) A (subscriptTail value slice (.ref l) (.int k u)) Q E s :=
  ints_item hl hi h0 (by rw [depthsOf_length]; omega) (by rw [depthsOf_length]; omega) h hs
theorem depth_item1 {value slice : PySem.Expr} {l : Addr} {vs : List Value} {x : Str} {k : Int} {u : Tok} {Q : Value → Shared → Prop}
    (hl : s.heap.IsList l vs.toArray) (hi : IntsAre vs (depthsOf x)) (h100 : x.length ≤ 100) (h0 : 0 ≤ k) (hk : k < 0 + ((((x.length : Int) + 1 - 0).toNat : Nat) : Int)) (h : ∀ t, Q (.int ((depthsOf x).getD k.toNat 0) t) s)
    (hs : subscripted slice false (.ref l) (.int k u) = operate [.ref l, .int k u] (getItem (.ref l) (.int k u)) := by with_unfolding_all rfl) :
    wpAny (model prog w) A (subscriptTail value slice (.ref l) (.int k u)) Q E s :=
  ints_item hl hi h0 (by rw [depthsOf_length]; omega) (by rw [depthsOf_length]; omega) h hs
end
theorem ne45 (a : Nat) : a + 1 + 1 + 1 + 1 ≠ a + 1 + 1 + 1 + 1 + 1 := by omega
theorem ne25 (a : Nat) : a + 1 + 1 ≠ a + 1 + 1 + 1 + 1 + 1 := by omega
def cntG (x : Str) : List Int → Int → List Int := fun l' k' => if 0 ≤ (depthsOf x).getD k'.toNat 0 ∧ Txt.item x k' = Str.ofString "(" then l' ++ [k'] else if ¬0 ≤ (depthsOf x).getD k'.toNat 0 ∧ Txt.item x k' = Str.ofString "(" then l' else if ¬Txt.item x k' = Str.ofString "(" then l' else l'
noncomputable def aboveL : Int → List Nat → Int
  | _, [] => 0
  | d, c :: r => (if 0 ≤ d ∧ c = 40 then 1 else 0) + aboveL (stepC d c) r
def aP (d : Int) (l : List Nat) (k : Nat) : Bool := decide (0 ≤ d + depL (l.take k) ∧ l.getD k 0 = 40)
theorem above_range : ∀ (l : List Nat) (d : Int), ParL l → ((((List.range l.length).filter (aP d l)).length : Nat) : Int) = aboveL d l
  | [], d, _ => rfl
  | c :: l, d, h => by
    have e : (aP d (c :: l)) ∘ Nat.succ = aP (stepC d c) l := by
      funext k
      show decide (0 ≤ d + depL (c :: l.take k) ∧ l.getD k 0 = 40) = _
      rw [depL_cons (h c (.head _)), stepC_add]; rfl
    have e0 : aP d (c :: l) 0 = decide (0 ≤ d ∧ c = 40) := by
      show decide (0 ≤ d + depL [] ∧ c = 40) = _
      rw [depL_nil, Int.add_zero]
    rw [List.length_cons, List.range_succ_eq_map, List.filter_cons, List.filter_map, e, e0]
    have ih := above_range l (stepC d c) h.tl
    unfold aboveL
    by_cases hc : 0 ≤ d ∧ c = 40
    · rw [if_pos (decide_eq_true hc), if_pos hc, List.length_cons, List.length_map]
      omega
    · rw [if_neg (by simpa using hc), if_neg hc, List.length_map]
      omega
theorem above_list {x : Str} (h : Par x) : (((List.foldl (cntG x) [] (rangeKs 0 ((x.length : Int) - 0).toNat)).length : Nat) : Int) = aboveL 0 x.cps.toList := by
  have e : ((x.length : Int) - 0).toNat = x.cps.toList.length := by rw [lenL_eq]; omega
  have g : cntG x = fun (l' : List Int) (k' : Int) => if 0 ≤ (depthsOf x).getD k'.toNat 0 ∧ Txt.item x k' = Str.ofString "(" then l' ++ [k'] else l' := by
    funext l' k'
    unfold cntG
    simp only [ite_self]
  rw [g, fold_filter (p := fun k' : Int => 0 ≤ (depthsOf x).getD k'.toNat 0 ∧ Txt.item x k' = Str.ofString "("), List.nil_append, e, ← above_range _ 0 h]
  unfold rangeKs
  rw [List.filter_map, List.length_map]
  refine congrArg (fun l : List Nat => ((l.length : Nat) : Int)) (List.filter_congr fun k hk => ?_)
  have hk := List.mem_range.mp hk
  show decide (0 ≤ (depthsOf x).getD (0 + (k : Int)).toNat 0 ∧ Txt.item x (0 + (k : Int)) = Str.ofString "(") = _
  have e1 : (depthsOf x).getD ((k : Int)).toNat 0 = 0 + depL (x.cps.toList.take k) := by
    rw [depths_list h, Int.toNat_natCast]; exact deps_get _ _ _ h (by omega)
  rw [Int.zero_add, e1, item_list hk, open_eq]
  unfold aP
  congr 1
  apply propext
  constructor
  · rintro ⟨h1, h2⟩
    refine ⟨h1, ?_⟩
    injection h2 with h2
    simpa using h2
  · rintro ⟨h1, h2⟩
    rw [h2]
    exact ⟨h1, rfl⟩
noncomputable def okCnt (n : Int) (l : List Nat) : Bool := decide (aboveL 0 l + belowL 0 l = n)
set_option maxRecDepth 100000 in
theorem rowCnt {n : Int} {x : Str} (h : RowF n x) : (((List.foldl (cntG x) [] (rangeKs 0 ((x.length : Int) - 0).toNat)).length : Nat) : Int) + belowOf x = n := by
  rw [above_list h.par, below_list h.par]
  exact of_decide_eq_true (rowL_all (P := okCnt) (by decide +kernel) (by decide +kernel) (by decide +kernel) (by decide +kernel) h)
theorem ite_count {n : Int} {x : Str} {P Q : Prop} (h : RowF n x) (q : P) : if ((((List.foldl (fun (l' : List Int) (k' : Int) => if 0 ≤ (depthsOf x).getD k'.toNat 0 ∧ Txt.item x k' = Str.ofString "(" then l' ++ [k'] else if ¬0 ≤ (depthsOf x).getD k'.toNat 0 ∧ Txt.item x k' = Str.ofString "(" then l' else if ¬Txt.item x k' = Str.ofString "(" then l' else l') [] (rangeKs 0 ((x.length : Int) - 0).toNat)).length : Nat) : Int) + belowOf x != n) = true then Q else P := by
  exact ite_bne (rowCnt h) q
theorem ite_flip {n : Int} {x : Str} {P Q : Prop} (h : RowF n x) (q : P) : if (belowOf (flipS x) != n - belowOf x) = true then Q else P := by
  exact ite_bne (rowBelow h) q
end Mine
end
section
open PySem PySem.W PyProof.Rows PySem.Calls PyProof.V
namespace Mine
def cutsOf (x : Str) : List Int := List.foldl (fun (l' : List Int) (k' : Int) => if (depthsOf x).getD k'.toNat 0 = 0 then l' ++ [k'] else l') [] (rangeKs 0 ((x.length : Int) + 1 - 0).toNat)
theorem cuts_le {x : Str} (h : x.length ≤ 100) : (cutsOf x).length ≤ 101 := by
  have h1 := kpf_len (g := fun (l' : List Int) (k' : Int) => if (depthsOf x).getD k'.toNat 0 = 0 then l' ++ [k'] else l') (fun l k => by split <;> simp) (rangeKs 0 ((x.length : Int) + 1 - 0).toNat) []
  have h2 : (rangeKs 0 ((x.length : Int) + 1 - 0).toNat).length = ((x.length : Int) + 1 - 0).toNat := rangeKs_length _ _
  simp only [List.length_nil] at h1
  unfold cutsOf
  omega
theorem small_cuts {x : Str} (h : x.length ≤ 100) : Builtin.Range.small 1 ((cutsOf x).length : Int) 1 = true := by
  have := cuts_le h
  exact small_one (by decide) (by decide) (by omega) (by omega)
theorem size_cuts {x : Str} (h : x.length ≤ 100) : (((cutsOf x).length : Int) - 1).toNat ≤ sizeLine := by
  have := cuts_le h
  rw [sizeLine_eq]; omega
theorem slice_100 {x : Str} {a b : Option Int} (h : x.length ≤ 100) : (Txt.slice x a b).length ≤ 100 := Nat.le_trans (Txt.slice_le x a b) h
section
variable {prog : Program} {w : World} {A : Around} {E : Value → Shared → Prop} {s : Shared} {l : Addr} {vs : List Value} {x : Str} {Q : Value → Shared → Prop}
theorem len_cuts (hl : s.heap.IsList l vs.toArray) (hI : IntsAre vs (List.foldl (fun (l' : List Int) (k' : Int) => if (depthsOf x).getD k'.toNat 0 = 0 then l' ++ [k'] else l') [] (rangeKs 0 ((x.length : Int) + 1 - 0).toNat))) (h100 : x.length ≤ 100)
    (h : ∀ t k, Q (.int ((cutsOf x).length : Int) t) { s with toks := k }) : wpAny (model prog w) A (call (.builtin "len") [.ref l]) Q E s := by
  have e : vs.toArray.size = (cutsOf x).length := by rw [List.size_toArray]; exact hI.length
  have := cuts_le h100
  exact PyProof.Rows.len_list hl (by rw [e]; omega) (by rw [e]; exact h _ _)
theorem cut_prev {value slice : PySem.Expr} {k : Int} {u : Tok}
    (hl : s.heap.IsList l vs.toArray) (hI : IntsAre vs (List.foldl (fun (l' : List Int) (k' : Int) => if (depthsOf x).getD k'.toNat 0 = 0 then l' ++ [k'] else l') [] (rangeKs 0 ((x.length : Int) + 1 - 0).toNat))) (h100 : x.length ≤ 100)
    (h0 : 1 ≤ k) (hk : k < 1 + (((((cutsOf x).length : Int) - 1).toNat : Nat) : Int)) (h : ∀ t, Q (.int ((cutsOf x).getD (k - 1).toNat 0) t) s)
    (hs : subscripted slice false (.ref l) (.int (k - 1) u) = operate [.ref l, .int (k - 1) u] (getItem (.ref l) (.int (k - 1) u)) := by with_unfolding_all rfl) :
    wpAny (model prog w) A (subscriptTail value slice (.ref l) (.int (k - 1) u)) Q E s := by
  have := cuts_le h100
  exact ints_item (ns := cutsOf x) hl hI (by omega) (by omega) (by omega) h hs
theorem cut_here {value slice : PySem.Expr} {k : Int} {u : Tok}
    (hl : s.heap.IsList l vs.toArray) (hI : IntsAre vs (List.foldl (fun (l' : List Int) (k' : Int) => if (depthsOf x).getD k'.toNat 0 = 0 then l' ++ [k'] else l') [] (rangeKs 0 ((x.length : Int) + 1 - 0).toNat))) (h100 : x.length ≤ 100)
    (h0 : 1 ≤ k) (hk : k < 1 + (((((cutsOf x).length : Int) - 1).toNat : Nat) : Int)) (h : ∀ t, Q (.int ((cutsOf x).getD k.toNat 0) t) s)
    (hs : subscripted slice false (.ref l) (.int k u) = operate [.ref l, .int k u] (getItem (.ref l) (.int k u)) := by with_unfolding_all rfl) :
    wpAny (model prog w) A (subscriptTail value slice (.ref l) (.int k u)) Q E s := by
  have := cuts_le h100
  exact ints_item (ns := cutsOf x) hl hI (by omega) (by omega) (by omega) h hs
end
def partsG (x : Str) : Int → Int := fun k' => if (Txt.slice x (some ((cutsOf x).getD (k' - 1).toNat 0)) (some ((cutsOf x).getD k'.toNat 0))).length ≤ x.length then belowOf (Txt.slice x (some ((cutsOf x).getD (k' - 1).toNat 0)) (some ((cutsOf x).getD k'.toNat 0))) else k'
noncomputable def cutsL (l : List Nat) : List Int := List.foldl (fun (l' : List Int) (k' : Int) => if (depsL 0 l).getD k'.toNat 0 = 0 then l' ++ [k'] else l') [] (rangeKs 0 ((l.length : Int) + 1 - 0).toNat)
theorem cuts_list {x : Str} (h : Par x) : cutsOf x = cutsL x.cps.toList := by
  unfold cutsOf cutsL
  rw [depths_list h, lenL_eq]
noncomputable def partL (l : List Nat) (k : Int) : Int := belowL 0 ((l.drop ((cutsL l).getD (k - 1).toNat 0).toNat).take ((cutsL l).getD k.toNat 0 - (cutsL l).getD (k - 1).toNat 0).toNat)
noncomputable def okParts (_ : Int) (l : List Nat) : Bool :=
  (rangeKs 1 (((cutsL l).length : Int) - 1).toNat).all (fun k => decide (0 ≤ (cutsL l).getD (k - 1).toNat 0 ∧ (cutsL l).getD (k - 1).toNat 0 ≤ (cutsL l).getD k.toNat 0 ∧ (cutsL l).getD k.toNat 0 ≤ (l.length : Int))) &&
  decide (((rangeKs 1 (((cutsL l).length : Int) - 1).toNat).map (partL l)).sum = belowL 0 l)
theorem part_list {x : Str} (h : Par x) {k : Int} (hb : 0 ≤ (cutsL x.cps.toList).getD (k - 1).toNat 0 ∧ (cutsL x.cps.toList).getD (k - 1).toNat 0 ≤ (cutsL x.cps.toList).getD k.toNat 0 ∧ (cutsL x.cps.toList).getD k.toNat 0 ≤ (x.cps.toList.length : Int)) : partsG x k = partL x.cps.toList k := by
  unfold partsG partL
  rw [if_pos (Txt.slice_le _ _ _), below_list (h.slice _ _), cuts_list h, slice_mid hb]
set_option maxRecDepth 100000 in
theorem rowParts {n : Int} {x : Str} (h : RowF n x) : ((rangeKs 1 (((cutsOf x).length : Int) - 1).toNat).map (partsG x)).sum = belowOf x := by
  have := rowL_all (P := okParts) (by decide +kernel) (by decide +kernel) (by decide +kernel) (by decide +kernel) h
  unfold okParts at this
  rw [Bool.and_eq_true] at this
  obtain ⟨hb, hs⟩ := this
  rw [below_list h.par, ← of_decide_eq_true hs, cuts_list h.par]
  refine congrArg List.sum (List.map_congr_left fun k hk => part_list h.par ?_)
  exact of_decide_eq_true (List.all_eq_true.mp hb k hk)
theorem eq_parts {prog : Program} {w : World} {A : Around} {E : Value → Shared → Prop} {s : Shared} {n : Int} {x : Str} {t u : Tok} {Q : Value → Shared → Prop} (h : RowF n x) (q : Q (.bool true) s) :
    wpAny (model prog w) A (compareOp .Eq (.int (List.map (fun (k' : Int) => if (Txt.slice x (some ((cutsOf x).getD (k' - 1).toNat 0)) (some ((cutsOf x).getD k'.toNat 0))).length ≤ x.length then belowOf (Txt.slice x (some ((cutsOf x).getD (k' - 1).toNat 0)) (some ((cutsOf x).getD k'.toNat 0))) else k') (rangeKs 1 (((cutsOf x).length : Int) - 1).toNat)).sum t) (.int (belowOf x) u)) Q E s := by
  have e : (List.map (fun (k' : Int) => if (Txt.slice x (some ((cutsOf x).getD (k' - 1).toNat 0)) (some ((cutsOf x).getD k'.toNat 0))).length ≤ x.length then belowOf (Txt.slice x (some ((cutsOf x).getD (k' - 1).toNat 0)) (some ((cutsOf x).getD k'.toNat 0))) else k') (rangeKs 1 (((cutsOf x).length : Int) - 1).toNat)).sum = belowOf x := rowParts h
  rw [e]
  exact eq_int (by rw [show (belowOf x == belowOf x) = true from by simp]; exact q)
end Mine
end
section
open PySem PySem.W PyProof.Rows PySem.Calls
namespace Mine
theorem store_four {M : Model} {A : Around} {E : Value → Shared → Prop} {s : Shared} {env : Env} {x : Str} {y : Int} {t : Tok} {Q : Unit → Shared → Prop}
    (h : ∀ n : Int, 1 ≤ n → n ≤ 4 → wpAny M A (storeName env x (.int n t)) Q E s) : wpAny M A (storeName env x (.int (1 + y.fmod 4) t)) Q E s := by
  have h1 := Int.fmod_nonneg_of_pos y (b := 4) (by decide)
  have h2 := Int.fmod_lt_of_pos y (b := 4) (by decide)
  exact h _ (by omega) (by omega)
local macro_rules | `(tactic| walk_at "storeName") => `(tactic| (k_here; (with_reducible refine store_four ?_); intro n' hn1' hn4'))
local macro_rules | `(tactic| walk_at "exec For Name Name cons nil") => `(tactic| (k_here; (rename Fr _ _ _ _ => lF'); (with_unfolding_all refine' For_turns lF' ?_)))
local macro_rules | `(tactic| walk_at "call ref") => `(tactic| (k_here; (with_reducible show wpAny _ _ (call (Value.ref 73) [Value.int _ _, Value.int _ _]) _ _ _); k_dflt (refine' c6_use (c6 _ 9) ?B ?F ?X ?N ?T ?k ?hd ?hu ?hx ?hy ?hn ?h9 ?_; (case B => k_asm); (case F => k_asm); (case X => k_asm); (case N => k_asm); (case T => k_asm); (case k => first | exact rfl | assumption); (case hd => ktr_room); (case hu => ktr_units); (case hx => omega); (case hy => omega); (case hn => omega); (case h9 => omega)); intro D' ys' k' h' tk' F' N' l1 hS'; (try k_lt l1); (try k_fold)))
local macro_rules | `(tactic| walk_at "call ref") => `(tactic| (k_here; (with_reducible show wpAny _ _ (call (Value.ref 68) [Value.str _ _]) _ _ _); k_dflt (refine' c3 ?B ?F ?X ?N ?T ?k ?hd ?hu ?hs ?hq ?_; (case B => k_asm); (case F => k_asm); (case X => k_asm); (case N => k_asm); (case T => k_asm); (case k => first | exact rfl | assumption); (case hd => ktr_room); (case hu => ktr_units); (case hs => kt_fact); (case hq => first | assumption)); intro t' h' tk' F' N'; (try k_fold)))
local macro_rules | `(tactic| walk_at "call ref") => `(tactic| (k_here; (with_reducible show wpAny _ _ (call (Value.ref 58) [Value.ref _]) _ _ _); k_dflt (refine' c4 ?B ?F ?X ?N ?T ?k ?hd ?hu ?C ?_; (case B => k_asm); (case F => k_asm); (case X => k_asm); (case N => k_asm); (case T => k_asm); (case k => first | exact rfl | assumption); (case hd => ktr_room); (case hu => ktr_units); (case C => exact CntAt.mono (by assumption) (by kcf_all))); intro t' h' tk' F' N'; (try k_fold)))
local macro_rules | `(tactic| walk_at "call ref") => `(tactic| (k_here; (with_reducible show wpAny _ _ (call (Value.ref 51) [Value.ref _, Value.ref _]) _ _ _); k_dflt (refine' c5 ?B ?F ?X ?N ?T ?k ?hd ?hu ?C ?C1 ?hl ?_; (case B => k_asm); (case F => k_asm); (case X => k_asm); (case N => k_asm); (case T => k_asm); (case k => first | exact rfl | assumption); (case hd => ktr_room); (case hu => ktr_units); (case C => exact CntAt.mono (by assumption) (by kcf_all)); (case C1 => exact CntAt.mono (by assumption) (by kcf_all)); (case hl => assumption)); intro D' o' h' tk' F' N' l1 hC'; (try k_lt l1); (try k_fold)))
local macro_rules | `(tactic| walk_at "newTuple") => `(tactic| (k_here; k_dflt (refine' kup_newTuple ?F ?N ?_ ?z; (case F => k_asm); (case N => k_asm); (case z => kmk_size)); intro D' h' F' N' l1; (try k_lt l1); (try k_sweep)))
local macro_rules | `(tactic| walk_at "subscriptTail") => `(tactic| (k_here; (with_reducible show wpAny _ _ (subscriptTail _ _ (Value.ref _) (Value.int _ _)) _ _ _); (with_unfolding_all refine' ints_item ?l ?i ?z ?k ?b ?_ ?s; (case l => exact News.isList (by k_asm) (by k_mem)); (case i => first | assumption | exact .cons _ _ (.cons _ _ (.cons _ _ (.cons _ _ .nil)))); (case z => omega); (case k => first | (simp only [List.length_cons, List.length_nil]; omega) | (rw [depthsOf_length]; omega)); (case b => first | (simp only [List.length_cons, List.length_nil]; omega) | (rw [depthsOf_length]; omega)); (case s => with_unfolding_all rfl); k_whole); intro t'))
local macro_rules | `(tactic| walk_at "ite") => `(tactic| (refine ite_bne (by first | with_reducible assumption | (exact fk_use (by with_reducible assumption) (by omega) (by omega))) ?_))
local macro_rules | `(tactic| walk_at "call builtin:len") => `(tactic| (k_here; (with_reducible show wpAny _ _ (call _ [Value.ref _]) _ _ _); (refine len_strs (News.isList (by k_asm) (by k_mem)) (by assumption) (by assumption) ?_); intro t' k'))
local macro_rules | `(tactic| walk_at "CompEnd") => `(tactic| (first
  | refine ci_end_el (by assumption) (by assumption) (by kcf_all) (by first | assumption | (simp only [LCg.Off3, and_true]; done) | (simp only [LCg.Off3, and_true]; assumption)) (by first | lcg_src | assumption) ?_
  | refine ci_end_no (by assumption) (by assumption) (by kcf_all) (by first | assumption | (simp only [LCg.Off3, and_true]; done) | (simp only [LCg.Off3, and_true]; assumption)) (by first | lcg_src | assumption) ?_))
local macro_rules | `(tactic| walk_at "ite") => `(tactic| (refine ite_fold ?_))
local macro_rules | `(tactic| walk_at "binaryOp Mod int int") => `(tactic| (k_here; refine PyProof.Rows.mod_int (by with_reducible assumption) ?_))
local macro_rules | `(tactic| walk_at "subscriptTail") => `(tactic| (k_here; (with_reducible show wpAny _ _ (subscriptTail _ _ (Value.ref _) (Value.int (Int.fmod _ _) _)) _ _ _); (with_unfolding_all refine' item_strs ?l ?i ?z ?k ?b ?P ?R ?_ ?s; (case l => exact News.isList (by k_asm) (by k_mem)); (case i => assumption); (case z => exact Int.fmod_nonneg_of_pos _ (by omega)); (case k => exact Int.fmod_lt_of_pos _ (by omega)); (case b => assumption); (case P => assumption); (case R => assumption); (case s => with_unfolding_all rfl); k_whole); intro x' t' hx' hr' hp' hl'; (refine Stop.out ?_)))
local macro_rules | `(tactic| walk_at "eval ListComp") => `(tactic| (k_here; (with_reducible show wpAny _ _ (eval (PySem.Expr.ListComp _ [⟨_, PySem.Expr.Name _ _, _, _⟩] _ _) _) _ _ _); k_dflt (refine ListComp_S (by k_asm) (by with_unfolding_all rfl) (by decide) (by rfl) (by decide) (by rfl) ?_)))
local macro_rules | `(tactic| walk_at "SrcS") => `(tactic| (k_here; k_dflt (refine SrcS.intro (by rfl) (by k_asm) (by k_asm) (by assumption) (by assumption) ?_; intro g'; (refine' st_chars (by assumption) (fun t' I' oI' C' oC' D' m' ys' h' tk' E' hC' hx' F' N' off' ne' hMark' => ?_) (fun t' I' oI' C' oC' D' m' ys' h' tk' E' hC' hx' F' N' off' ne' hMark' => ?_) ?_); (all_goals (try (simp only [LCg.Off3, and_true] at off'))); kcf_last)))
local macro_rules | `(tactic| walk_at "CompEnd") => `(tactic| (refine ct_end (by assumption) (by assumption) (by kcf_all) (by first | assumption | (simp only [LCg.Off3, and_true]; done) | (simp only [LCg.Off3, and_true]; assumption)) (by first | lcg_src | assumption | trivial) ?_))
local macro_rules | `(tactic| walk_at "KCtEl") => `(tactic| ((refine kct_el ?kce (by with_unfolding_all rfl) (by with_unfolding_all rfl)); (case kce => decide +kernel)))
local macro_rules | `(tactic| walk_at "call builtin:str.join") => `(tactic| (k_here; (with_reducible show wpAny _ _ (call (Value.builtin "str.join") [Value.str _ _, Value.ref _]) _ _ _); (refine join_flip (by assumption) (News.isList (by k_asm) (by k_mem)) (by assumption) (by assumption) ?_); intro t' k' hpo' hlo'))
local macro_rules | `(tactic| walk_at "call ref") => `(tactic| (k_here; (with_reducible show wpAny _ _ (call (Value.ref 63) [Value.str _ _]) _ _ _); k_dflt (refine' c2 ?B ?F ?X ?N ?T ?k ?hd ?hu ?hs ?hq ?_; (case B => k_asm); (case F => k_asm); (case X => k_asm); (case N => k_asm); (case T => k_asm); (case k => first | exact rfl | assumption); (case hd => ktr_room); (case hu => ktr_units); (case hs => kt_fact); (case hq => first | assumption)); intro D' ys' h' tk' F' N' o1' hI'; (try simp only [LCg.Off1] at o1'); (try k_fold)))
local macro_rules | `(tactic| walk_at "ite") => `(tactic| (refine ite_depths (by with_reducible assumption) ?_))
local macro_rules | `(tactic| walk_at "ite") => `(tactic| (refine ite_count (by with_reducible assumption) ?_))
local macro_rules | `(tactic| walk_at "ite") => `(tactic| (refine ite_flip (by with_reducible assumption) ?_))
local macro_rules | `(tactic| walk_at "eval ListComp") => `(tactic| (k_here; lct_look; k_dflt (refine LCt.ListComp_T (F₀ := by k_asm) (by with_unfolding_all rfl) (by decide) (by rfl) (by decide) (by rfl) ?_)))
local macro_rules | `(tactic| walk_at "CompSrcT") => `(tactic| (k_here; k_dflt (refine LCt.CompSrcT.range (by rfl) (by k_asm) (by k_asm) (by assumption) (by with_reducible first | exact small_len (by assumption) | exact small_len1 (by assumption)) (by exact rangeSize_nat _ _) (by with_reducible first | exact size_len (by assumption) | exact size_len1 (by assumption)) ?_; intro g'; (refine' kci_range _ (fun k' t' I' oI' C' oC' D' m' ys' l' h' tk' E' hlo' hhi' hI' hC' hx' F' N' off' ne' => ?_) ?_ ?_); (all_goals (try (simp only [LCg.Off3, and_true] at off'))); (all_goals (try ((show KPfMark → _); intro hMark'))); kcf_last)))
local macro_rules | `(tactic| walk_at "eval Dict") => `(tactic| (k_here; (with_reducible refine dict_made (by with_unfolding_all rfl) (by with_unfolding_all assumption) (by with_unfolding_all assumption) (modules_low (by first | assumption | exact Glob.nolimit (by assumption))) (by with_unfolding_all rfl) (by with_unfolding_all rfl) (List.cons_ne_nil _ _) (by with_unfolding_all decide) ?_); intro d' o' h' F' N' l1 lo' hi'; (try k_lt l1)))
local macro_rules | `(tactic| walk_at "TupStores") => `(tactic| (k_here; k_dflt (refine' one_store ?u ?F ?N ?lo ?hi key_made ?T ?r ?_; (case u => ktr_units); (case F => k_asm); (case N => k_asm); (case lo => assumption); (case hi => assumption); (case T => omega); (case r => k_all)); intro h' o' tk' F' N' hC'))
local macro_rules | `(tactic| walk_at "getMethod ref") => `(tactic| (k_here; (with_reducible show wpAny _ _ (getMethod (Value.ref _) (PySem.Str.ofString "get") _) _ _ _); (refine' cnt_method PySem.F.slot_dict_get PySem.F.type_dict_get ?C ?N ?_; (case N => k_asm); (case C => exact CntAt.mono (by assumption) (by kcf_all)))))
local macro_rules | `(tactic| walk_at "call builtin:dict.get") => `(tactic| (k_here; k_dflt (refine' cnt_dget ?u ?N ?C ?k key_made ?_; (case u => ktr_units); (case N => k_asm); (case C => exact CntAt.mono (by assumption) (by kcf_all)); (case k => k_mem)); intro t'))
local macro_rules | `(tactic| k_all) => `(tactic| exact ne_gt (by assumption) (by omega))
local macro_rules | `(tactic| walk_at "subscriptTail Name Name ref int") => `(tactic| (k_here; (with_reducible show wpAny _ _ (subscriptTail _ _ (Value.ref _) (Value.int _ _)) _ _ _); k_dflt (with_unfolding_all refine' depth_item1 ?l ?i ?b ?z ?k ?_ ?s; (case l => exact News.isList (by k_asm) (by k_mem)); (case i => assumption); (case b => assumption); (case z => assumption); (case k => assumption); (case s => with_unfolding_all rfl); k_whole); intro t'))
local macro_rules | `(tactic| walk_at "subscriptTail Name Name ref int") => `(tactic| (k_here; (with_reducible show wpAny _ _ (subscriptTail _ _ (Value.ref _) (Value.int _ _)) _ _ _); k_dflt (with_unfolding_all refine' depth_item ?l ?i ?b ?z ?k ?_ ?s; (case l => exact News.isList (by k_asm) (by k_mem)); (case i => assumption); (case b => assumption); (case z => assumption); (case k => assumption); (case s => with_unfolding_all rfl); k_whole); intro t'))
local macro_rules | `(tactic| walk_at "subscriptTail Name Name str int") => `(tactic| (k_here; (with_reducible show wpAny _ _ (subscriptTail _ _ (Value.str _ _) (Value.int _ _)) _ _ _); (refine' str_item ?l ?z ?k ?_; (case l => assumption); (case z => assumption); (case k => assumption)); intro t' k'))
local macro_rules | `(tactic| k_ne) => `(tactic| (refine neN ?_; (try dsimp only); (with_reducible first | assumption | exact Ne.symm (by assumption) | exact ne45 _ | exact ne25 _)))
local macro_rules | `(tactic| walk_at "storeName") => `(tactic| (k_here; (with_reducible show wpAny _ _ (storeName _ _ (Value.ref _)) _ _ _); (with_reducible rename RowF _ _ => hr'); (repeat (with_reducible rename _ ∧ _ => q; rcases q with ⟨_, _⟩)); k_dflt (refine' storeX_C ?F ?N ?c ?U ?d ?_ ?aa ?bb; (case aa => rfl); (case bb => rfl); (case F => k_asm); (case N => k_asm); (case c => rfl); (case U => k_updF); (case d => k_asm); k_whole); intro h' o' F' N' d'; (try dsimp only at N'); (try k_sweep)))
local macro_rules | `(tactic| walk_at "call builtin:len") => `(tactic| (k_here; (with_reducible show wpAny _ _ (call _ [Value.ref _]) _ _ _); k_dflt (refine' len_cuts ?ll ?ii ?bb ?_; (case ll => exact News.isList (by k_asm) (by k_mem)); (case ii => with_reducible assumption); (case bb => assumption)); intro t' k'))
local macro_rules | `(tactic| walk_at "CompSrc") => `(tactic| (k_here; k_dflt (refine LCg.CompSrc.range (by rfl) (by k_asm) (by k_asm) (by assumption) (by with_reducible exact small_cuts (by assumption)) (by exact rangeSize_nat _ _) (by with_reducible exact size_cuts (by assumption)) ?_; intro g'; (refine' kcf_range _ (fun k' t' I' oI' C' oC' D' m' ys' h' tk' E' hlo' hhi' hC' hx' F' N' off' ne' hMark' => ?_) ?_); (all_goals (try (simp only [LCg.Off3, and_true] at off'))); kcf_last)))
local macro_rules | `(tactic| walk_at "subscriptTail Name Name ref int") => `(tactic| (k_here; (with_reducible show wpAny _ _ (subscriptTail _ _ (Value.ref _) (Value.int _ _)) _ _ _); k_dflt (with_unfolding_all refine' cut_here ?l ?i ?b ?z ?k ?_ ?s; (case l => exact News.isList (by k_asm) (by k_mem)); (case i => with_reducible assumption); (case b => assumption); (case z => assumption); (case k => assumption); (case s => with_unfolding_all rfl); k_whole); intro t'))
local macro_rules | `(tactic| walk_at "subscriptTail Name BinOp ref int") => `(tactic| (k_here; (with_reducible show wpAny _ _ (subscriptTail _ _ (Value.ref _) (Value.int (_ - 1) _)) _ _ _); k_dflt (with_unfolding_all refine' cut_prev ?l ?i ?b ?z ?k ?_ ?s; (case l => exact News.isList (by k_asm) (by k_mem)); (case i => with_reducible assumption); (case b => assumption); (case z => assumption); (case k => assumption); (case s => with_unfolding_all rfl); k_whole); intro t'))
local macro_rules | `(tactic| walk_at "call ref") => `(tactic| (k_here; (with_reducible show wpAny _ _ (call (Value.ref 68) [Value.str (Txt.slice _ _ _) _]) _ _ _); k_dflt (refine' c3 ?B ?F ?X ?N ?T ?k ?hd ?hu ?hs ?hq ?_; (case B => k_asm); (case F => k_asm); (case X => k_asm); (case N => k_asm); (case T => k_asm); (case k => first | exact rfl | assumption); (case hd => ktr_room); (case hu => ktr_units); (case hs => exact slice_100 (by assumption)); (case hq => exact Par.slice (by assumption) _ _)); intro t' h' tk' F' N'; (try k_fold)))
local macro_rules | `(tactic| walk_at "call builtin:sum") => `(tactic| (k_here; (with_reducible show wpAny _ _ (call (Value.builtin "sum") [Value.ref _]) _ _ _); (with_unfolding_all refine' sumK ?k0 ?k1 ?k2 ?k3 ?k4 ?_; (case k0 => with_unfolding_all rfl); (case k1 => k_asm); (case k2 => k_asm); (case k3 => exact News.isList (by k_asm) (by k_mem)); (case k4 => assumption); k_whole); intro h' tk' t' F' N'))
local macro_rules | `(tactic| walk_at "compareOp Eq int int") => `(tactic| (k_here; with_reducible refine eq_parts (by assumption) ?_))
local macro_rules | `(tactic| wrow_close) => `(tactic| (w_end; (show GoodW _ _ _ _ _ (.ok (.ret (.bool true))) _); refine' goodW_bool ?A1 ?A2 (raisesW_false ?A3) ?A4; (case A1 => with_reducible assumption); (case A2 => assumption); (case A3 => wrow_none_raised); (case A4 => with_unfolding_all rfl)))
set_option maxRecDepth 100000 in
set_option maxHeartbeats 8000000 in
theorem t : PySem.Challenge.rw_gg0001_01.Holds := hd (by
  k_go0
  all_goals (try k_fold)
  k_steps
  refine law_loop (by rfl) (by k_asm) (by k_asm) (by assumption) (by assumption) (by assumption) (by omega) (by assumption) (by assumption) ?_ (fun x hx => ⟨rowsF_par _ _ _ _ hx, rowsF_100 hx (by omega)⟩) ?_ ?_
  · exact Nat.le_trans (rowsF_len _ _ _) (by decide)
  · intro I x t h tk it o1 o2 v2 d pre kvs hP hx e1 e2 hne hneI hpre C hlen hit F N
    k_steps
    refine row_end (by assumption) (by assumption) (by assumption) (by assumption) (by assumption) (by assumption) (by assumption) (by assumption) (by assumption) hit rfl hpre (by omega) (by omega) hne hneI
  · rename StrsAre _ _ => hS0
    clear hS0
    rename Int => n
    intro rs kv h tk o1 o2 v2 d pre hrs hkv hS e1 e2 hpre C F N
    have hpk := pick_of N
    have hf : Facts n rs kv := ⟨by assumption, by assumption, hrs, hrs ▸ hkv⟩
    clear hrs hkv
    have f0 := facts0 hf
    have fP := factsP hf
    have f5 := facts5 hf
    have fR := factsR hf
    have f1 := facts1 hf
    have f2 := facts2 hf
    have f3 := facts3 hf
    have f4 := facts4 hf
    k_steps
    clear hS hpre C f0 fP f5 fR f1 f2 f3 f4 hf e1
    rename News _ _ _ _ => NN
    have N2 := cut_with hpk NN (by kcf_all)
    clear NN hpk
    repeat (with_reducible rename _ ∧ _ => q; clear q)
    repeat (with_reducible rename IntsAre _ _ => q; clear q)
    repeat (with_reducible rename IsRange _ _ _ _ _ _ _ _ => q; clear q)
    repeat (with_reducible rename PyProof.V.FlatPairs _ _ _ => q; clear q)
    repeat (with_reducible rename Obj.IsDictOf _ _ _ => q; clear q)
    rename _ ∈ _ => q
    clear q
    refine Stop.mk ?_
    k_steps)
end Mine
end
set_option maxRecDepth 100000 in
set_option maxHeartbeats 8000000 in
theorem PySem.Challenge.cw_gg0001_01_holds : PySem.Challenge.rw_gg0001_01.Holds := by
  exact Mine.t
