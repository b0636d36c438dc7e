import PyProof.Rows.All
import Wide.All
import OpenK.AllK
import Wide.FinOn
import PySem.Challenge.RW_fb5003_01
open PySem PySem.W PyProof.Rows
set_option Elab.async false
namespace Mine
set_option maxRecDepth 100000 in
set_option maxHeartbeats 8000000 in
open_top hd for PySem.Challenge.rw_fb5003_01
end Mine

section
open PySem PySem.W PyProof.Rows
set_option Elab.async false
set_option maxRecDepth 100000
namespace Mine
open PySem PySem.Calls PySem.W PyProof.Rows

def fmtB : Builtin.Struct.Format := { bigEndian := false, native := true, codes := [⟨'B', 1, 0, 1⟩], size := 1, items := 1 }

theorem fmt_B (t : Tok) : Builtin.Struct.moduleFormat (.str (Str.ofString "B") t) = pure fmtB := by
  with_unfolding_all rfl

section
variable {prog : Program} {w : World} {A : Around} {E : Value → Shared → Prop} {s : Shared}

theorem kind_pack : builtinKind "_struct.pack" = none := by decide +kernel
theorem plain_pack : plainId "_struct.pack" = true := by decide +kernel
theorem entry_pack : entryFor table "_struct.pack" = some Builtin.«_struct.pack» := entryFor_of_fast (by kernel_rfl)
theorem args_pack (a b : Value) : argsOk "_struct.pack" ⟨[a, b], []⟩ := by unfold argsOk; kernel_rfl

theorem pack_tree (t u : Tok) (n : Int) : Builtin.«_struct.pack» ⟨[.str (Str.ofString "B") t, .int n u], []⟩ =
    (do let f ← Builtin.Struct.moduleFormat (.str (Str.ofString "B") t); Builtin.Struct.packed "_struct.pack" "pack" f [.int n u]) := by
  with_unfolding_all rfl

def putB : Array UInt8 → Nat → Array UInt8 → Sem (Array UInt8) := fun out p raw => pure (raw.toList.zipIdx.foldl (fun out (c, k) => out.setIfInBounds (p + k) c) out)
theorem packed_B (n : Int) (u : Tok) : Builtin.Struct.packed "_struct.pack" "pack" fmtB [.int n u] =
    (do let b ← Builtin.Struct.packEach "_struct.pack" fmtB [.int n u] #[0] putB; let v ← mkBytes b; ret v) := by
  with_unfolding_all rfl
def oneB (n : Int) : Sem (Array UInt8) := do
  if n < 0 || n > 255 then rule "struct.pack.out-of-range"; Builtin.Struct.structError s!"'{'B'}' format requires {(0 : Int)} <= number <= {(255 : Int)}"
  return Builtin.Struct.intBytes false 1 n
theorem packEach_B_tree (n : Int) (u : Tok) : Builtin.Struct.packEach "_struct.pack" fmtB [.int n u] #[0] putB = (oneB n >>= fun r => putB #[0] 0 r) := by
  unfold Builtin.Struct.packEach
  have c1 : ('B' == 'x') = false := by decide
  have c2 : ('B' == 's' || 'B' == 'p') = false := by decide
  simp only [fmtB, List.forIn_cons, List.forIn_nil, c1, c2, Bool.false_eq_true, if_false, Std.Legacy.Range.forIn_eq_forIn_range', Std.Legacy.Range.size, List.range', Nat.sub_zero, Nat.add_sub_cancel, Nat.div_one, bind_assoc, pure_bind, bind_pure, Nat.zero_mul, Nat.zero_add]
  with_unfolding_all rfl
theorem oneB_eq {n : Int} (h0 : 0 ≤ n) (h1 : n < 256) : oneB n = pure (Builtin.Struct.intBytes false 1 n) := by
  unfold oneB
  have e : (decide (n < 0) || decide (n > 255)) = false := by simp; omega
  rw [e]
  rfl
theorem intB {n : Int} (h0 : 0 ≤ n) (h1 : n < 256) : Builtin.Struct.intBytes false 1 n = #[n.toNat.toUInt8] := by
  have e : (n % 2 ^ (8 * 1)).toNat = n.toNat := by omega
  unfold Builtin.Struct.intBytes
  simp only [e, Bool.false_eq_true, if_false, Builtin.Memoryview.toLittleEndian]
  have e2 : n.toNat / 256 ^ 0 % 256 = n.toNat := by omega
  show #[(n.toNat / 256 ^ 0 % 256).toUInt8] = _
  rw [e2]
theorem packEach_B {n : Int} (h0 : 0 ≤ n) (h1 : n < 256) (u : Tok) : Builtin.Struct.packEach "_struct.pack" fmtB [.int n u] #[0] putB = pure #[n.toNat.toUInt8] := by
  rw [packEach_B_tree, oneB_eq h0 h1, pure_bind, intB h0 h1]
  rfl

theorem pack_B {n : Int} {t u : Tok} {Q : Value → Shared → Prop} (h0 : 0 ≤ n) (h1 : n < 256)
    (h : ∀ t' k, Q (.bytes #[n.toNat.toUInt8] t') { s with toks := k }) :
    wpAny (model prog w) A (call (.builtin "_struct.pack") [.str (Str.ofString "B") t, .int n u]) Q E s := by
  refine call_function_entry kind_pack plain_pack entry_pack (args_pack _ _) ?_
  rw [pack_tree, fmt_B, pure_bind]
  rw [packed_B, packEach_B h0 h1, pure_bind]
  exact wpAny_bind (wpAny_mono (wpAny_mkBytes (h _ _)) (fun v s' hv => wpAny_pure ⟨v, rfl, hv⟩) fun _ _ e => e)
end
end Mine
end

section
open PySem PySem.W PyProof.Rows
set_option Elab.async false
set_option maxRecDepth 100000
namespace Mine
open PySem PySem.Calls PySem.W PyProof.Rows
section
variable {prog : Program} {w : World} {A : Around} {E : Value → Shared → Prop} {s : Shared}

theorem bb_new : typeLookup (.type "bytes") "__bytes__" = pure (some (.builtin "bytes.__bytes__")) := by rw [typeLookup_type, builtinLookup_eq_fast]; kernel_rfl
theorem call_bytes_bytes {b : Array UInt8} {t : Tok} {Q : Value → Shared → Prop} (h : Q (.bytes b t) s) : wpAny (model prog w) A (call (.type "bytes") [.bytes b t]) Q E s := by
  refine callType_codes (Q₁ := fun obj s₁ => s₁.TypeIs obj "bytes" ∧ Q obj s₁) F.bm_called (F.bm_typeCall _) F.entry_object_init ?_ fun obj s₁ h₁ => ?_
  · refine codeAny_of_tree ?_
    show wpAny _ A.in1.in1 (do checkBuiltinCall "bytes.__new__" ⟨[.type "bytes", .bytes b t], []⟩; again (.builtin "bytes.__new__" ⟨[.type "bytes", .bytes b t], []⟩)) _ _ s
    refine wpAny_bind (wpAny_of_eq (F.bm_newCall _) (wpAny_pure ⟨plainId_quiet F.bm_plain _, codeAny_builtin F.bm_entry ?_⟩))
    rw [Around.under_plainId F.bm_plain _]
    unfold Builtin.«bytes.__new__»
    refine wpAny_bind (wpAny_of_eq (a := true) rfl ?_)
    refine bm_if_false rfl ?_
    refine wpAny_bind (wpAny_of_eq F.bm_sub ?_)
    refine bm_if_false rfl ?_
    refine wpAny_bind (wpAny_of_eq (F.bm_bind _) ?_)
    refine wpAny_bind (wpAny_of_eq (a := ()) rfl ?_)
    refine wpAny_bind (wpAny_of_eq (a := ()) rfl ?_)
    refine bm_if_false rfl ?_
    refine wpAny_bind (wpAny_specialOf (PySem.W.typeIs_bytes _ _ _) bb_new ?_)
    dsimp only
    refine wpAny_bind (wpAny_rule ?_)
    refine wpAny_bind (wpAny_of_eq (a := Value.type "bytes") rfl ?_)
    refine bm_if_true (by decide) ?_
    first
      | exact wpAny_pure ⟨PySem.W.typeIs_bytes _ _ _, h⟩
      | exact wpAny_bind (wpAny_pure (wpAny_pure ⟨PySem.W.typeIs_bytes _ _ _, h⟩))
  · exact ⟨h₁.1, F.args_object_init_2 obj _, object_init_meets F.bm_called.init.lookup F.bm_called.made (by decide) prog w A.in1 _ s₁ ⟨h₁.1, rfl, h₁.2⟩⟩

/-- plain data: nothing, a number, octets -/
inductive Fl where
  | none
  | int (i : Int)
  | byt (b : List UInt8)
  deriving DecidableEq
inductive FlIs : Value → Fl → Prop
  | none : FlIs .none .none
  | int (i : Int) (t : Tok) : FlIs (.int i t) (.int i)
  | byt (b : List UInt8) (t : Tok) : FlIs (.bytes b.toArray t) (.byt b)
/-- of one kind -/
def Fl.kin : Fl → Fl → Bool
  | .none, .none => true
  | .int _, .int _ => true
  | .byt _, .byt _ => true
  | _, _ => false
def Fl.lt : Fl → Fl → Bool
  | .int a, .int b => decide (a < b)
  | .byt a, .byt b => Builtin.Bytes.order a b == .lt
  | _, _ => false

theorem eqBool_none {Q : Bool → Shared → Prop} (h : Q true s) : wpAny (model prog w) A (eqBool .none .none) Q E s := by
  refine wpAny_holding ?_
  rw [if_pos (by decide)]
  exact wpAny_bind (wpAny_rule (wpAny_pure h))
theorem eqBool_fl {v u : Value} {a b : Fl} (hv : FlIs v a) (hu : FlIs u b) (hk : a.kin b = true) {Q : Bool → Shared → Prop} (h : Q (decide (a = b)) s) : wpAny (model prog w) A (eqBool v u) Q E s := by
  cases hv with
  | none => cases hu with
    | none => exact eqBool_none (by simpa using h)
    | int => cases hk
    | byt => cases hk
  | int i t => cases hu with
    | none => cases hk
    | int j u =>
      refine wpAny_eqBool_int ?_
      have e : (i == j) = decide (Fl.int i = Fl.int j) := by
        by_cases q : i = j
        · subst q; simp
        · simp [q]
      rw [e]; exact h
    | byt => cases hk
  | byt x t => cases hu with
    | none => cases hk
    | int => cases hk
    | byt y u =>
      refine eqBool_bytes ?_
      have e : decide (x.toArray.toList = y.toArray.toList) = decide (Fl.byt x = Fl.byt y) := by
        by_cases q : x = y
        · subst q; simp
        · simp [q]
      rw [e]; exact h

theorem gives_bytes_lt (b c : Array UInt8) (t u : Tok) : Gives (Builtin.«bytes.__lt__» ⟨[.bytes b t, .bytes c u], []⟩) (.val (.bool (Builtin.Bytes.order b.toList c.toList == .lt))) := by
  refine .of_wp fun M A E s Q hq => ?_
  show wpAny M A (isInstance (.bytes c u) (.type "bytes") >>= fun r => _) _ E s
  refine wpAny_bind (wpAny_isInstance (PySem.W.typeIs_bytes s c u) F.sub_bytes_bytes ?_)
  exact wpAny_pure ⟨_, rfl, hq⟩
theorem slot_bytes_lt : Slot "bytes" (cmpInfo .Lt).2.1 "bytes.__lt__" :=
  .of (owner := "bytes") (n := "__lt__") (by rw [typeLookup_type, builtinLookup_eq_fast]; kernel_rfl) (by decide +kernel) (by decide +kernel) (by decide +kernel)
    (by first | exact .inl (by decide +kernel) | exact .inr (by decide +kernel)) (by rw [isSubtype_type]; kernel_rfl)
theorem entry_bytes_lt : entryFor table "bytes.__lt__" = some Builtin.«bytes.__lt__» := entryFor_of_tree (by kernel_rfl)
theorem args_bytes_lt (a b : Value) : argsOk "bytes.__lt__" ⟨[a, b], []⟩ := by unfold argsOk; kernel_rfl
theorem rich_lt_fl {v u : Value} {a b : Fl} (hv : FlIs v a) (hu : FlIs u b) (hk : a.kin b = true) (hne : a ≠ b) {Q : Value → Shared → Prop} (h : Q (.bool (a.lt b)) s) : wpAny (model prog w) A (richCompare .Lt v u) Q E s := by
  cases hv with
  | none => cases hu with
    | none => exact absurd rfl hne
    | int => cases hk
    | byt => cases hk
  | int i t => cases hu with
    | none => cases hk
    | int j u => exact lt_int h
    | byt => cases hk
  | byt x t => cases hu with
    | none => cases hk
    | int => cases hk
    | byt y u => exact compareOp_gives (op := .Lt) (PySem.W.typeIs_bytes s _ t) (PySem.W.typeIs_bytes s _ u) slot_bytes_lt entry_bytes_lt (args_bytes_lt _ _) (gives_bytes_lt _ _ t u) (fun e => nomatch e) h

inductive FlAll : List Value → List Fl → Prop where
  | nil : FlAll [] []
  | cons {v : Value} {d : Fl} {vs : List Value} {ds : List Fl} : FlIs v d → FlAll vs ds → FlAll (v :: vs) (d :: ds)
theorem FlAll.length : ∀ {vs : List Value} {ds : List Fl}, FlAll vs ds → vs.length = ds.length
  | _, _, .nil => rfl
  | _, _, .cons _ h => by simp [h.length]
/-- comparable: of one kind up to the first place where they differ -/
def KinL : List Fl → List Fl → Prop
  | x :: xs, y :: ys => x.kin y = true ∧ (x = y → KinL xs ys)
  | _, _ => True
def lexLt : List Fl → List Fl → Bool
  | [], [] => false
  | [], _ :: _ => true
  | _ :: _, [] => false
  | x :: xs, y :: ys => if x = y then lexLt xs ys else x.lt y

def tupCmp (op : CmpOp) (a b : Value) : Sem PySem.Fin := do
  if !(← isInstance b (.type "tuple")) then return ← ret .notImplemented
  let xs ← Builtin.Tuple.tupleItemsOf a
  let ys ← Builtin.Tuple.tupleItemsOf b
  for (x, y) in xs.toList.zip ys.toList do
    if !(← eqBool x y) then
      match op with
      | .Eq => return ← ret (.bool false)
      | .NotEq => return ← ret (.bool true)
      | _ => rule "tuple.compare.by-the-first-pair-that-differs"; return ← ret (← richCompare op x y)
  ret (Builtin.Tuple.tupleCompareSizes op xs.size ys.size)
theorem tup_lt_eq (a b : Value) : Builtin.«tuple.__lt__» ⟨[a, b], []⟩ = tupCmp .Lt a b := by with_unfolding_all rfl
theorem tup_eq_eq (a b : Value) : Builtin.«tuple.__eq__» ⟨[a, b], []⟩ = tupCmp .Eq a b := by with_unfolding_all rfl
theorem tup_ne_eq (a b : Value) : Builtin.«tuple.__ne__» ⟨[a, b], []⟩ = tupCmp .NotEq a b := by with_unfolding_all rfl

def firstDiff : List Fl → List Fl → Option (Fl × Fl)
  | x :: xs, y :: ys => if x = y then firstDiff xs ys else some (x, y)
  | _, _ => none
theorem lexLt_first : ∀ ds es : List Fl, lexLt ds es = match firstDiff ds es with | none => decide (ds.length < es.length) | some p => p.1.lt p.2
  | [], [] => rfl
  | [], _ :: _ => by simp [lexLt, firstDiff]
  | _ :: _, [] => by simp [lexLt, firstDiff]
  | x :: xs, y :: ys => by
    unfold lexLt firstDiff
    by_cases h : x = y
    · rw [if_pos h, if_pos h, lexLt_first xs ys]
      cases firstDiff xs ys <;> simp
    · rw [if_neg h, if_neg h]
theorem eq_first : ∀ ds es : List Fl, decide (ds = es) = match firstDiff ds es with | none => (ds.length == es.length) | some _ => false
  | [], [] => rfl
  | [], _ :: _ => by simp [firstDiff]
  | _ :: _, [] => by simp [firstDiff]
  | x :: xs, y :: ys => by
    unfold firstDiff
    by_cases h : x = y
    · subst h
      rw [if_pos rfl]
      have ih := eq_first xs ys
      have e : decide (x :: xs = x :: ys) = decide (xs = ys) := by simp
      rw [e, ih]
      cases firstDiff xs ys <;> simp
    · rw [if_neg h]
      simp [h]
theorem kin_first : ∀ {ds es : List Fl}, KinL ds es → ∀ p, firstDiff ds es = some p → p.1.kin p.2 = true ∧ p.1 ≠ p.2
  | [], [], _, _, h => by cases h
  | [], _ :: _, _, _, h => by cases h
  | _ :: _, [], _, _, h => by cases h
  | x :: xs, y :: ys, hk, p, h => by
    unfold firstDiff at h
    by_cases q : x = y
    · rw [if_pos q] at h
      exact kin_first (hk.2 q) p h
    · rw [if_neg q] at h
      cases h
      exact ⟨hk.1, q⟩

def tupFin : CmpOp → Fl → Fl → Bool
  | .Eq, _, _ => false
  | .NotEq, _, _ => true
  | _, x, y => x.lt y
theorem tup_loop {fin : Fl → Fl → Bool} {R : Option PySem.Fin × Unit → Shared → Prop} {body : Value × Value → Option PySem.Fin × Unit → Sem (ForInStep (Option PySem.Fin × Unit))}
    (hb : ∀ v u a b (R' : ForInStep (Option PySem.Fin × Unit) → Shared → Prop), FlIs v a → FlIs u b → a.kin b = true →
      (a = b → R' (.yield (none, ())) s) → (a ≠ b → R' (.done (some (.done (.ret (.bool (fin a b)))), ())) s) → wpAny (model prog w) A (body (v, u) (none, ())) R' E s) :
    ∀ {xs ys : List Value} {ds es : List Fl}, FlAll xs ds → FlAll ys es → KinL ds es →
      (match firstDiff ds es with | none => R (none, ()) s | some p => R (some (.done (.ret (.bool (fin p.1 p.2)))), ()) s) →
      wpAny (model prog w) A (forIn (xs.zip ys) (none, ()) body) R E s
  | _, _, _, _, .nil, .nil, _, h => by rw [List.zip_nil_left, List.forIn_nil]; exact wpAny_pure h
  | _, _, _, _, .nil, .cons _ _, _, h => by rw [List.zip_nil_left, List.forIn_nil]; exact wpAny_pure h
  | _, _, _, _, .cons _ _, .nil, _, h => by rw [List.zip_nil_right, List.forIn_nil]; exact wpAny_pure h
  | _, _, _, _, .cons (v := v) (d := a) hv hx, .cons (v := u) (d := b) hu hy, hk, h => by
    rw [List.zip_cons_cons, List.forIn_cons]
    refine wpAny_bind (hb v u a b _ hv hu hk.1 (fun q => ?_) fun q => ?_)
    · unfold firstDiff at h
      rw [if_pos q] at h
      exact tup_loop hb hx hy (hk.2 q) h
    · unfold firstDiff at h
      rw [if_neg q] at h
      exact wpAny_pure h

theorem sub_tup : isSubtype (.type "tuple") (.type "tuple") = pure true := by rw [isSubtype_type]; kernel_rfl
def tupRes : CmpOp → List Fl → List Fl → Bool
  | .Eq, ds, es => decide (ds = es)
  | .NotEq, ds, es => !decide (ds = es)
  | _, ds, es => lexLt ds es

theorem tup_typeIs {a : Addr} {xs : Array Value} (h : IsTup s.heap a xs) : s.TypeIs (.ref a) "tuple" := by
  obtain ⟨o, ho, hc, _⟩ := h
  exact ⟨o, ho, hc⟩
theorem tup_run {op : CmpOp} (hop : op = .Eq ∨ op = .NotEq ∨ op = .Lt) {a b : Addr} {xs ys : List Value} {ds es : List Fl} (ha : IsTup s.heap a xs.toArray) (hb : IsTup s.heap b ys.toArray) (hx : FlAll xs ds) (hy : FlAll ys es) (hk : KinL ds es)
    {Q : Value → Shared → Prop} (h : Q (.bool (tupRes op ds es)) s) : wpAny (model prog w) A (tupCmp op (.ref a) (.ref b)) (fun fin s' => ∃ v, fin = .done (.ret v) ∧ Q v s') E s := by
  have hbT := tup_typeIs hb
  obtain ⟨oa, hoa, hca, na, hda⟩ := ha
  obtain ⟨ob, hob, hcb, nb, hdb⟩ := hb
  unfold tupCmp
  refine wpAny_bind (wpAny_isInstance hbT sub_tup ?_)
  refine bm_if_false rfl ?_
  refine wpAny_bind (wpAny_tupleItemsOf hoa hda (wpAny_bind (wpAny_tupleItemsOf hob hdb ?_)))
  refine wpAny_bind (tup_loop (fin := tupFin op) (fun v u p q R' hv hu hkk h1 h2 => ?_) hx hy hk ?_)
  · dsimp only
    refine wpAny_bind (eqBool_fl hv hu hkk ?_)
    by_cases e : p = q
    · rw [decide_eq_true e]
      refine bm_if_false rfl ?_
      exact wpAny_pure (h1 e)
    · rw [decide_eq_false e]
      refine bm_if_true rfl ?_
      rcases hop with rfl | rfl | rfl
      · exact wpAny_bind (wpAny_pure (wpAny_pure (h2 e)))
      · exact wpAny_bind (wpAny_pure (wpAny_pure (h2 e)))
      · exact wpAny_bind (wpAny_rule (wpAny_bind (rich_lt_fl hv hu hkk e (wpAny_bind (wpAny_pure (wpAny_pure (h2 e)))))))
  · have e1 := lexLt_first ds es
    have e2 := eq_first ds es
    have l1 : xs.toArray.size = ds.length := by rw [List.size_toArray, hx.length]
    have l2 : ys.toArray.size = es.length := by rw [List.size_toArray, hy.length]
    cases hf : firstDiff ds es with
    | none =>
      rw [hf] at e1 e2
      dsimp only at e1 e2 ⊢
      rw [l1, l2]
      refine wpAny_pure ⟨_, rfl, ?_⟩
      rcases hop with rfl | rfl | rfl
      · show Q (.bool (ds.length == es.length)) s
        rw [← e2]; exact h
      · show Q (.bool (ds.length != es.length)) s
        rw [bne, ← e2]; exact h
      · show Q (.bool (decide (ds.length < es.length))) s
        rw [← e1]; exact h
    | some p =>
      rw [hf] at e1 e2
      dsimp only at e1 e2 ⊢
      refine wpAny_pure ⟨_, rfl, ?_⟩
      rcases hop with rfl | rfl | rfl
      · show Q (.bool false) s
        rw [← e2]; exact h
      · show Q (.bool true) s
        have : (!decide (ds = es)) = true := by rw [e2]; rfl
        rw [← this]; exact h
      · show Q (.bool (p.1.lt p.2)) s
        rw [← e1]; exact h

theorem rich_tup {op : CmpOp} {id : String} {B : Builtin} (hop : op = .Eq ∨ op = .NotEq ∨ op = .Lt) (slot : Slot "tuple" (cmpInfo op).2.1 id) (entry : entryFor table id = some B) (args : ∀ a b, argsOk id ⟨[a, b], []⟩)
    (hB : ∀ a b, B ⟨[a, b], []⟩ = tupCmp op a b) (hu : A.units < cLine)
    {a b : Addr} {xs ys : List Value} {ds es : List Fl} (ha : IsTup s.heap a xs.toArray) (hb : IsTup s.heap b ys.toArray) (hx : FlAll xs ds) (hy : FlAll ys es) (hk : KinL ds es)
    {Q : Value → Shared → Prop} (h : Q (.bool (tupRes op ds es)) s) : wpAny (model prog w) A (richCompare op (.ref a) (.ref b)) Q E s := by
  have haT := tup_typeIs ha
  have hbT := tup_typeIs hb
  have one : wpAny (model prog w) A (tryCompare (.ref a) (cmpInfo op).2.1 (.ref b)) (fun r s' => ∃ v, r = some v ∧ Q v s') E s := by
    unfold tryCompare
    refine wpAny_bind (wpAny_callSpecialIfBound?_slot haT slot (wpAny_call_entry slot haT entry ?_ (args _ _)))
    rw [hB]
    refine wpAny_mono (tup_run hop ha hb hx hy hk (Q := fun v s' => wpAny (model prog w) A (match some v with | some .notImplemented | none => pure none | some v => pure (some v)) (fun r s' => ∃ v, r = some v ∧ Q v s') E s') (wpAny_pure ⟨_, rfl, h⟩)) (fun fin s' hf => hf) fun _ _ e => e
  unfold richCompare
  simp only [oneThing_ref]
  refine wpAny_holding (wpAny_bind (wpAny_cRoomFor hu ?_))
  refine wpAny_bind (wpAny_typeOf haT (wpAny_bind (wpAny_typeOf hbT ?_)))
  refine bm_if_false rfl ?_
  refine wpAny_bind (wpAny_pure ?_)
  refine bm_if_false rfl ?_
  refine wpAny_bind (wpAny_mono one (fun r s' z => ?_) fun _ _ e => e)
  obtain ⟨v, rfl, hq⟩ := z
  exact wpAny_pure hq

theorem tup_rich_lt (hu : A.units < cLine) {a b : Addr} {xs ys : List Value} {ds es : List Fl} (ha : IsTup s.heap a xs.toArray) (hb : IsTup s.heap b ys.toArray) (hx : FlAll xs ds) (hy : FlAll ys es) (hk : KinL ds es)
    {Q : Value → Shared → Prop} (h : Q (.bool (lexLt ds es)) s) : wpAny (model prog w) A (richCompare .Lt (.ref a) (.ref b)) Q E s :=
  rich_tup (op := .Lt) (.inr (.inr rfl)) F.slot_tuple_lt F.entry_tuple_lt F.args_tuple_lt_2 tup_lt_eq hu ha hb hx hy hk h
theorem tup_rich_ne (hu : A.units < cLine) {a b : Addr} {xs ys : List Value} {ds es : List Fl} (ha : IsTup s.heap a xs.toArray) (hb : IsTup s.heap b ys.toArray) (hx : FlAll xs ds) (hy : FlAll ys es) (hk : KinL ds es)
    {Q : Value → Shared → Prop} (h : Q (.bool (!decide (ds = es))) s) : wpAny (model prog w) A (richCompare .NotEq (.ref a) (.ref b)) Q E s :=
  rich_tup (op := .NotEq) (.inr (.inl rfl)) F.slot_tuple_ne F.entry_tuple_ne F.args_tuple_ne_2 tup_ne_eq hu ha hb hx hy hk h
theorem tup_rich_eq (hu : A.units < cLine) {a b : Addr} {xs ys : List Value} {ds es : List Fl} (ha : IsTup s.heap a xs.toArray) (hb : IsTup s.heap b ys.toArray) (hx : FlAll xs ds) (hy : FlAll ys es) (hk : KinL ds es)
    {Q : Value → Shared → Prop} (h : Q (.bool (decide (ds = es))) s) : wpAny (model prog w) A (richCompare .Eq (.ref a) (.ref b)) Q E s :=
  rich_tup (op := .Eq) (.inl rfl) F.slot_tuple_eq F.entry_tuple_eq F.args_tuple_eq_2 tup_eq_eq hu ha hb hx hy hk h

theorem tup_eqBool (hu : A.units < cLine) {a b : Addr} {xs ys : List Value} {ds es : List Fl} (ha : IsTup s.heap a xs.toArray) (hb : IsTup s.heap b ys.toArray) (hx : FlAll xs ds) (hy : FlAll ys es) (hk : KinL ds es)
    (hab : a = b → ds = es) {Q : Bool → Shared → Prop} (h : Q (decide (ds = es)) s) : wpAny (model prog w) A (eqBool (.ref a) (.ref b)) Q E s := by
  unfold eqBool
  refine wpAny_holding ?_
  by_cases e : a = b
  · subst e
    refine bm_if_true (by simp) ?_
    refine wpAny_bind (wpAny_rule (wpAny_pure ?_))
    rw [decide_eq_true (hab rfl)] at h
    exact h
  · refine bm_if_false (by simp [e]) ?_
    dsimp only
    refine wpAny_bind (tup_rich_eq hu ha hb hx hy hk ?_)
    exact wpAny_truthy_bool h
end

theorem flIs_unique {v : Value} {a b : Fl} (h : FlIs v a) (g : FlIs v b) : a = b := by
  cases h with
  | none => cases g; rfl
  | int i t => cases g; rfl
  | byt x t =>
    generalize hv : Value.bytes x.toArray t = v at g
    cases g with
    | none => cases hv
    | int => cases hv
    | byt y u =>
      have : x.toArray = y.toArray := by injection hv
      have : x = y := by simpa using this
      rw [this]
theorem flAll_unique : ∀ {vs : List Value} {ds es : List Fl}, FlAll vs ds → FlAll vs es → ds = es
  | _, _, _, .nil, .nil => rfl
  | _, _, _, .cons h t, .cons g u => by rw [flIs_unique h g, flAll_unique t u]
end Mine
end

section
open PySem PySem.W PyProof.Rows
set_option Elab.async false
set_option maxRecDepth 100000
namespace Mine
open PySem PySem.Calls PySem.W PyProof.Rows

/-- what an address tells: its kind, its network, its octets -/
structure Key where
  t : Int
  net : Fl
  oct : Fl
  deriving DecidableEq

def netOf (n : Int) : Int := (n.fdiv 9).fmod 5 * 1000
def octOf (n : Int) : UInt8 := ((n.fdiv 45).fmod 256).toNat.toUInt8
def keyOf (n : Int) : Key :=
  if n.fmod 9 = 0 then ⟨2, .none, .byt [octOf n]⟩
  else if n.fmod 9 = 1 then ⟨2, .none, .byt [octOf n]⟩
  else if n.fmod 9 = 2 then ⟨4, .int (netOf n), .byt [octOf n]⟩
  else if n.fmod 9 = 3 then ⟨4, .int (netOf n), .byt [octOf n]⟩
  else if n.fmod 9 = 4 then ⟨1, .none, .none⟩
  else if n.fmod 9 = 5 then ⟨3, .int (netOf n), .none⟩
  else if n.fmod 9 = 6 then ⟨5, .none, .none⟩
  else if n.fmod 9 = 7 then ⟨0, .none, .none⟩
  else ⟨2, .none, .byt [octOf n, (7 : Int).toNat.toUInt8, (8 : Int).toNat.toUInt8]⟩
section
variable {n : Int}
theorem keyOf_0 (h : n.fmod 9 = 0) : keyOf n = ⟨2, .none, .byt [octOf n]⟩ := by simp [keyOf, h]
theorem keyOf_1 (h : n.fmod 9 = 1) : keyOf n = ⟨2, .none, .byt [octOf n]⟩ := by simp [keyOf, h]
theorem keyOf_2 (h : n.fmod 9 = 2) : keyOf n = ⟨4, .int (netOf n), .byt [octOf n]⟩ := by simp [keyOf, h]
theorem keyOf_3 (h : n.fmod 9 = 3) : keyOf n = ⟨4, .int (netOf n), .byt [octOf n]⟩ := by simp [keyOf, h]
theorem keyOf_4 (h : n.fmod 9 = 4) : keyOf n = ⟨1, .none, .none⟩ := by simp [keyOf, h]
theorem keyOf_5 (h : n.fmod 9 = 5) : keyOf n = ⟨3, .int (netOf n), .none⟩ := by simp [keyOf, h]
theorem keyOf_6 (h : n.fmod 9 = 6) : keyOf n = ⟨5, .none, .none⟩ := by simp [keyOf, h]
theorem keyOf_7 (h : n.fmod 9 = 7) : keyOf n = ⟨0, .none, .none⟩ := by simp [keyOf, h]
theorem keyOf_8 (h0 : n.fmod 9 ≠ 0) (h1 : n.fmod 9 ≠ 1) (h2 : n.fmod 9 ≠ 2) (h3 : n.fmod 9 ≠ 3) (h4 : n.fmod 9 ≠ 4) (h5 : n.fmod 9 ≠ 5) (h6 : n.fmod 9 ≠ 6) (h7 : n.fmod 9 ≠ 7) :
    keyOf n = ⟨2, .none, .byt [octOf n, (7 : Int).toNat.toUInt8, (8 : Int).toNat.toUInt8]⟩ := by simp [keyOf, h0, h1, h2, h3, h4, h5, h6, h7]
end

abbrev tupObj (vs : List Value) (c : Nat) : Obj := { cls := .type "tuple", data := .seq vs.toArray c }
def isCls (C : Addr) : Prop := C = 160 ∨ C = 182 ∨ C = 202 ∨ C = 222 ∨ C = 242 ∨ C = 262

/-- the object x of the ledger tells k -/
structure ObjIn (led : List (Addr × Obj)) (x : Addr) (k : Key) : Prop where
  ex : ∃ (C dx : Addr) (es : List DictEntry) (n : Nat) (vt vn va : Value), isCls C ∧ (x, instObj C dx) ∈ led ∧ (dx, dictOf es n) ∈ led ∧
    getL (Str.ofString "addrType") es = some (some vt) ∧ getL (Str.ofString "addrNet") es = some (some vn) ∧ getL (Str.ofString "addrAddr") es = some (some va) ∧ getL (Str.ofString "_tuple") es = some none ∧
    FlIs vt (.int k.t) ∧ FlIs vn k.net ∧ FlIs va k.oct
/-- the row r of the ledger: an object and the key written beside it -/
structure RowIn (led : List (Addr × Obj)) (r : Addr) (x : Addr) (k : Key) : Prop where
  obj : ObjIn led x k
  ex : ∃ (D1 : Addr) (c1 c2 : Nat) (v1 v2 v3 : Value), (r, tupObj [.ref x, .ref D1] c1) ∈ led ∧ (D1, tupObj [v1, v2, v3] c2) ∈ led ∧ FlIs v1 (.int k.t) ∧ FlIs v2 k.net ∧ FlIs v3 k.oct
theorem ObjIn.mono {led led' : List (Addr × Obj)} {x : Addr} {k : Key} (h : ObjIn led x k) (hs : ∀ p ∈ led, p ∈ led') : ObjIn led' x k := by
  obtain ⟨C, dx, es, n, vt, vn, va, a, b, c, r⟩ := h
  exact ⟨C, dx, es, n, vt, vn, va, a, hs _ b, hs _ c, r⟩
theorem RowIn.mono {led led' : List (Addr × Obj)} {r x : Addr} {k : Key} (h : RowIn led r x k) (hs : ∀ p ∈ led, p ∈ led') : RowIn led' r x k := by
  obtain ⟨ho, D1, c1, c2, v1, v2, v3, a, b, c⟩ := h
  exact ⟨ho.mono hs, D1, c1, c2, v1, v2, v3, hs _ a, hs _ b, c⟩

/-- a row that was made anew, above all of news -/
def RowNew (news led : List (Addr × Obj)) (r : Value) (k : Key) : Prop :=
  ∃ (tl : List (Addr × Obj)) (D x : Addr), r = .ref D ∧ (∀ p ∈ tl, p ∈ led ∧ ∀ q ∈ news, q.1 < p.1) ∧ RowIn tl D x k ∧ (∀ q ∈ news, q.1 < x)

theorem allLt_up {d x : Addr} (h : d < x) : ∀ {l : List (Addr × Obj)}, AllLt d l → AllLt x l
  | [], _ => trivial
  | _ :: _, q => ⟨Nat.lt_trans q.1 h, allLt_up h q.2⟩
theorem row_new {news led : List (Addr × Obj)} {D D1 X C dx : Addr} {es : List DictEntry} {n c1 c2 : Nat} {v1 v2 v3 vt vn va : Value} {k : Key}
    (m1 : (D, tupObj [.ref X, .ref D1] c1) ∈ led) (m2 : (D1, tupObj [v1, v2, v3] c2) ∈ led) (m3 : (X, instObj C dx) ∈ led) (m4 : (dx, dictOf es n) ∈ led)
    (l1 : AllLt D news) (l2 : AllLt D1 news) (l3 : AllLt X news) (l4 : AllLt dx news) (hC : isCls C)
    (g1 : getL (Str.ofString "addrType") es = some (some vt)) (g2 : getL (Str.ofString "addrNet") es = some (some vn)) (g3 : getL (Str.ofString "addrAddr") es = some (some va)) (g4 : getL (Str.ofString "_tuple") es = some none)
    (f1 : FlIs v1 (.int k.t)) (f2 : FlIs v2 k.net) (f3 : FlIs v3 k.oct) (e1 : FlIs vt (.int k.t)) (e2 : FlIs vn k.net) (e3 : FlIs va k.oct) : RowNew news led (.ref D) k := by
  refine ⟨[(D, tupObj [.ref X, .ref D1] c1), (D1, tupObj [v1, v2, v3] c2), (X, instObj C dx), (dx, dictOf es n)], D, X, rfl, ?_, ⟨⟨C, dx, es, n, vt, vn, va, hC, by simp, by simp, g1, g2, g3, g4, e1, e2, e3⟩, D1, c1, c2, v1, v2, v3, by simp, by simp, f1, f2, f3⟩, ktn_ltOf l3⟩
  simp only [List.forall_mem_cons, List.not_mem_nil, false_implies, implies_true, and_true]
  exact ⟨⟨m1, ktn_ltOf l1⟩, ⟨m2, ktn_ltOf l2⟩, ⟨m3, ktn_ltOf l3⟩, ⟨m4, ktn_ltOf l4⟩⟩
end Mine
end

section
set_option Elab.async false
namespace Mine
open PySem PySem.W PyProof.Rows

/-- a run of the tree of questions by lt; the questions are about places below N -/
def good {α : Type} (lt : Nat → Nat → Bool) (N : Nat) : KasT α → (α → Prop) → Prop
  | .ret a, Q => Q a
  | .ask i j k, Q => i < N ∧ j < N ∧ good lt N (k (lt i j)) Q
section
variable {lt : Nat → Nat → Bool} {N : Nat} {α β : Type}
theorem good_mono : ∀ {t : KasT α} {Q Q' : α → Prop}, good lt N t Q → (∀ a, Q a → Q' a) → good lt N t Q'
  | .ret a, _, _, h, q => q a h
  | .ask i j k, _, _, h, q => ⟨h.1, h.2.1, good_mono (t := k (lt i j)) h.2.2 q⟩
theorem good_bind {f : α → KasT β} {Q : β → Prop} : ∀ {t : KasT α}, good lt N t (fun a => good lt N (f a) Q) → good lt N (t.bind f) Q
  | .ret _, h => h
  | .ask i j k, h => ⟨h.1, h.2.1, good_bind (t := k (lt i j)) h.2.2⟩
/-- the tree's meaning under a comparison that answers lt and keeps Inv -/
theorem good_wp {cmp : Nat → Nat → (Bool → Shared → Prop) → Shared → Prop} {Inv : Shared → Prop}
    (hc : ∀ i j (C : Bool → Shared → Prop) s, i < N → j < N → Inv s → (∀ s', Inv s' → C (lt i j) s') → cmp i j C s) {P : α → Prop} {Q : α → Shared → Prop} (hq : ∀ a s', P a → Inv s' → Q a s') :
    ∀ (t : KasT α) (s : Shared), good lt N t P → Inv s → t.kasWp cmp Q s
  | .ret a, s, h, hi => hq a s h hi
  | .ask i j k, s, h, hi => hc i j _ s h.1 h.2.1 hi fun s' hi' => good_wp hc hq (k (lt i j)) s' h.2.2 hi'
end

/-- a weak order on places -/
structure Weak (lt : Nat → Nat → Bool) : Prop where
  asym : ∀ a b, lt a b = true → lt b a = false
  neg : ∀ a b c, lt a b = false → lt b c = false → lt a c = false

section
variable {lt : Nat → Nat → Bool} (W : Weak lt) {N : Nat}
def bf (lt : Nat → Nat → Bool) (a b : Nat) : Prop := lt b a = false ∧ (lt a b = true ∨ a < b)
include W
theorem w_irr (a : Nat) : lt a a = false := by
  cases h : lt a a with
  | false => rfl
  | true => have := W.asym a a h; rw [h] at this; exact this
theorem w_lt_left {a b c : Nat} (h : lt a b = true) (h2 : lt c b = false) : lt a c = true := by
  cases q : lt a c with
  | true => rfl
  | false => have := W.neg a c b q h2; rw [h] at this; cases this
theorem w_lt_right {a b c : Nat} (h : lt a b = true) (h2 : lt a c = false) : lt c b = true := by
  cases q : lt c b with
  | true => rfl
  | false => have := W.neg a c b h2 q; rw [h] at this; cases this
theorem bf_of_lt {a b : Nat} (h : lt a b = true) : bf lt a b := ⟨W.asym a b h, .inl h⟩
theorem bf_trans {a b c : Nat} (h1 : bf lt a b) (h2 : bf lt b c) : bf lt a c := by
  refine ⟨W.neg c b a h2.1 h1.1, ?_⟩
  rcases h1.2 with q | q
  · exact .inl (w_lt_left W q h2.1)
  · rcases h2.2 with r | r
    · exact .inl (w_lt_right W r h1.1)
    · exact .inr (Nat.lt_trans q r)
theorem bf_irr {a : Nat} (h : bf lt a a) : False := by
  rcases h.2 with q | q
  · rw [w_irr W a] at q; cases q
  · exact Nat.lt_irrefl _ q
theorem bf_asym {a b : Nat} (h1 : bf lt a b) (h2 : bf lt b a) : False := bf_irr W (bf_trans W h1 h2)
omit W

def Srt (lt : Nat → Nat → Bool) (p : Array Nat) (n : Nat) : Prop := ∀ i j, i < j → j < n → bf lt (p.getD i 0) (p.getD j 0)
/-- the first n of p are places below n, p[k] = k behind; N places -/
structure Pre (N : Nat) (p : Array Nat) (n : Nat) : Prop where
  size : p.size = N
  le : n ≤ N
  low : ∀ k, k < n → p.getD k 0 < n
  rest : ∀ k, n ≤ k → k < N → p.getD k 0 = k
theorem getD_of? (p : Array Nat) (k : Nat) : p.getD k 0 = (p[k]?).getD 0 := by simp [Array.getD_eq_getD_getElem?]

theorem Pre.succ {p : Array Nat} {n : Nat} (h : Pre N p n) (hn : n < N) : Pre N p (n + 1) := by
  refine ⟨h.size, hn, fun k hk => ?_, fun k hk hN => h.rest k (by omega) hN⟩
  by_cases e : k < n
  · have := h.low k e; omega
  · have : k = n := by omega
    subst this
    rw [h.rest k (Nat.le_refl _) hn]; omega
include W
theorem srt_succ {p : Array Nat} {n : Nat} (h : Pre N p n) (hs : Srt lt p n) (h1 : 1 ≤ n) (hn : n < N) (hq : lt (p.getD n 0) (p.getD (n - 1) 0) = false) : Srt lt p (n + 1) := by
  have hl : bf lt (p.getD (n - 1) 0) (p.getD n 0) := by
    refine ⟨hq, .inr ?_⟩
    rw [h.rest n (Nat.le_refl _) hn]
    exact h.low (n - 1) (by omega)
  intro i j hij hj
  by_cases e : j < n
  · exact hs i j hij e
  · have : j = n := by omega
    subst this
    by_cases e2 : i = j - 1
    · rw [e2]; exact hl
    · exact bf_trans W (hs i (j - 1) (by omega) (by omega)) hl

theorem asc_good {p : Array Nat} : ∀ (f n : Nat), 1 ≤ n → n + f = N → Pre N p n → Srt lt p n →
    good lt N (kas_asc p f n) fun m => n ≤ m ∧ m ≤ N ∧ Pre N p m ∧ Srt lt p m ∧ (m = N ∨ (m < N ∧ lt (p.getD m 0) (p.getD (m - 1) 0) = true))
  | 0, n, _, hN, hp, hs => ⟨Nat.le_refl _, by omega, hp, hs, .inl (by omega)⟩
  | f + 1, n, h1, hN, hp, hs => by
    have hn : n < N := by omega
    refine ⟨by rw [hp.rest n (Nat.le_refl _) hn]; exact hn, Nat.lt_trans (hp.low (n - 1) (by omega)) hn, ?_⟩
    cases q : lt (p.getD n 0) (p.getD (n - 1) 0) with
    | true => exact ⟨Nat.le_refl _, by omega, hp, hs, .inr ⟨hn, q⟩⟩
    | false => exact good_mono (asc_good f (n + 1) (by omega) (by omega) (hp.succ hn) (srt_succ W hp hs h1 hn q)) fun m h => ⟨by omega, h.2⟩
omit W

/-- the descending part: the first n - q - 1 strictly down, then a block of equals, in their order -/
structure Dsc (lt : Nat → Nat → Bool) (N : Nat) (p : Array Nat) (n q : Nat) : Prop where
  pre : Pre N p (n - q - 1)
  q_lt : q + 1 ≤ n
  le : n ≤ N
  down : ∀ i j, i < j → j < n - q - 1 → bf lt (p.getD j 0) (p.getD i 0)
  eqs : ∀ i j, n - q - 1 ≤ i → i < n → n - q - 1 ≤ j → j < n → lt i j = false
  below : ∀ i j, i < n - q - 1 → n - q - 1 ≤ j → j < n → lt j (p.getD i 0) = true

theorem rev_get {p : Array Nat} {i j : Nat} (hj : j ≤ p.size) (k : Nat) : (kas_rev p i j).getD k 0 = if i ≤ k ∧ k < j then p.getD (i + j - 1 - k) 0 else p.getD k 0 := by
  rw [getD_of?, kas_rev, getElem?_mirror_all hj]
  split <;> rw [getD_of?]
theorem rev_size {p : Array Nat} {i j : Nat} : (kas_rev p i j).size = p.size := mirror_size _ _ _ _
include W
/-- a whole descending stretch: the block turned over -/
theorem dsc_flip {p : Array Nat} {n q : Nat} (h : Dsc lt N p n q) : Pre N (kas_rev p (n - (q + 1)) n) n ∧ ∀ i j, i < j → j < n → bf lt ((kas_rev p (n - (q + 1)) n).getD j 0) ((kas_rev p (n - (q + 1)) n).getD i 0) := by
  have hz : n ≤ p.size := by rw [h.pre.size]; exact h.le
  have hq := h.q_lt
  have hle := h.le
  have e0 : n - (q + 1) = n - q - 1 := by omega
  rw [e0]
  have blk : ∀ k, n - q - 1 ≤ k → k < n → (kas_rev p (n - q - 1) n).getD k 0 = n - q - 1 + n - 1 - k := fun k h1 h2 => by
    rw [rev_get hz, if_pos ⟨h1, h2⟩]
    exact h.pre.rest _ (by omega) (by omega)
  have off : ∀ k, ¬ (n - q - 1 ≤ k ∧ k < n) → (kas_rev p (n - q - 1) n).getD k 0 = p.getD k 0 := fun k h1 => by rw [rev_get hz, if_neg h1]
  refine ⟨⟨by rw [rev_size]; exact h.pre.size, hle, fun k hk => ?_, fun k h1 h2 => ?_⟩, fun i j hij hj => ?_⟩
  · by_cases e : n - q - 1 ≤ k
    · rw [blk k e hk]; omega
    · rw [off k (by omega)]
      have := h.pre.low k (by omega)
      omega
  · rw [off k (by omega)]
    exact h.pre.rest k (by omega) h2
  · by_cases ei : n - q - 1 ≤ i
    · rw [blk i ei (by omega), blk j (by omega) hj]
      exact ⟨h.eqs _ _ (by omega) (by omega) (by omega) (by omega), .inr (by omega)⟩
    · rw [off i (by omega)]
      by_cases ej : n - q - 1 ≤ j
      · rw [blk j ej hj]
        exact bf_of_lt W (h.below i _ (by omega) (by omega) (by omega))
      · rw [off j (by omega)]
        exact h.down i j hij (by omega)
/-- one more, strictly below -/
theorem dsc_next {p' : Array Nat} {n : Nat} (hp : Pre N p' n) (hn : n < N) (hd : ∀ i j, i < j → j < n → bf lt (p'.getD j 0) (p'.getD i 0)) (hb : ∀ i, i < n → lt n (p'.getD i 0) = true) : Dsc lt N p' (n + 1) 0 := by
  have e : n + 1 - 0 - 1 = n := by omega
  refine ⟨by rw [e]; exact hp, by omega, hn, by rw [e]; exact hd, fun i j h1 h2 h3 h4 => ?_, fun i j h1 h2 h3 => ?_⟩
  · have e1 : i = n := by omega
    have e2 : j = n := by omega
    rw [e1, e2]; exact w_irr W n
  · have e2 : j = n := by omega
    rw [e2]; exact hb i (by omega)

theorem desc_good : ∀ (f : Nat) (p : Array Nat) (n q : Nat), n + f = N → Dsc lt N p n q → good lt N (kas_desc f p n q) fun r => Dsc lt N r.1 r.2.1 r.2.2
  | 0, p, n, q, _, h => h
  | f + 1, p, n, q, hN, h => by
    have hn : n < N := by omega
    have hq := h.q_lt
    have g1 : p.getD n 0 = n := h.pre.rest n (by omega) hn
    have g2 : p.getD (n - 1) 0 = n - 1 := h.pre.rest (n - 1) (by omega) (by omega)
    refine ⟨by rw [g1]; exact hn, by rw [g2]; omega, ?_⟩
    rw [g1, g2]
    cases c : lt n (n - 1) with
    | true =>
      dsimp only
      rw [if_pos rfl]
      have all : ∀ i, i < n → lt n ((kas_rev p (n - (q + 1)) n).getD i 0) = true := fun i hi => by
        have hz : n ≤ p.size := by rw [h.pre.size]; exact h.le
        rw [rev_get hz]
        split
        · rename_i hb
          rw [h.pre.rest _ (by omega) (by omega)]
          exact w_lt_left W c (h.eqs _ _ (by omega) (by omega) (by omega) (by omega))
        · rename_i hb
          exact w_lt_left W c (W.asym _ _ (h.below i (n - 1) (by omega) (by omega) (by omega)))
      obtain ⟨hp, hd⟩ := dsc_flip W h
      by_cases hq0 : q > 0
      · rw [if_pos hq0]
        exact desc_good f _ (n + 1) 0 (by omega) (dsc_next W hp hn hd all)
      · rw [if_neg hq0]
        have e0 : q = 0 := by omega
        subst e0
        have er : kas_rev p (n - (0 + 1)) n = p := by
          unfold kas_rev
          have : (n - (n - (0 + 1))) / 2 = 0 := by omega
          rw [this]
          rfl
        rw [er] at hp hd all
        exact desc_good f _ (n + 1) 0 (by omega) (dsc_next W hp hn hd all)
    | false =>
      dsimp only
      rw [if_neg (by decide)]
      refine ⟨by omega, hn, ?_⟩
      cases d : lt (n - 1) n with
      | true => dsimp only; rw [if_pos rfl]; exact h
      | false =>
        dsimp only
        rw [if_neg (by decide)]
        refine desc_good f p (n + 1) (q + 1) (by omega) ?_
        have e : n + 1 - (q + 1) - 1 = n - q - 1 := by omega
        refine ⟨by rw [e]; exact h.pre, by omega, hn, by rw [e]; exact h.down, ?_, ?_⟩
        · rw [e]
          intro i j h1 h2 h3 h4
          have en : ∀ k, n - q - 1 ≤ k → k < n + 1 → lt k (n - 1) = false ∧ lt (n - 1) k = false := fun k k1 k2 => by
            by_cases ek : k = n
            · rw [ek]; exact ⟨c, d⟩
            · exact ⟨h.eqs _ _ k1 (by omega) (by omega) (by omega), h.eqs _ _ (by omega) (by omega) k1 (by omega)⟩
          exact W.neg i (n - 1) j (en i h1 h2).1 (en j h3 h4).2
        · rw [e]
          intro i j h1 h2 h3
          by_cases ej : j = n
          · rw [ej]
            exact w_lt_right W (h.below i (n - 1) h1 (by omega) (by omega)) d
          · exact h.below i j h1 h2 (by omega)

/-- what counting the first run gives -/
def Run (lt : Nat → Nat → Bool) (N : Nat) (r : Nat × Array Nat) : Prop := 1 ≤ r.1 ∧ r.1 ≤ N ∧ Pre N r.2 r.1 ∧ Srt lt r.2 r.1
theorem tail3_good {p : Array Nat} {n : Nat} (h1 : 1 ≤ n) (hp : Pre N p n) (hd : ∀ i j, i < j → j < n → bf lt (p.getD j 0) (p.getD i 0)) : good lt N (kas_tail3 n N p) (Run lt N) := by
  have hz : n ≤ p.size := by rw [hp.size]; exact hp.le
  have hle := hp.le
  have hp' : Pre N (kas_rev p 0 n) n := ⟨by rw [rev_size]; exact hp.size, hle, fun k hk => by rw [rev_get hz, if_pos ⟨Nat.zero_le _, hk⟩]; exact hp.low _ (by omega), fun k k1 k2 => by rw [rev_get hz, if_neg (by omega)]; exact hp.rest k k1 k2⟩
  have hs : Srt lt (kas_rev p 0 n) n := fun i j hij hj => by
    rw [rev_get hz, rev_get hz, if_pos ⟨Nat.zero_le _, by omega⟩, if_pos ⟨Nat.zero_le _, hj⟩]
    exact hd _ _ (by omega) (by omega)
  exact good_bind (good_mono (asc_good W (N - n) n h1 (by omega) hp' hs) fun m hm => ⟨by show 1 ≤ m; omega, hm.2.1, hm.2.2.1, hm.2.2.2.1⟩)

theorem descPart_good {p : Array Nat} {n : Nat} (hn : n < N) (hp : Pre N p n) (hd : ∀ i j, i < j → j < n → bf lt (p.getD j 0) (p.getD i 0)) (hb : ∀ i, i < n → lt n (p.getD i 0) = true) : good lt N (kas_descPart n N p) (Run lt N) := by
  refine good_bind (good_mono (desc_good W (N - (n + 1)) p (n + 1) 0 (by omega) (dsc_next W hp hn hd hb)) ?_)
  rintro ⟨p', m, q⟩ h
  have hq := h.q_lt
  obtain ⟨f1, f2⟩ := dsc_flip W h
  dsimp only at f1 f2 hq ⊢
  by_cases hq0 : q > 0
  · rw [if_pos hq0]
    exact tail3_good W (by omega) f1 f2
  · rw [if_neg hq0]
    have e0 : q = 0 := by omega
    subst e0
    have er : kas_rev p' (m - (0 + 1)) m = p' := by
      unfold kas_rev
      have : (m - (m - (0 + 1))) / 2 = 0 := by omega
      rw [this]
      rfl
    rw [er] at f1 f2
    exact tail3_good W (by omega) f1 f2

theorem count_good {p : Array Nat} (h2 : 2 ≤ N) (hp : Pre N p 1) : good lt N (kas_count N p) (Run lt N) := by
  have s1 : Srt lt p 1 := fun i j hij hj => by omega
  refine good_bind (good_mono (asc_good W (N - 1) 1 (Nat.le_refl _) (by omega) hp s1) ?_)
  rintro n ⟨h1, hle, hpn, hs, hend⟩
  by_cases e : (n == N) = true
  · rw [if_pos e]
    exact ⟨h1, hle, hpn, hs⟩
  · rw [if_neg e]
    have hne : n ≠ N := fun q => e (by rw [q]; exact beq_self_eq_true _)
    obtain ⟨hn, hq⟩ : n < N ∧ lt (p.getD n 0) (p.getD (n - 1) 0) = true := hend.resolve_left hne
    have gn : p.getD n 0 = n := hpn.rest n (Nat.le_refl _) hn
    rw [gn] at hq
    by_cases e1 : n > 1
    · rw [if_pos e1]
      refine ⟨Nat.lt_trans (hpn.low 0 (by omega)) hn, Nat.lt_trans (hpn.low (n - 1) (by omega)) hn, ?_⟩
      cases c : lt (p.getD 0 0) (p.getD (n - 1) 0) with
      | true => dsimp only; rw [if_pos rfl]; exact ⟨h1, hle, hpn, hs⟩
      | false =>
        dsimp only
        rw [if_neg (by decide)]
        have hz : n ≤ p.size := by rw [hpn.size]; exact hle
        -- all of the run are equal
        have up : ∀ i, i < n → lt (p.getD i 0) (p.getD (n - 1) 0) = false := fun i hi => by
          by_cases e0 : i = 0
          · rw [e0]; exact c
          · exact W.neg _ _ _ (hs 0 i (by omega) hi).1 c
        have dn : ∀ i, i < n → lt (p.getD (n - 1) 0) (p.getD i 0) = false := fun i hi => by
          by_cases e0 : i = n - 1
          · rw [e0]; exact w_irr W _
          · exact (hs i (n - 1) (by omega) (by omega)).1
        refine descPart_good W hn ⟨by rw [rev_size]; exact hpn.size, hle, fun k hk => by rw [rev_get hz, if_pos ⟨Nat.zero_le _, hk⟩]; exact hpn.low _ (by omega), fun k k1 k2 => by rw [rev_get hz, if_neg (by omega)]; exact hpn.rest k k1 k2⟩ (fun i j hij hj => ?_) (fun i hi => ?_)
        · rw [rev_get hz, rev_get hz, if_pos ⟨Nat.zero_le _, hj⟩, if_pos ⟨Nat.zero_le _, by omega⟩]
          have e2 : 0 + n - 1 - j < 0 + n - 1 - i := by omega
          refine ⟨?_, .inr ?_⟩
          · exact W.neg _ _ _ (up _ (by omega)) (dn _ (by omega))
          · rcases (hs _ _ e2 (by omega)).2 with q | q
            · rw [W.neg _ _ _ (up _ (by omega)) (dn _ (by omega))] at q; cases q
            · exact q
        · rw [rev_get hz, if_pos ⟨Nat.zero_le _, hi⟩]
          exact w_lt_left W hq (up _ (by omega))
    · rw [if_neg e1]
      have en : n = 1 := by omega
      refine descPart_good W hn hpn (fun i j hij hj => by omega) fun i hi => ?_
      have : i = n - 1 := by omega
      rw [this]; exact hq

theorem place_good {p : Array Nat} {k : Nat} (hp : Pre N p k) (hk : k < N) (hs : Srt lt p k) : ∀ (f l r : Nat), r - l ≤ f → l ≤ r → r ≤ k → (∀ i, i < l → lt k (p.getD i 0) = false) → (∀ i, r ≤ i → i < k → lt k (p.getD i 0) = true) →
    good lt N (kas_place p k f l r) fun l => l ≤ k ∧ (∀ i, i < l → lt k (p.getD i 0) = false) ∧ ∀ i, l ≤ i → i < k → lt k (p.getD i 0) = true
  | 0, l, r, hf, hlr, hr, h1, h2 => by
    have : l = r := by omega
    subst this
    exact ⟨hr, h1, h2⟩
  | f + 1, l, r, hf, hlr, hr, h1, h2 => by
    unfold kas_place
    have gk : p.getD k 0 = k := hp.rest k (Nat.le_refl _) hk
    by_cases e : l ≥ r
    · rw [if_pos e]
      have : l = r := by omega
      subst this
      exact ⟨hr, h1, h2⟩
    · rw [if_neg e]
      have hm : (l + r) / 2 < k := by omega
      refine ⟨by rw [gk]; exact hk, Nat.lt_trans (hp.low _ hm) hk, ?_⟩
      rw [gk]
      cases c : lt k (p.getD ((l + r) / 2) 0) with
      | true =>
        dsimp only
        rw [if_pos rfl]
        refine place_good hp hk hs f l ((l + r) / 2) (by omega) (by omega) (by omega) h1 fun i hi hik => ?_
        by_cases ei : i = (l + r) / 2
        · rw [ei]; exact c
        · exact w_lt_left W c (hs _ _ (by omega) hik).1
      | false =>
        dsimp only
        rw [if_neg (by decide)]
        refine place_good hp hk hs f ((l + r) / 2 + 1) r (by omega) (by omega) hr (fun i hi => ?_) h2
        by_cases ei : i = (l + r) / 2
        · rw [ei]; exact c
        · exact W.neg _ _ _ c (hs i ((l + r) / 2) (by omega) hm).1

theorem bub_get {p : Array Nat} {k l : Nat} (hk : k < p.size) (hl : l ≤ k) (i : Nat) : (bubble p k (k - l)).getD i 0 = if i = l then p.getD k 0 else if l < i ∧ i ≤ k then p.getD (i - 1) 0 else p.getD i 0 := by
  rw [getD_of?, getElem?_bubble hk (k - l) (by omega)]
  have e : k - (k - l) = l := by omega
  rw [e, getD_of? p k, getD_of? p i, getD_of? p (i - 1)]
  by_cases h1 : i = l
  · rw [if_pos h1, if_pos h1]
  · rw [if_neg h1, if_neg h1]
    by_cases h2 : l < i ∧ i ≤ k
    · rw [if_pos h2, if_pos h2]
    · rw [if_neg h2, if_neg h2]

theorem bin_good : ∀ (f : Nat) (p : Array Nat) (k : Nat), k + f = N → Pre N p k → Srt lt p k → good lt N (kas_bin f p k) fun p' => Pre N p' N ∧ Srt lt p' N
  | 0, p, k, hN, hp, hs => by
    have : k = N := by omega
    subst this
    exact ⟨hp, hs⟩
  | f + 1, p, k, hN, hp, hs => by
    have hk : k < N := by omega
    have hkz : k < p.size := by rw [hp.size]; exact hk
    have gk : p.getD k 0 = k := hp.rest k (Nat.le_refl _) hk
    refine good_bind (good_mono (place_good W hp hk hs k 0 k (by omega) (Nat.zero_le _) (Nat.le_refl _) (fun i hi => by omega) fun i h1 h2 => by omega) ?_)
    rintro l ⟨hl, b1, b2⟩
    refine bin_good f _ (k + 1) (by omega) ⟨by rw [bubble_size]; exact hp.size, hk, fun i hi => ?_, fun i h1 h2 => ?_⟩ fun i j hij hj => ?_
    · rw [bub_get W hkz hl, gk]
      split
      · omega
      · split
        · have := hp.low (i - 1) (by omega); omega
        · have := hp.low i (by omega); omega
    · rw [bub_get W hkz hl, if_neg (by omega), if_neg (by omega)]
      exact hp.rest i (by omega) h2
    · have kb : ∀ x, x < l → bf lt (p.getD x 0) k := fun x hx => ⟨b1 x hx, .inr (hp.low x (by omega))⟩
      have ka : ∀ x, l ≤ x → x < k → bf lt k (p.getD x 0) := fun x h1 h2 => bf_of_lt W (b2 x h1 h2)
      rw [bub_get W hkz hl, bub_get W hkz hl, gk]
      by_cases i1 : i = l
      · rw [if_pos i1, if_neg (by omega), if_pos (by omega)]
        exact ka _ (by omega) (by omega)
      · rw [if_neg i1]
        by_cases j1 : j = l
        · rw [if_pos j1, if_neg (by omega)]
          exact kb _ (by omega)
        · rw [if_neg j1]
          split <;> split
          · exact hs _ _ (by omega) (by omega)
          · exact hs _ _ (by omega) (by omega)
          · exact hs _ _ (by omega) (by omega)
          · exact hs _ _ (by omega) (by omega)

theorem range_get (k : Nat) : (List.toArray (List.range N)).getD k 0 = if k < N then k else 0 := by
  rw [getD_of?]
  simp only [List.getElem?_toArray, List.getElem?_range]
  split <;> simp_all

/-- the whole sort: all places, strictly in order -/
theorem sort_good (h2 : 2 ≤ N) : good lt N (kas_sort N) fun p => Pre N p N ∧ Srt lt p N := by
  have hp : Pre N (List.toArray (List.range N)) 1 := by
    refine ⟨by simp, by omega, fun k hk => ?_, fun k h1 h2 => ?_⟩
    · have : k = 0 := by omega
      subst this
      rw [range_get W, if_pos (by omega)]; omega
    · rw [range_get W, if_pos h2]
  refine good_bind (good_mono (count_good W h2 hp) ?_)
  rintro ⟨n, p⟩ ⟨h1, hle, hpn, hs⟩
  dsimp only at h1 hle hpn hs ⊢
  by_cases e : n < N
  · rw [if_pos e]
    have em : max n 1 = n := by omega
    rw [em]
    exact bin_good W (N - n) p n (by omega) hpn hs
  · rw [if_neg e]
    have : n = N := by omega
    subst this
    exact ⟨hpn, hs⟩
omit W
end
end Mine
end

section
set_option Elab.async false
namespace Mine
open PySem PySem.W PyProof.Rows
section
variable {lt : Nat → Nat → Bool} {N : Nat}
theorem srt_pair {p : Array Nat} (hp : Pre N p N) (hs : Srt lt p N) : p.toList.Pairwise (bf lt) := by
  rw [List.pairwise_iff_getElem]
  intro i j hi hj hij
  have hz := hp.size
  have hi' : i < p.size := by simpa using hi
  have hj' : j < p.size := by simpa using hj
  have := hs i j hij (by omega)
  simpa [Array.getD, hi', hj'] using this
theorem pre_low {p : Array Nat} (hp : Pre N p N) : ∀ x ∈ p.toList, x < N := by
  intro x hx
  obtain ⟨i, hi, rfl⟩ := List.mem_iff_getElem.mp hx
  have hi' : i < p.size := by simpa using hi
  have := hp.low i (by rw [← hp.size]; exact hi')
  simpa [Array.getD, hi'] using this
theorem srt_nodup (W : Weak lt) {p : Array Nat} (hp : Pre N p N) (hs : Srt lt p N) : p.toList.Nodup := by
  unfold List.Nodup
  exact (srt_pair hp hs).imp fun {a b} h (e : a = b) => by subst e; exact bf_irr W h
theorem srt_all (W : Weak lt) {p : Array Nat} (hp : Pre N p N) (hs : Srt lt p N) (y : Nat) : y ∈ p.toList ↔ y < N := by
  refine ⟨pre_low hp y, fun hy => ?_⟩
  by_cases h : y ∈ p.toList
  · exact h
  · exfalso
    have nd : (y :: p.toList).Nodup := List.nodup_cons.mpr ⟨h, srt_nodup W hp hs⟩
    have := List.Nodup.length_le_of_subset nd (l₂ := List.range N) (fun x hx => by
      rw [List.mem_range]
      rcases List.mem_cons.mp hx with rfl | hx
      · exact hy
      · exact pre_low hp x hx)
    simp [hp.size] at this
    omega
/-- there is one order only -/
theorem srt_unique (W : Weak lt) {lt' : Nat → Nat → Bool} (W' : Weak lt') (he : ∀ a b, a < N → b < N → (bf lt a b ↔ bf lt' a b)) {p q : Array Nat} (hp : Pre N p N) (hs : Srt lt p N) (hq : Pre N q N) (hs' : Srt lt' q N) : p = q := by
  apply Array.toList_inj.mp
  have e1 := srt_pair hp hs
  have e2 : q.toList.Pairwise (bf lt) := by
    have := srt_pair hq hs'
    exact this.imp_of_mem fun {a b} ha hb h => (he a b (pre_low hq a ha) (pre_low hq b hb)).mpr h
  refine List.Perm.eq_of_pairwise (le := bf lt) (fun a b _ _ h1 h2 => (bf_asym W h1 h2).elim) e1 e2 ?_
  rw [List.perm_ext_iff_of_nodup (srt_nodup W hp hs) (srt_nodup W' hq hs')]
  intro a
  rw [srt_all W hp hs, srt_all W' hq hs']
end
end Mine
end

section
set_option Elab.async false
namespace Mine
open PySem PySem.W PyProof.Rows

def keyL (k : Key) : List Fl := [.int k.t, k.net, k.oct, .none]
def pnet : Fl → Int
  | .int i => i
  | _ => -1
def poct : Fl → List UInt8
  | .byt b => b
  | _ => []
def plainL (k : Key) : List Fl := [.int k.t, .int (pnet k.net), .byt (poct k.oct)]

/-- the shapes of the keys -/
def Key.ok (k : Key) : Prop :=
  ((k.t = 0 ∨ k.t = 1 ∨ k.t = 5) ∧ k.net = .none ∧ k.oct = .none) ∨ (k.t = 2 ∧ k.net = .none ∧ ∃ b, k.oct = .byt b) ∨
  (k.t = 3 ∧ (∃ i, k.net = .int i) ∧ k.oct = .none) ∨ (k.t = 4 ∧ (∃ i, k.net = .int i) ∧ ∃ b, k.oct = .byt b)
theorem keyOf_ok (n : Int) : (keyOf n).ok := by
  unfold keyOf Key.ok
  (repeat' split) <;> simp

theorem bl_asym : ∀ a b : List UInt8, (Builtin.Bytes.order a b == .lt) = true → (Builtin.Bytes.order b a == .lt) = false
  | [], [], h => by simp [Builtin.Bytes.order] at h
  | [], _ :: _, _ => by simp [Builtin.Bytes.order]
  | _ :: _, [], h => by simp [Builtin.Bytes.order] at h
  | x :: a, y :: b, h => by
    simp only [Builtin.Bytes.order] at h ⊢
    have ih := bl_asym a b
    simp only [gt_iff_lt, UInt8.lt_iff_toNat_lt] at h ⊢
    by_cases h1 : x.toNat < y.toNat
    · rw [if_neg (by omega), if_pos h1]; rfl
    · rw [if_neg h1] at h
      by_cases h2 : y.toNat < x.toNat
      · rw [if_pos h2] at h; simp at h
      · rw [if_neg h2] at h
        rw [if_neg h2, if_neg h1]
        exact ih h
theorem bl_neg : ∀ a b c : List UInt8, (Builtin.Bytes.order a b == .lt) = false → (Builtin.Bytes.order b c == .lt) = false → (Builtin.Bytes.order a c == .lt) = false
  | [], [], [], _, _ => by simp [Builtin.Bytes.order]
  | [], [], _ :: _, _, h => by simp [Builtin.Bytes.order] at h
  | [], _ :: _, _, h, _ => by simp [Builtin.Bytes.order] at h
  | _ :: _, [], [], _, _ => by simp [Builtin.Bytes.order]
  | _ :: _, [], _ :: _, _, h => by simp [Builtin.Bytes.order] at h
  | _ :: _, _ :: _, [], _, _ => by simp [Builtin.Bytes.order]
  | x :: a, y :: b, z :: c, h, g => by
    simp only [Builtin.Bytes.order] at h g ⊢
    have ih := bl_neg a b c
    simp only [gt_iff_lt, UInt8.lt_iff_toNat_lt] at h g ⊢
    have hxy : ¬ x.toNat < y.toNat := fun q => by rw [if_pos q] at h; simp at h
    have hyz : ¬ y.toNat < z.toNat := fun q => by rw [if_pos q] at g; simp at g
    rw [if_neg hxy] at h
    rw [if_neg hyz] at g
    rw [if_neg (by omega)]
    by_cases q : z.toNat < x.toNat
    · rw [if_pos q]; rfl
    · rw [if_neg q]
      rw [if_neg (by omega)] at h g
      exact ih h g
theorem bl_irr (a : List UInt8) : (Builtin.Bytes.order a a == .lt) = false := by
  cases h : (Builtin.Bytes.order a a == .lt) with
  | false => rfl
  | true => have := bl_asym a a h; rw [h] at this; exact this
theorem bl_tot : ∀ a b : List UInt8, (Builtin.Bytes.order a b == .lt) = false → (Builtin.Bytes.order b a == .lt) = false → a = b
  | [], [], _, _ => rfl
  | [], _ :: _, h, _ => by simp [Builtin.Bytes.order] at h
  | _ :: _, [], _, h => by simp [Builtin.Bytes.order] at h
  | x :: a, y :: b, h, g => by
    simp only [Builtin.Bytes.order, gt_iff_lt, UInt8.lt_iff_toNat_lt] at h g
    have hxy : ¬ x.toNat < y.toNat := fun q => by rw [if_pos q] at h; simp at h
    have hyx : ¬ y.toNat < x.toNat := fun q => by rw [if_pos q] at g; simp at g
    rw [if_neg hxy, if_neg hyx] at h
    rw [if_neg hyx, if_neg hxy] at g
    rw [bl_tot a b h g, UInt8.toNat_inj.mp (show x.toNat = y.toNat by omega)]

/-- the order of the plain keys -/
def plt (k l : Key) : Bool := lexLt (plainL k) (plainL l)
theorem plt_iff (k l : Key) : plt k l = true ↔ k.t < l.t ∨ (k.t = l.t ∧ (pnet k.net < pnet l.net ∨ (pnet k.net = pnet l.net ∧ (Builtin.Bytes.order (poct k.oct) (poct l.oct) == .lt) = true))) := by
  unfold plt plainL
  simp only [lexLt, Fl.int.injEq, Fl.byt.injEq, Fl.lt]
  by_cases h1 : k.t = l.t
  · rw [if_pos h1]
    by_cases h2 : pnet k.net = pnet l.net
    · rw [if_pos h2]
      by_cases h3 : poct k.oct = poct l.oct
      · rw [if_pos h3, h3, h1, h2, bl_irr]
        simp
      · rw [if_neg h3]
        constructor
        · intro h; exact .inr ⟨h1, .inr ⟨h2, h⟩⟩
        · rintro (h | ⟨_, h | ⟨_, h⟩⟩)
          · omega
          · omega
          · exact h
    · rw [if_neg h2]
      simp only [decide_eq_true_eq]
      constructor
      · intro h; exact .inr ⟨h1, .inl h⟩
      · rintro (h | ⟨_, h | ⟨h, _⟩⟩)
        · omega
        · exact h
        · exact absurd h h2
  · rw [if_neg h1]
    simp only [decide_eq_true_eq]
    constructor
    · exact .inl
    · rintro (h | ⟨h, _⟩)
      · exact h
      · exact absurd h h1
theorem plt_false (k l : Key) : plt k l = false ↔ ¬ (k.t < l.t ∨ (k.t = l.t ∧ (pnet k.net < pnet l.net ∨ (pnet k.net = pnet l.net ∧ (Builtin.Bytes.order (poct k.oct) (poct l.oct) == .lt) = true)))) := by
  rw [← plt_iff]; simp
theorem plt_asym (k l : Key) (h : plt k l = true) : plt l k = false := by
  rw [plt_iff] at h
  rw [plt_false]
  have := bl_asym (poct k.oct) (poct l.oct)
  rintro (q | ⟨q1, q | ⟨q2, q3⟩⟩)
  · omega
  · omega
  · rcases h with h | ⟨_, h | ⟨_, h⟩⟩
    · omega
    · omega
    · rw [this h] at q3; cases q3
theorem plt_neg (a b c : Key) (h : plt a b = false) (g : plt b c = false) : plt a c = false := by
  rw [plt_false] at h g ⊢
  have := bl_neg (poct a.oct) (poct b.oct) (poct c.oct)
  rintro (q | ⟨q1, q | ⟨q2, q3⟩⟩)
  · apply h; left
    by_cases e : b.t < c.t
    · exact absurd (.inl e) g
    · omega
  · by_cases e1 : a.t < b.t
    · exact h (.inl e1)
    · by_cases e2 : b.t < c.t
      · exact g (.inl e2)
      · have e3 : a.t = b.t := by omega
        have e4 : b.t = c.t := by omega
        by_cases e5 : pnet a.net < pnet b.net
        · exact h (.inr ⟨e3, .inl e5⟩)
        · exact g (.inr ⟨e4, .inl (by omega)⟩)
  · by_cases e1 : a.t < b.t
    · exact h (.inl e1)
    · by_cases e2 : b.t < c.t
      · exact g (.inl e2)
      · have e3 : a.t = b.t := by omega
        have e4 : b.t = c.t := by omega
        by_cases e5 : pnet a.net < pnet b.net
        · exact h (.inr ⟨e3, .inl e5⟩)
        · by_cases e6 : pnet b.net < pnet c.net
          · exact g (.inr ⟨e4, .inl e6⟩)
          · have e7 : pnet a.net = pnet b.net := by omega
            have e8 : pnet b.net = pnet c.net := by omega
            have b1 : (Builtin.Bytes.order (poct a.oct) (poct b.oct) == .lt) = false := by
              cases q : (Builtin.Bytes.order (poct a.oct) (poct b.oct) == .lt) with
              | false => rfl
              | true => exact absurd (.inr ⟨e3, .inr ⟨e7, q⟩⟩) h
            have b2 : (Builtin.Bytes.order (poct b.oct) (poct c.oct) == .lt) = false := by
              cases q : (Builtin.Bytes.order (poct b.oct) (poct c.oct) == .lt) with
              | false => rfl
              | true => exact absurd (.inr ⟨e4, .inr ⟨e8, q⟩⟩) g
            rw [this b1 b2] at q3; cases q3
theorem plt_tot (k l : Key) (h : plt k l = false) (g : plt l k = false) : plainL k = plainL l := by
  rw [plt_false] at h g
  have e1 : k.t = l.t := by
    by_cases a : k.t < l.t
    · exact absurd (.inl a) h
    · by_cases b : l.t < k.t
      · exact absurd (.inl b) g
      · omega
  have e2 : pnet k.net = pnet l.net := by
    by_cases a : pnet k.net < pnet l.net
    · exact absurd (.inr ⟨e1, .inl a⟩) h
    · by_cases b : pnet l.net < pnet k.net
      · exact absurd (.inr ⟨e1.symm, .inl b⟩) g
      · omega
  have e3 : poct k.oct = poct l.oct := by
    refine bl_tot _ _ ?_ ?_
    · cases q : (Builtin.Bytes.order (poct k.oct) (poct l.oct) == .lt) with
      | false => rfl
      | true => exact absurd (.inr ⟨e1, .inr ⟨e2, q⟩⟩) h
    · cases q : (Builtin.Bytes.order (poct l.oct) (poct k.oct) == .lt) with
      | false => rfl
      | true => exact absurd (.inr ⟨e1.symm, .inr ⟨e2.symm, q⟩⟩) g
  unfold plainL
  rw [e1, e2, e3]

theorem kin_plain (k l : Key) : KinL (plainL k) (plainL l) := by
  unfold plainL
  simp [KinL, Fl.kin]
theorem kin_key {k l : Key} (hk : k.ok) (hl : l.ok) : KinL (keyL k) (keyL l) := by
  unfold keyL
  obtain ⟨t, net, oct⟩ := k
  obtain ⟨u, net', oct'⟩ := l
  simp only [Key.ok] at hk hl
  simp only [KinL, Fl.kin, Fl.int.injEq, true_and, and_true, implies_true]
  intro e
  subst e
  rcases hk with ⟨h1, h2, h3⟩ | ⟨h1, h2, b, h3⟩ | ⟨h1, ⟨i, h2⟩, h3⟩ | ⟨h1, ⟨i, h2⟩, b, h3⟩ <;>
  rcases hl with ⟨g1, g2, g3⟩ | ⟨g1, g2, b', g3⟩ | ⟨g1, ⟨i', g2⟩, g3⟩ | ⟨g1, ⟨i', g2⟩, b', g3⟩ <;>
  first
    | (exfalso; omega)
    | (subst h2; subst h3; subst g2; subst g3; simp)
theorem key_lt {k l : Key} (hk : k.ok) (hl : l.ok) : lexLt (keyL k) (keyL l) = plt k l := by
  unfold plt keyL plainL
  obtain ⟨t, net, oct⟩ := k
  obtain ⟨u, net', oct'⟩ := l
  simp only [Key.ok] at hk hl
  simp only [lexLt, Fl.int.injEq]
  by_cases e : t = u
  · subst e
    rw [if_pos rfl, if_pos rfl]
    rcases hk with ⟨h1, h2, h3⟩ | ⟨h1, h2, b, h3⟩ | ⟨h1, ⟨i, h2⟩, h3⟩ | ⟨h1, ⟨i, h2⟩, b, h3⟩ <;>
    rcases hl with ⟨g1, g2, g3⟩ | ⟨g1, g2, b', g3⟩ | ⟨g1, ⟨i', g2⟩, g3⟩ | ⟨g1, ⟨i', g2⟩, b', g3⟩ <;>
    first
      | (exfalso; omega)
      | (subst h2; subst h3; subst g2; subst g3; simp [pnet, poct, Fl.lt]; done)
      | (subst h2; subst h3; subst g2; subst g3; simp only [pnet, poct, Fl.lt, Fl.int.injEq, Fl.byt.injEq]; by_cases q : i = i' <;> simp [q] <;> exact decide_eq_decide.mpr Iff.rfl)
  · rw [if_neg e, if_neg e]

/-- the places of a list of keys, by their keys -/
def ltK (ks : List Key) (i j : Nat) : Bool := plt (ks.getD i ⟨0, .none, .none⟩) (ks.getD j ⟨0, .none, .none⟩)
/-- the same, the place deciding between equals -/
def ltP (ks : List Key) (i j : Nat) : Bool :=
  if plainL (ks.getD i ⟨0, .none, .none⟩) = plainL (ks.getD j ⟨0, .none, .none⟩) then decide (i < j) else ltK ks i j
theorem weakK (ks : List Key) : Weak (ltK ks) := ⟨fun _ _ h => plt_asym _ _ h, fun _ _ _ h g => plt_neg _ _ _ h g⟩
theorem plt_same {k l : Key} (h : plainL k = plainL l) : plt k l = false := by
  unfold plt
  rw [h]
  cases q : lexLt (plainL l) (plainL l) with
  | false => rfl
  | true => have := plt_asym l l q; unfold plt at this; rw [q] at this; exact this
theorem bf_ltP (ks : List Key) (i j : Nat) : bf (ltK ks) i j ↔ ltP ks i j = true := by
  unfold bf ltP ltK
  generalize ks.getD i ⟨0, .none, .none⟩ = k
  generalize ks.getD j ⟨0, .none, .none⟩ = l
  by_cases e : plainL k = plainL l
  · rw [if_pos e, plt_same e, plt_same e.symm]
    simp
  · rw [if_neg e]
    constructor
    · rintro ⟨h1, h2 | h2⟩
      · exact h2
      · cases q : plt k l with
        | true => rfl
        | false => exact absurd (plt_tot k l q h1) e
    · intro h
      exact ⟨plt_asym _ _ h, .inl h⟩
theorem weakP (ks : List Key) : Weak (ltP ks) := by
  have W := weakK ks
  have tot : ∀ a b, a ≠ b → ltP ks a b = false → ltP ks b a = true := fun a b hne h => by
    unfold ltP ltK at h ⊢
    generalize ks.getD a ⟨0, .none, .none⟩ = k at h ⊢
    generalize ks.getD b ⟨0, .none, .none⟩ = l at h ⊢
    by_cases e : plainL k = plainL l
    · rw [if_pos e] at h
      rw [if_pos e.symm]
      simp at h ⊢
      omega
    · rw [if_neg e] at h
      rw [if_neg (fun q => e q.symm)]
      cases q : plt l k with
      | true => rfl
      | false => exact absurd (plt_tot k l h q) e
  have irr : ∀ a, ltP ks a a = false := fun a => by
    unfold ltP; simp
  refine ⟨fun a b h => ?_, fun a b c h g => ?_⟩
  · cases q : ltP ks b a with
    | false => rfl
    | true => exact (bf_asym W ((bf_ltP ks a b).mpr h) ((bf_ltP ks b a).mpr q)).elim
  · cases q : ltP ks a c with
    | false => rfl
    | true =>
      exfalso
      by_cases e1 : a = b
      · subst e1; rw [q] at g; cases g
      · by_cases e2 : b = c
        · subst e2; rw [q] at h; cases h
        · have h1 := (bf_ltP ks b a).mpr (tot a b e1 h)
          have h2 := (bf_ltP ks c b).mpr (tot b c e2 g)
          exact bf_asym W ((bf_ltP ks a c).mpr q) (bf_trans W h2 h1)
theorem bf_same (ks : List Key) (i j : Nat) : bf (ltK ks) i j ↔ bf (ltP ks) i j := by
  rw [bf_ltP]
  constructor
  · exact bf_of_lt (weakP ks)
  · rintro ⟨h1, h2 | h2⟩
    · exact h2
    · cases q : ltP ks i j with
      | true => rfl
      | false =>
        exfalso
        unfold ltP at h1 q
        by_cases e : plainL (ks.getD i ⟨0, .none, .none⟩) = plainL (ks.getD j ⟨0, .none, .none⟩)
        · rw [if_pos e] at q
          simp at q
          omega
        · rw [if_neg e] at q
          rw [if_neg (fun z => e z.symm)] at h1
          exact e (plt_tot _ _ q h1)
end Mine
end

section
open PySem PySem.W PyProof.Rows
set_option Elab.async false
namespace Mine
open PySem PySem.Spec PySem.Calls PySem.W PyProof.Rows

local macro_rules | `(tactic| walk_at "call builtin:_struct.pack") => `(tactic| (k_here; (with_unfolding_all refine' pack_B ?a ?b ?_; (case a => first | assumption | l_fact | omega); (case b => first | assumption | l_fact | omega); k_whole); intro _ _))
local macro_rules | `(tactic| k_room) => `(tactic| ((try simp only [depth_mark, depth_under_make, depth_under_kw, depth_in1, depth_deeper, depth_caller]); (try dsimp only [ktrTop]); (have hR9 : recursionLimit = 1000 := rfl); omega))
local macro_rules | `(tactic| k_units) => `(tactic| ((try simp only [units_in1, units_deeper, Around.mark_units, units_caller]); (try dsimp only [ktrTop]); (have hR9 : cLine = 9900 := rfl); omega))
local macro_rules | `(tactic| walk_at "call type:bytes") => `(tactic| (k_here; (with_unfolding_all refine' call_bytes_bytes ?_); k_whole))



set_option maxRecDepth 100000 in
set_option maxHeartbeats 8000000 in
theorem law_make_spec (w : World) {loose : List Str} {mean : ExcName → Option Value} {mg mb : Str → Option Value} {p : Program}
    {dp un : Nat} {gd : Option (List Code)} {cn : Str} {cs : Scope} {a : Addr} {ccd : Value} {cl : List (Str × Addr)} {outer : List Env} {A₀ : Around} {base h₀ : Heap} {L : Addr} {m : Str → Option Value} {news : List (Addr × Obj)} {s : Shared}
    {Q E : Value → Shared → Prop} {n : Int} {t : Tok}
    (B : Below A₀ base outer h₀) (F : Fr h₀ L s.heap m) (X : (Mine.hd.heap_39 w.params).In h₀) (N : News h₀ L s.heap news) (T : Top p loose mean mg mb h₀) (hk : cs.kind = .function)
    (hd : dp + 8 < recursionLimit) (hu : un + 60 < cLine)
    (ret : ∀ (r : Value) (h' : Heap) (tk' : Nat) (led : List (Addr × Obj)), Fr h₀ L h' m → News h₀ L h' led → (∀ p ∈ news, p ∈ led) → RowNew news led r (keyOf n) → Q r { s with heap := h', toks := tk' }) :
    wpAny (model PySem.Challenge.rw_fb5003_01.row.prog w) (ktrTop dp un gd cn cs L a ccd cl outer) (call (.ref 271) [.int n t]) Q E s := by
  revert X; k_fill; intro X
  refine wpAny_call ?_
  k_dflt ktr_enter
  k_steps
  all_goals (
    first
      | rw [keyOf_0 (by assumption)] at ret
      | rw [keyOf_1 (by assumption)] at ret
      | rw [keyOf_2 (by assumption)] at ret
      | rw [keyOf_3 (by assumption)] at ret
      | rw [keyOf_4 (by assumption)] at ret
      | rw [keyOf_5 (by assumption)] at ret
      | rw [keyOf_6 (by assumption)] at ret
      | rw [keyOf_7 (by assumption)] at ret
      | rw [keyOf_8 (by assumption) (by assumption) (by assumption) (by assumption) (by assumption) (by assumption) (by assumption) (by assumption)] at ret
    (repeat ((rename _ ∧ _ => hh); (obtain ⟨h1, h2⟩ := hh)))
    refine ret _ _ _ _ (by assumption) (by assumption) ?_ ?_
    · (intro p9 h9; repeat (first | exact h9 | refine List.Mem.tail _ ?_))
    refine row_new (by k_mem) (by k_mem) (by k_mem) (by k_mem) (by assumption) (by assumption) (by first | assumption | exact allLt_up (by assumption) (by assumption)) (by assumption) (by simp [isCls])
      (by k_get) (by k_get) (by k_get) (by k_get) ?_ ?_ ?_ ?_ ?_ ?_
    all_goals (first | exact .none | exact .int _ _ | exact .byt _ _))
end Mine
end

section
open PySem PySem.W PyProof.Rows
set_option Elab.async false
namespace Mine
open PySem PySem.Spec PySem.Calls PySem.W PyProof.Rows

local macro_rules | `(tactic| k_room) => `(tactic| ((try simp only [depth_mark, depth_under_make, depth_under_kw, depth_in1, depth_deeper, depth_caller]); (try dsimp only [ktrTop]); (have hR9 : recursionLimit = 1000 := rfl); omega))
local macro_rules | `(tactic| k_units) => `(tactic| ((try simp only [units_in1, units_deeper, Around.mark_units, units_caller]); (try dsimp only [ktrTop]); (have hR9 : cLine = 9900 := rfl); omega))
local macro_rules | `(tactic| k_get) => `(tactic| assumption)
local macro_rules | `(tactic| k_handed) => `(tactic| assumption)
theorem FlIs.handed {v : Value} {d : Fl} (h : FlIs v d) : handedIn v = true := by cases h <;> rfl

set_option maxRecDepth 100000 in
set_option maxHeartbeats 8000000 in
theorem tuple_spec (w : World) {loose : List Str} {mean : ExcName → Option Value} {mg mb : Str → Option Value} {p : Program}
    {dp un : Nat} {gd : Option (List Code)} {cn : Str} {cs : Scope} {a : Addr} {ccd : Value} {cl : List (Str × Addr)} {outer : List Env} {A₀ : Around} {base h₀ : Heap} {L : Addr} {m : Str → Option Value} {news : List (Addr × Obj)} {s : Shared}
    {Q E : Value → Shared → Prop} {x : Addr} {k : Key}
    (B : Below A₀ base outer h₀) (F : Fr h₀ L s.heap m) (X : (Mine.hd.heap_39 w.params).In h₀) (N : News h₀ L s.heap news) (T : Top p loose mean mg mb h₀) (hk : cs.kind = .function)
    (hd : dp + 2 < recursionLimit) (hu : un + 20 < cLine) (hx : ObjIn news x k)
    (ret : ∀ (D : Addr) (h' : Heap) (tk' : Nat) (v1 v2 v3 : Value), Fr h₀ L h' m → News h₀ L h' ((D, tupObj [v1, v2, v3, .none] 0) :: news) → (∀ q ∈ news, q.1 < D) → FlIs v1 (.int k.t) → FlIs v2 k.net → FlIs v3 k.oct →
      Q (.ref D) { s with heap := h', toks := tk' }) :
    wpAny (model PySem.Challenge.rw_fb5003_01.row.prog w) (ktrTop dp un gd cn cs L a ccd cl outer) (call (.ref 129) [.ref x]) Q E s := by
  revert X; k_fill; intro X
  obtain ⟨C, dx, es, n, vt, vn, va, hC, mx, md, g1, g2, g3, g4, f1, f2, f3⟩ := hx
  have i1 := f1.handed
  have i2 := f2.handed
  have i3 := f3.handed
  rcases hC with rfl | rfl | rfl | rfl | rfl | rfl
  all_goals (
    refine wpAny_call ?_
    k_dflt ktr_enter
    k_steps
    refine ret _ _ _ _ _ _ (by assumption) (by assumption) (by assumption) f1 f2 f3)

/-- what the walk asks of the classes -/
structure ClsOk (K : Frag) (C : Addr) : Prop where
  get : plainGet K C (Str.ofString "_tuple") = true
  tup : findIn K (.ref C) (Str.ofString "_tuple") = some (some (.ref 129))
  lt : findIn K (.ref C) (Str.ofString "__lt__") = some (some (.ref 157))
  gt : findIn K (.ref C) (Str.ofString "__gt__") = some (some (.builtin "object.__gt__"))
  obj : subIn K (.ref C) (.type "object") = some true
  fT : isFn K (.ref 129) = true
  fL : isFn K (.ref 157) = true
  sub : ∀ C', isCls C' → ∃ b, subIn K (.ref C') (.ref C) = some b
theorem cls_ok (w : World) (_e : PySem.Challenge.rw_fb5003_01.foot = 3) : ∀ C, isCls C → ClsOk (Mine.hd.heap_39 w.params) C := by
  revert _e; k_fill; intro _
  rintro C (rfl | rfl | rfl | rfl | rfl | rfl)
  all_goals (
    refine ⟨by k_is, by k_is, by k_is, by k_is, by k_is, by k_is, by k_is, ?_⟩
    rintro C (rfl | rfl | rfl | rfl | rfl | rfl) <;> exact ⟨_, by k_is⟩)
section
variable {prog : Program} {w : World} {A : Around} {E : Value → Shared → Prop} {s : Shared} {K : Frag} {h₀ : Heap} {L : Addr} {m : Str → Option Value} {news led : List (Addr × Obj)} {x y : Addr} {k l : Key}
theorem method_obj {pl : Sem Bool} {Q : Value × List Value → Shared → Prop} (hc : ∀ C, isCls C → ClsOk K C) (F : Fr h₀ L s.heap m) (X : K.In h₀) (N : News h₀ L s.heap news) (hx : ObjIn led x k) (hs : ∀ p ∈ led, p ∈ news) (h : Q (.ref 129, [.ref x]) s) :
    wpAny (model prog w) A (getMethod (.ref x) (Str.ofString "_tuple") pl) Q E s := by
  obtain ⟨C, dx, es, n, vt, vn, va, hC, mx, md, g1, g2, g3, g4, f1, f2, f3⟩ := hx
  exact method_inst F X (InstAt.of_news N (hs _ mx) (hs _ md)) (hc C hC).get (hc C hC).tup (hc C hC).fT g4 h
theorem isTup_of {h : Heap} {a : Addr} {vs : List Value} {c : Nat} (N : News h₀ L h news) (hm : (a, tupObj vs c) ∈ news) : IsTup h a vs.toArray := ⟨_, (N _ hm).1, rfl, c, rfl⟩
theorem flAll4 {v1 v2 v3 : Value} {k : Key} (f1 : FlIs v1 (.int k.t)) (f2 : FlIs v2 k.net) (f3 : FlIs v3 k.oct) : FlAll [v1, v2, v3, .none] (keyL k) := .cons f1 (.cons f2 (.cons f3 (.cons .none .nil)))
end

local macro_rules | `(tactic| walk_at "getMethod ref") => `(tactic| (k_here; (k_dflt (refine' method_obj (by assumption) ?k1 ?k2 ?k3 ?k4 ?k5 ?_; (case k1 => k_asm); (case k2 => k_asm); (case k3 => k_asm); (case k4 => assumption); (case k5 => (intro p9 h9; repeat (first | exact h9 | refine List.Mem.tail _ ?_))); k_whole))))
local macro_rules | `(tactic| walk_at "compareOp Lt ref") => `(tactic| (k_here; (refine cmp_ofLt ?_); k_dflt (refine' tup_rich_lt ?hu (isTup_of ?N1 ?M1) (isTup_of ?N2 ?M2) ?A1 ?A2 ?kin ?_; (case hu => k_units); (case N1 => k_asm); (case M1 => k_mem); (case N2 => k_asm); (case M2 => k_mem); (case A1 => exact flAll4 (by assumption) (by assumption) (by assumption)); (case A2 => exact flAll4 (by assumption) (by assumption) (by assumption)); (case kin => assumption); k_whole)))
local macro_rules | `(tactic| walk_at "call ref") => `(tactic| (k_here; (k_dflt (refine' tuple_spec _ ?k1 ?k2 ?k3 ?k4 ?k5 ?kK ?kd ?ku ?kx ?_; (case k1 => k_asm); (case k2 => k_asm); (case k3 => k_asm); (case k4 => k_asm); (case k5 => k_asm); (case kK => first | exact rfl | assumption); (case kd => k_room); (case ku => k_units); (case kx => refine' ObjIn.mono (by assumption) ?s; (case s => (intro p9 h9; repeat (first | exact h9 | refine List.Mem.tail _ ?_)))); k_whole)); intro D' h' tk' v1' v2' v3' F' N' l1' f1' f2' f3'; (try dsimp only); (try k_fold)))

set_option maxRecDepth 100000 in
set_option maxHeartbeats 8000000 in
theorem lt_spec (w : World) {loose : List Str} {mean : ExcName → Option Value} {mg mb : Str → Option Value} {p : Program}
    {dp un : Nat} {gd : Option (List Code)} {cn : Str} {cs : Scope} {a : Addr} {ccd : Value} {cl : List (Str × Addr)} {outer : List Env} {A₀ : Around} {base h₀ : Heap} {L : Addr} {m : Str → Option Value} {news : List (Addr × Obj)} {s : Shared}
    {Q E : Value → Shared → Prop} {x y : Addr} {k l : Key}
    (B : Below A₀ base outer h₀) (F : Fr h₀ L s.heap m) (X : (Mine.hd.heap_39 w.params).In h₀) (N : News h₀ L s.heap news) (T : Top p loose mean mg mb h₀) (hk : cs.kind = .function)
    (hd : dp + 5 < recursionLimit) (hu : un + 50 < cLine) (hx : ObjIn news x k) (hy : ObjIn news y l) (hkl : KinL (keyL k) (keyL l))
    (ret : ∀ (h' : Heap) (tk' : Nat), Fr h₀ L h' m → News h₀ L h' news → Q (.bool (lexLt (keyL k) (keyL l))) { s with heap := h', toks := tk' }) :
    wpAny (model PySem.Challenge.rw_fb5003_01.row.prog w) (ktrTop dp un gd cn cs L a ccd cl outer) (call (.ref 157) [.ref x, .ref y]) Q E s := by
  have hc := cls_ok w rfl
  revert X; k_fill; intro X
  refine wpAny_call ?_
  k_dflt ktr_enter
  k_steps
  (rename News _ _ _ _ => kN)
  exact ret _ _ (by assumption) (fun p hp => kN p (.tail _ (.tail _ hp)))

set_option maxRecDepth 100000 in
set_option maxHeartbeats 8000000 in
theorem plain_spec (w : World) {loose : List Str} {mean : ExcName → Option Value} {mg mb : Str → Option Value} {p : Program}
    {dp un : Nat} {gd : Option (List Code)} {cn : Str} {cs : Scope} {a : Addr} {ccd : Value} {cl : List (Str × Addr)} {outer : List Env} {A₀ : Around} {base h₀ : Heap} {L : Addr} {m : Str → Option Value} {news : List (Addr × Obj)} {s : Shared}
    {Q E : Value → Shared → Prop} {d : Addr} {c : Nat} {v1 v2 v3 : Value} {k : Key}
    (B : Below A₀ base outer h₀) (F : Fr h₀ L s.heap m) (X : (Mine.hd.heap_39 w.params).In h₀) (N : News h₀ L s.heap news) (T : Top p loose mean mg mb h₀) (hk : cs.kind = .function)
    (hd : dp + 2 < recursionLimit) (hu : un + 20 < cLine) (hm : (d, tupObj [v1, v2, v3] c) ∈ news) (f1 : FlIs v1 (.int k.t)) (f2 : FlIs v2 k.net) (f3 : FlIs v3 k.oct) (ok : k.ok)
    (ret : ∀ (D : Addr) (h' : Heap) (tk' : Nat) (u1 u2 u3 : Value), Fr h₀ L h' m → News h₀ L h' ((D, tupObj [u1, u2, u3] 0) :: news) → (∀ q ∈ news, q.1 < D) → FlAll [u1, u2, u3] (plainL k) →
      Q (.ref D) { s with heap := h', toks := tk' }) :
    wpAny (model PySem.Challenge.rw_fb5003_01.row.prog w) (ktrTop dp un gd cn cs L a ccd cl outer) (call (.ref 278) [.ref d]) Q E s := by
  revert X; k_fill; intro X
  obtain ⟨t, net, oct⟩ := k
  simp only [Key.ok] at ok
  simp only [plainL] at ret
  dsimp only at f1 f2 f3
  have ok' : (net = .none ∨ ∃ i, net = .int i) ∧ (oct = .none ∨ ∃ b, oct = .byt b) := by
    rcases ok with ⟨h1, h2, h3⟩ | ⟨h1, h2, b, h3⟩ | ⟨h1, ⟨i, h2⟩, h3⟩ | ⟨h1, ⟨i, h2⟩, b, h3⟩ <;> simp [h2, h3]
  clear ok
  obtain ⟨rfl | ⟨i, rfl⟩, rfl | ⟨b, rfl⟩⟩ := ok'
  all_goals (
    cases f1; cases f2; cases f3
    refine wpAny_call ?_
    k_dflt ktr_enter
    k_steps
    refine ret _ _ _ _ _ _ (by assumption) (by assumption) (by assumption) (.cons (.int _ _) (.cons (.int _ _) (.cons (.byt _ _) .nil))))
end Mine
end

section
set_option Elab.async false
set_option maxRecDepth 100000
namespace Mine
open PySem PySem.Spec PySem.Calls PySem.W PyProof.Rows

section
variable {prog : Program} {w : World} {A : Around} {E : Value → Shared → Prop} {R : Result → Shared → Prop} {s : Shared} {h₀ : Heap} {L : Addr} {m : Str → Option Value} {news : List (Addr × Obj)}

/-- what an element of a comprehension does: it may make things, it changes nothing -/
def EltDoes (prog : Program) (w : World) (A : Around) (h₀ : Heap) (L : Addr) (m : Str → Option Value) (news : List (Addr × Obj)) (s : Shared) (elt : Expr) (x : Str) (n : Nat) (P : Nat → Value → Prop)
    (Elt : List (Addr × Obj) → Nat → Value → Prop) (cenv : Env) : Prop :=
  ∀ (own tl : List (Addr × Obj)) (i : Nat) (v : Value) (h : Heap) (tk : Nat) (m₂ : Str → Option Value) (E' : Value → Shared → Prop) (QQ : Value → Shared → Prop), i < n → P i v → h.Ns cenv.locals m₂ → m₂ x = some v →
    Fr h₀ L h m → News h₀ L h (own ++ (news ++ tl)) → (∃ oC, (cenv.locals, oC) ∈ own ∧ LCg.NsObj oC m₂) →
    (∀ y h' tk' tl', Fr h₀ L h' m → News h₀ L h' (own ++ (news ++ tl)) → News h₀ L h' tl' → (∀ q ∈ own ++ (news ++ tl), ∀ p ∈ tl', q.1 < p.1) → Elt (news ++ (tl ++ tl')) i y → QQ y { s with heap := h', toks := tk' }) →
    wpAny (model prog w) A (eval elt cenv) QQ E' { s with heap := h, toks := tk }

theorem comp_loop {elt iter : Expr} {x : Str} {px : Pos} {scope : Scope} {pos : Pos} {I D : Addr} {fp wr : List Addr} {n : Nat} {P : Nat → Value → Prop} {St : Nat → Heap → Prop} {cenv : Env} {mC : Str → Option Value}
    {Elt : List (Addr × Obj) → Nat → Value → Prop} (mono : ∀ led led' i y, (∀ p ∈ led, p ∈ led') → Elt led i y → Elt led' i y)
    (W : Walks prog w A I fp wr n P St)
    (hx : cenv.kindOf x = some .local) (hp : (cenv.scope.kind == .class || (cenv.scope.kind == .module && cenv.locals != cenv.globals)) = false)
    (hDC : D ≠ cenv.locals) (hDf : D ∉ fp) (hCf : cenv.locals ∉ fp) (hLD : L ≠ D) (hLC : L ≠ cenv.locals) (hLf : L ∉ fp) (hD0 : h₀.get? D = none) (hC0 : h₀.get? cenv.locals = none) (hwr : ∀ b ∈ wr, h₀.get? b = none)
    (hst : St 0 s.heap) (hacc : s.heap.PlainList D #[]) (hn : s.heap.Ns cenv.locals mC) (F : Fr h₀ L s.heap m) (N : News h₀ L s.heap news)
    (hnD : ∀ p ∈ news, p.1 ≠ D) (hnC : ∀ p ∈ news, p.1 ≠ cenv.locals) (hnw : ∀ p ∈ news, p.1 ∉ wr) (liveS : ∀ i h, St i h → ∀ b ∈ wr, ∃ o, h.get? b = some o)
    (helt : EltDoes prog w A h₀ L m news s elt x n P Elt cenv)
    (hR : ∀ h' tk mC' ys tl, h'.Ns cenv.locals mC' → h'.PlainList D ys → Fr h₀ L h' m → News h₀ L h' (news ++ tl) → (∀ q ∈ news, ∀ p ∈ tl, q.1 < p.1) → (∀ p ∈ tl, p.1 ≠ D ∧ p.1 ≠ cenv.locals) → ys.size = n → (∀ j, j < n → ∃ v, P j v ∧ Elt (news ++ tl) j (ys.getD j .none)) →
      R (.ok .next) { s with heap := h', toks := tk })
    (hsz : n ≤ sizeLine) :
    codeAny (model prog w) A (.compLoop (.ListComp elt [⟨.Name x px, iter, [], 0⟩] scope pos) 0 (.ref I) (.ref D) cenv) R s := by
  refine codeAny_compLoop_list
    (fun k s' => ∃ i h' tk mC' ys tl, s' = { s with heap := h', toks := tk } ∧ St i h' ∧ h'.PlainList D ys ∧ h'.Ns cenv.locals mC' ∧ Fr h₀ L h' m ∧ News h₀ L h' (news ++ tl) ∧ (∀ q ∈ news, ∀ p ∈ tl, q.1 < p.1) ∧ (∀ p ∈ tl, p.1 ≠ D ∧ p.1 ≠ cenv.locals ∧ p.1 ∉ wr) ∧
      ys.size = i ∧ (∀ j, j < i → ∃ v, P j v ∧ Elt (news ++ tl) j (ys.getD j .none)) ∧ i ≤ n ∧ k = n + 1 - i) ?_ (n + 1)
    ⟨0, s.heap, s.toks, mC, #[], [], rfl, hst, hacc, hn, F, by simpa using N, (fun _ _ _ h => nomatch h), (fun _ h => nomatch h), rfl, fun j hj => absurd hj (Nat.not_lt_zero _), Nat.zero_le _, rfl⟩
  rintro k s' ⟨i, H, tk, mC', ys, tl, rfl, hst', hacc', hn', F', N', hord, htl, hsz', hE, hi, rfl⟩
  have hCw : cenv.locals ∉ wr := fun h => hCf (W.sub _ h)
  have hDw : D ∉ wr := fun h => hDf (W.sub _ h)
  have hLw : L ∉ wr := fun h => hLf (W.sub _ h)
  have off : ∀ p ∈ news ++ tl, p.1 ≠ D ∧ p.1 ≠ cenv.locals ∧ p.1 ∉ wr := fun p hp => by
    rcases List.mem_append.mp hp with h | h
    · exact ⟨hnD p h, hnC p h, hnw p h⟩
    · exact htl p h
  have frk : ∀ {h h' : Heap}, Fr h₀ L h m → (∀ b o, h.get? b = some o → h₀.get? b = some o ∨ b = L → h'.get? b = some o) → Fr h₀ L h' m := fun {h h'} G hk =>
    ⟨G.ns.at' fun o e => hk L o e (.inr rfl), fun b o e => hk b o (G.keep b o e) (.inl e), G.above⟩
  by_cases hlt : i < n
  · refine W.item i _ _ _ hlt hst' fun v h₁ tk₁ hPv hst₁ hk₁ => ?_
    have F₁ : Fr h₀ L h₁ m := frk F' fun b o e q => hk₁ b o (fun hb => by
      rcases q with q | q
      · rw [hwr b hb] at q; cases q
      · exact hLw (q ▸ hb)) e
    have N₁ : News h₀ L h₁ (news ++ tl) := fun p hp' => ⟨hk₁ _ _ (off p hp').2.2 (N' p hp').1, (N' p hp').2⟩
    refine wpAny_assign_Name (wpAny_storeName_local hx (hn'.at' fun o e => hk₁ _ o hCw e) (fun h₂ hn₂ hs₂ => ?_) hp)
    have hst₂ : St (i + 1) h₂ := W.frame _ _ _ hst₁ fun b hb o e => hs₂.extBut b o (fun h => hCf (h ▸ hb)) e
    have hacc₂ : h₂.PlainList D ys := (hacc'.at fun o e => hk₁ _ o hDw e).extBut hs₂.extBut hDC
    have F₂ : Fr h₀ L h₂ m := frk F₁ fun b o e q => hs₂.extBut b o (fun z => by
      rcases q with q | q
      · rw [z, hC0] at q; cases q
      · exact hLC (q.symm.trans z)) e
    have N₂ : News h₀ L h₂ (news ++ tl) := fun p hp' => ⟨hs₂.extBut _ _ (off p hp').2.1 (N₁ p hp').1, (N₁ p hp').2⟩
    have hLo : L ∉ cenv.locals :: D :: fp := by
      intro hm
      rcases List.mem_cons.mp hm with h | hm
      · exact hLC h
      · rcases List.mem_cons.mp hm with h | hm
        · exact hLD h
        · exact hLf hm
    have No : News h₀ L h₂ (ownOf h₀ (cenv.locals :: D :: fp) h₂) := news_ownOf hLo
    obtain ⟨oC, hoC, hNsO⟩ := LCg.ns_obj hn₂
    obtain ⟨nD, hoD⟩ := id hacc₂
    have hCo : (cenv.locals, oC) ∈ ownOf h₀ (cenv.locals :: D :: fp) h₂ := mem_ownOf (.head _) hC0 hoC
    have hDo : (D, _) ∈ ownOf h₀ (cenv.locals :: D :: fp) h₂ := mem_ownOf (.tail _ (.head _)) hD0 hoD
    refine helt _ tl i v h₂ _ _ _ _ hlt hPv hn₂ (by simp) F₂ (No.append N₂) ⟨oC, hCo, hNsO⟩ fun y h₃ tk₃ tl' F₃ N₃ Nt hlt' hy => ?_
    have keep : ∀ b ∈ cenv.locals :: D :: fp, ∀ o, h₂.get? b = some o → h₃.get? b = some o := fun b hb o e => by
      cases q : h₀.get? b with
      | some o' =>
        have e1 := F₂.keep b o' q
        rw [e] at e1; cases e1
        exact F₃.keep b o q
      | none => exact (N₃ _ (List.mem_append_left _ (mem_ownOf hb q e))).1
    have hst₃ : St (i + 1) h₃ := W.frame _ _ _ hst₂ fun b hb o e => keep b (.tail _ (.tail _ hb)) o e
    have hacc₃ : h₃.PlainList D ys := hacc₂.at fun o e => keep D (.tail _ (.head _)) o e
    have hn₃ : h₃.Ns cenv.locals _ := hn₂.at' fun o e => keep _ (.head _) o e
    have offt : ∀ p ∈ tl', p.1 ≠ D ∧ p.1 ≠ cenv.locals ∧ p.1 ∉ wr := fun p hp' =>
      ⟨fun q => absurd (hlt' _ (List.mem_append_left _ hDo) p hp') (by rw [q]; exact Nat.lt_irrefl _), fun q => absurd (hlt' _ (List.mem_append_left _ hCo) p hp') (by rw [q]; exact Nat.lt_irrefl _), fun q => by
        obtain ⟨o, ho⟩ := liveS _ _ hst₂ _ q
        exact absurd (hlt' (p.1, o) (List.mem_append_left _ (mem_ownOf (.tail _ (.tail _ (W.sub _ q))) (hwr _ q) ho)) p hp') (Nat.lt_irrefl _)⟩
    have off₃ : ∀ p ∈ news ++ (tl ++ tl'), p.1 ≠ D ∧ p.1 ≠ cenv.locals ∧ p.1 ∉ wr := fun p hp' => by
      rcases List.mem_append.mp hp' with h | h
      · exact off p (List.mem_append_left _ h)
      · rcases List.mem_append.mp h with h | h
        · exact off p (List.mem_append_right _ h)
        · exact offt p h
    have N₃' : News h₀ L h₃ (news ++ (tl ++ tl')) := fun p hp' => by
      rcases List.mem_append.mp hp' with h | h
      · exact N₃ p (List.mem_append_right _ (List.mem_append_left _ h))
      · rcases List.mem_append.mp h with h | h
        · exact N₃ p (List.mem_append_right _ (List.mem_append_right _ h))
        · exact Nt p h
    have hys : ys.size ≤ sizeLine := by omega
    refine wpAny_list_append_plain (hsz := hys) hacc₃ fun h₅ hl₅ hs₅ => ?_
    refine ⟨n + 1 - (i + 1), by omega, i + 1, h₅, tk₃, _, ys.push y, tl ++ tl', rfl, W.frame _ _ _ hst₃ fun b hb o e => hs₅.extBut b o (fun h => hDf (h ▸ hb)) e, hl₅, hn₃.sameBut hs₅ (Ne.symm hDC), ?_, fun p hp' => ⟨hs₅.extBut _ _ (off₃ p hp').1 (N₃' p hp').1, (N₃' p hp').2⟩, ?_, ?_, by rw [Array.size_push, hsz'], ?_, by omega, rfl⟩
    · exact frk F₃ fun b o e q => hs₅.extBut b o (fun z => by
        rcases q with q | q
        · rw [z, hD0] at q; cases q
        · exact hLD (q.symm.trans z)) e
    · intro q hq p hp'
      rcases List.mem_append.mp hp' with h | h
      · exact hord q hq p h
      · exact hlt' q (List.mem_append_right _ (List.mem_append_left _ hq)) p h
    · intro p hp'
      exact off₃ p (List.mem_append_right _ hp')
    · intro j hj
      by_cases e : j < i
      · obtain ⟨v', hv', hy'⟩ := hE j e
        refine ⟨v', hv', ?_⟩
        have eg : (ys.push y).getD j .none = ys.getD j .none := by
          have : j < ys.size := by omega
          simp [Array.getD, this, Nat.lt_succ_of_lt this, Array.getElem_push_lt]
        rw [eg]
        exact mono _ _ _ _ (fun p hp' => by
          rcases List.mem_append.mp hp' with h | h
          · exact List.mem_append_left _ h
          · exact List.mem_append_right _ (List.mem_append_left _ h)) hy'
      · have e2 : j = i := by omega
        subst e2
        refine ⟨v, hPv, ?_⟩
        have eg : (ys.push y).getD j .none = y := by
          simp [Array.getD, ← hsz']
        rw [eg]
        exact hy
  · have e : i = n := by omega
    subst e
    refine W.done _ _ _ hst' fun h₁ tk₁ hk₁ => ?_
    have F₁ : Fr h₀ L h₁ m := frk F' fun b o e q => hk₁ b o (fun hb => by
      rcases q with q | q
      · rw [hwr b hb] at q; cases q
      · exact hLw (q ▸ hb)) e
    have N₁ : News h₀ L h₁ (news ++ tl) := fun p hp' => ⟨hk₁ _ _ (off p hp').2.2 (N' p hp').1, (N' p hp').2⟩
    exact hR h₁ tk₁ mC' ys tl (hn'.at' fun o e => hk₁ _ o hCw e) (hacc'.at fun o e => hk₁ _ o hDw e) F₁ N₁ hord (fun p hp' => ⟨(htl p hp').1, (htl p hp').2.1⟩) hsz' hE

theorem comp_any {env : Env} {elt iter : Expr} {x : Str} {px : Pos} {scope : Scope} {cl : List (Str × Addr)} {pos : Pos} {Q : Value → Shared → Prop} {Elt : List (Addr × Obj) → Nat → Value → Prop} (mono : ∀ led led' i y, (∀ p ∈ led, p ∈ led') → Elt led i y → Elt led' i y)
    (hclos : closureFor scope env = pure cl) (hcell : ∀ y ∈ scope.names, y.2 ≠ .cell) (hkind : scope.kind = .function)
    (hnames : ∀ y ∈ scope.names, y.2 = .local → scope.names.lookup y.1 = some .local) (hx : scope.names.lookup x = some .local)
    (h : wpAny (model prog w) A (eval iter env) (fun xv s₁ => wpAny (model prog w) A (pyIter xv) (fun it s₂ => ∃ I fp wr n P St, ∃ news : List (Addr × Obj), it = .ref I ∧ Walks prog w A I fp wr n P St ∧ n ≤ sizeLine ∧ St 0 s₂.heap ∧ (∀ b ∈ fp, b < s₂.heap.objs.size) ∧ L ∉ fp ∧
      (∀ b ∈ wr, h₀.get? b = none) ∧ (∀ p ∈ news, p.1 ∉ wr) ∧ (∀ i h, St i h → ∀ b ∈ wr, ∃ o, h.get? b = some o) ∧ Fr h₀ L s₂.heap m ∧ News h₀ L s₂.heap news ∧
      (∀ C, s₂.heap.objs.size ≤ C → EltDoes prog w A h₀ L m news s₂ elt x n P Elt (compEnvC scope cl C env)) ∧
      (∀ D ys h' tk tl c, Fr h₀ L h' m → News h₀ L h' ((D, seqObj "list" ys c) :: (news ++ tl)) → (∀ q ∈ news, ∀ p ∈ tl, q.1 < p.1) → (∀ q ∈ news, q.1 < D) → ys.size = n → (∀ j, j < n → ∃ v, P j v ∧ Elt (news ++ tl) j (ys.getD j .none)) →
        Q (.ref D) { s₂ with heap := h', toks := tk })) E s₁) E s)
    (hs : ∀ x, foldedSetIterable iter env x = pure x := by intro _; rfl) :
    wpAny (model prog w) A (eval (.ListComp elt [⟨.Name x px, iter, [], 0⟩] scope pos) env) Q E s := by
  rw [eval_ListComp]
  refine wpAny_comprehension_free (use := none) rfl hs hclos hkind hnames (wpAny_mono h (fun xv s₁ h₁ => wpAny_mono h₁ (fun it s₂ h₂ => ?_) fun _ _ e => e) fun _ _ e => e)
  obtain ⟨I, fp, wr, n, P, St, news, rfl, W, hsz, hst, hfp, hLf, hwr, hnw, liveS, F, N, helt, hQ⟩ := h₂
  refine wpAny_newObj_type (wpAny_newFunctionEnv hcell (by intro y hy; simp at hy) (fun h₁ hns₁ hsb₁ => ?_) hkind)
  dsimp only at hns₁ hsb₁ ⊢
  generalize hH2 : s₂.heap.push { cls := .type "list", dict := none, data := .seq ([] : List Value).toArray } = H2 at hns₁ hsb₁ ⊢
  have hC : H2.objs.size = s₂.heap.objs.size + 1 := by rw [← hH2, Heap.size_push]
  have hDC : s₂.heap.objs.size ≠ H2.objs.size := by rw [hC]; exact Nat.ne_of_lt (Nat.lt_succ_self _)
  have below : ∀ b, b < s₂.heap.objs.size → b ≠ H2.objs.size ∧ b ≠ s₂.heap.objs.size := fun b hb => ⟨by rw [hC]; exact Nat.ne_of_lt (Nat.lt_succ_of_lt hb), Nat.ne_of_lt hb⟩
  have hDf : s₂.heap.objs.size ∉ fp := fun hm => Nat.lt_irrefl _ (hfp _ hm)
  have hCf : H2.objs.size ∉ fp := fun hm => by have := hfp _ hm; rw [hC] at this; exact Nat.lt_irrefl _ (Nat.lt_of_succ_lt this)
  have old : ∀ b o, s₂.heap.get? b = some o → h₁.get? b = some o := fun b o e => hsb₁.extBut b o (below b (Heap.lt_size e)).1 (Heap.get?_push_of_some _ (hH2 ▸ Heap.get?_push_of_some _ e))
  have hacc : h₁.PlainList s₂.heap.objs.size #[] := ⟨_, hsb₁.extBut _ _ hDC (Heap.get?_push_of_some _ (hH2 ▸ Heap.get?_push_size _ rfl))⟩
  have hst₁ : St 0 h₁ := W.frame _ _ _ hst fun b _ o e => old b o e
  have none₀ : ∀ a, s₂.heap.objs.size ≤ a → h₀.get? a = none := fun a ha => by
    cases e : h₀.get? a with
    | none => rfl
    | some o' => exact absurd (Heap.lt_size (F.keep _ _ e)) (Nat.not_lt.mpr ha)
  have hLs : L < s₂.heap.objs.size := F.ns.lt
  have F₁ : Fr h₀ L h₁ m := ⟨F.ns.at' fun o e => old _ o e, fun b o e => old b o (F.keep b o e), F.above⟩
  have N₁ : News h₀ L h₁ news := fun p hp => ⟨old _ _ (N p hp).1, (N p hp).2⟩
  have loop : ∀ s₃ : Shared, s₃ = { s₂ with heap := h₁, toks := s₂.toks + ([] : List (Str × Value)).length } →
      codeAny (model prog w) A (.compLoop (.ListComp elt [⟨.Name x px, iter, [], 0⟩] scope pos) 0 (.ref I) (.ref s₂.heap.objs.size) (compEnvC scope cl H2.objs.size env))
        (compPost (model prog w) A E none Q (.ref s₂.heap.objs.size) H2.objs.size) s₃ := by
    rintro s₃ rfl
    refine comp_loop (s := { s₂ with heap := h₁, toks := s₂.toks + ([] : List (Str × Value)).length }) (h₀ := h₀) (L := L) (m := m) (news := news) (cenv := compEnvC scope cl H2.objs.size env) mono W (lookup_relabel_local hx) (by simp [compEnvC, relabel, hkind]) hDC hDf hCf (Nat.ne_of_lt hLs)
      (by show L ≠ H2.objs.size; rw [hC]; exact Nat.ne_of_lt (Nat.lt_succ_of_lt hLs)) hLf (none₀ _ (Nat.le_refl _)) (none₀ _ (by show _ ≤ H2.objs.size; rw [hC]; exact Nat.le_succ _)) hwr hst₁ hacc hns₁ F₁ N₁
      (fun p hp => (below _ (Heap.lt_size (N p hp).1)).2) (fun p hp => (below _ (Heap.lt_size (N p hp).1)).1) hnw liveS (helt _ (by rw [hC]; exact Nat.le_succ _)) ?_ hsz
    intro h' tk mC' ys tl hnC hl F' N' hord htl hys hE
    refine ⟨mC', hnC, fun h'' hs'' => ?_⟩
    obtain ⟨c, hc⟩ := hl
    have hD'' : h''.get? s₂.heap.objs.size = some (seqObj "list" ys c) := hs''.extBut _ _ hDC hc
    have offC : ∀ p ∈ news ++ tl, p.1 ≠ H2.objs.size := fun p hp => by
      rcases List.mem_append.mp hp with q | q
      · exact (below _ (Heap.lt_size (N p q).1)).1
      · exact (htl p q).2
    refine hQ _ ys h'' tk tl c ⟨F'.ns.at' fun o e => hs''.extBut _ o (by show L ≠ H2.objs.size; rw [hC]; exact Nat.ne_of_lt (Nat.lt_succ_of_lt hLs)) e, fun b o e => hs''.extBut _ o (fun q => by rw [q, none₀ _ (by rw [hC]; exact Nat.le_succ _)] at e; cases e) (F'.keep b o e), F'.above⟩ ?_ hord (fun q hq => Heap.lt_size (N q hq).1) hys hE
    intro p hp
    rcases List.mem_cons.mp hp with rfl | hp
    · exact ⟨hD'', (Nat.ne_of_lt hLs).symm, none₀ _ (Nat.le_refl _)⟩
    · exact ⟨hs''.extBut _ _ (offC p hp) (N' p hp).1, (N' p hp).2⟩
  exact codeAny_compStart_list (loop _ rfl) (W.self 0 _ _ _ hst₁ (loop _ rfl))

theorem comp_list {env : Env} {elt iter : Expr} {x : Str} {px : Pos} {scope : Scope} {cl : List (Str × Addr)} {pos : Pos} {Q : Value → Shared → Prop} {Elt : List (Addr × Obj) → Nat → Value → Prop} (mono : ∀ led led' i y, (∀ p ∈ led, p ∈ led') → Elt led i y → Elt led' i y)
    (hh : A.handled = none) (hclos : closureFor scope env = pure cl) (hcell : ∀ y ∈ scope.names, y.2 ≠ .cell) (hkind : scope.kind = .function)
    (hnames : ∀ y ∈ scope.names, y.2 = .local → scope.names.lookup y.1 = some .local) (hx : scope.names.lookup x = some .local)
    (h : wpAny (model prog w) A (eval iter env) (fun xv s₁ => ∃ news : List (Addr × Obj), ∃ ax, ∃ vs : List Value, xv = .ref ax ∧ s₁.heap.IsList ax vs.toArray ∧ ax ≠ L ∧ vs.length ≤ sizeLine ∧ Fr h₀ L s₁.heap m ∧ News h₀ L s₁.heap news ∧
      (∀ C, EltDoes prog w A h₀ L m news s₁ elt x vs.length (fun i v => vs[i]? = some v) Elt (compEnvC scope cl C env)) ∧
      (∀ D ys h' tk tl c, Fr h₀ L h' m → News h₀ L h' ((D, seqObj "list" ys c) :: (news ++ tl)) → (∀ q ∈ news, ∀ p ∈ tl, q.1 < p.1) → (∀ q ∈ news, q.1 < D) → ys.size = vs.length → (∀ j, j < vs.length → Elt (news ++ tl) j (ys.getD j .none)) →
        Q (.ref D) { s₁ with heap := h', toks := tk })) E s)
    (hs : ∀ x, foldedSetIterable iter env x = pure x := by intro _; rfl) :
    wpAny (model prog w) A (eval (.ListComp elt [⟨.Name x px, iter, [], 0⟩] scope pos) env) Q E s := by
  refine comp_any (h₀ := h₀) (L := L) (m := m) mono hclos hcell hkind hnames hx (wpAny_mono h (fun xv s₁ h₁ => ?_) fun _ _ e => e) hs
  obtain ⟨news, ax, vs, rfl, hl, haL, hsz, F, N, helt, hQ⟩ := h₁
  obtain ⟨ol, hol, _⟩ := id hl
  have hlt : ax < s₁.heap.objs.size := Heap.lt_size hol
  have hLs : L < s₁.heap.objs.size := F.ns.lt
  have W := Walks.list (prog := prog) (w := w) hh s₁.heap.objs.size ax (Nat.ne_of_lt hlt) vs.toArray
  rw [List.size_toArray] at W
  refine wpAny_pyIter_list hl ⟨s₁.heap.objs.size, [s₁.heap.objs.size, ax], [s₁.heap.objs.size], vs.length, _, _, news, rfl, W, hsz,
    ⟨⟨_, Heap.get?_push_size _ rfl, rfl, rfl⟩, hl.push _⟩, ?_, ?_, ?_, ?_, ?_, F.push _, (fun p hp => ⟨Heap.get?_push_of_some _ (N p hp).1, (N p hp).2⟩), ?_, ?_⟩
  · intro b hb
    show b < (s₁.heap.push _).objs.size
    rw [Heap.size_push]
    rcases List.mem_cons.mp hb with rfl | hb
    · exact Nat.lt_succ_self _
    · rcases List.mem_cons.mp hb with rfl | hb
      · exact Nat.lt_succ_of_lt hlt
      · cases hb
  · intro hm
    rcases List.mem_cons.mp hm with e | hm
    · exact absurd hLs (e ▸ Nat.lt_irrefl _)
    · exact haL (List.mem_singleton.mp hm).symm
  · intro b hb
    rw [List.mem_singleton.mp hb]
    cases e : h₀.get? s₁.heap.objs.size with
    | none => rfl
    | some o' => exact absurd (Heap.lt_size (F.keep _ _ e)) (Nat.lt_irrefl _)
  · intro p hp hm
    exact absurd (Heap.lt_size (N p hp).1) ((List.mem_singleton.mp hm) ▸ Nat.lt_irrefl _)
  · rintro i h ⟨⟨o, ho, _⟩, _⟩ b hb
    rw [List.mem_singleton.mp hb]
    exact ⟨o, ho⟩
  · intro C _
    intro own tl i v h tk m₂ E' QQ hi hP
    exact helt C own tl i v h tk m₂ E' QQ hi (by simpa using hP)
  · intro D ys h' tk tl c F' N' ho hD hys hE
    exact hQ D ys h' tk tl c F' N' ho hD hys fun j hj => (hE j hj).elim fun v hv => hv.2

theorem comp_range {env : Env} {elt iter : Expr} {x : Str} {px : Pos} {scope : Scope} {cl : List (Str × Addr)} {pos : Pos} {Q : Value → Shared → Prop} {Elt : List (Addr × Obj) → Nat → Value → Prop} (mono : ∀ led led' i y, (∀ p ∈ led, p ∈ led') → Elt led i y → Elt led' i y)
    (hh : A.handled = none) (hclos : closureFor scope env = pure cl) (hcell : ∀ y ∈ scope.names, y.2 ≠ .cell) (hkind : scope.kind = .function)
    (hnames : ∀ y ∈ scope.names, y.2 = .local → scope.names.lookup y.1 = some .local) (hx : scope.names.lookup x = some .local)
    (h : wpAny (model prog w) A (eval iter env) (fun xv s₁ => ∃ news : List (Addr × Obj), ∃ r t u v, ∃ n : Nat, xv = .ref r ∧ IsRange s₁.heap r 0 (n : Int) 1 t u v ∧ n ≤ 1000 ∧ Fr h₀ L s₁.heap m ∧ News h₀ L s₁.heap news ∧
      (∀ C, EltDoes prog w A h₀ L m news s₁ elt x n (fun i v => ∃ t, v = .int (i : Int) t) Elt (compEnvC scope cl C env)) ∧
      (∀ D ys h' tk tl c, Fr h₀ L h' m → News h₀ L h' ((D, seqObj "list" ys c) :: (news ++ tl)) → (∀ q ∈ news, ∀ p ∈ tl, q.1 < p.1) → (∀ q ∈ news, q.1 < D) → ys.size = n → (∀ j, j < n → Elt (news ++ tl) j (ys.getD j .none)) →
        Q (.ref D) { s₁ with heap := h', toks := tk })) E s)
    (hs : ∀ x, foldedSetIterable iter env x = pure x := by intro _; rfl) :
    wpAny (model prog w) A (eval (.ListComp elt [⟨.Name x px, iter, [], 0⟩] scope pos) env) Q E s := by
  refine comp_any (h₀ := h₀) (L := L) (m := m) mono hclos hcell hkind hnames hx (wpAny_mono h (fun xv s₁ h₁ => ?_) fun _ _ e => e) hs
  obtain ⟨news, r, t, u, v, n, rfl, hr, hsz, F, N, helt, hQ⟩ := h₁
  have hLs : L < s₁.heap.objs.size := F.ns.lt
  have hn : Builtin.Range.rangeSize 0 (n : Int) 1 = (n : Int) := by
    rw [rangeSize_one]
    split <;> omega
  have hsmall : Builtin.Range.small 0 (n : Int) 1 = true := by
    unfold Builtin.Range.small
    rw [hn]
    have f1 : ∀ i : Int, 0 ≤ i → i ≤ 1000 → Builtin.Range.rangeFitsLong i = true := fun i h1 h2 => by
      unfold Builtin.Range.rangeFitsLong
      rw [Bool.and_eq_true]
      exact ⟨decide_eq_true (by omega), decide_eq_true (by omega)⟩
    rw [f1 0 (by omega) (by omega), f1 _ (by omega) (by omega), f1 1 (by omega) (by omega)]
    have e1 : ((n : Int) + (1 - 1)) = (n : Int) := by omega
    rw [if_pos (by decide), e1, f1 _ (by omega) (by omega)]
    simp
  refine wpAny_pyIter_range hr hsmall ⟨s₁.heap.objs.size, [s₁.heap.objs.size], [s₁.heap.objs.size], n, _, _, news, rfl, Walks.range (prog := prog) (w := w) hh s₁.heap.objs.size 0 1 n, by rw [sizeLine_eq]; omega,
    (by show IsRangeIter _ _ _ _ _; rw [hn]; simpa using Heap.get?_push_size _ rfl), ?_, ?_, ?_, ?_, ?_, F.push _, (fun p hp => ⟨Heap.get?_push_of_some _ (N p hp).1, (N p hp).2⟩), ?_, ?_⟩
  · intro b hb
    show b < (s₁.heap.push _).objs.size
    rw [Heap.size_push]
    rw [List.mem_singleton.mp hb]
    exact Nat.lt_succ_self _
  · intro hm
    exact absurd hLs ((List.mem_singleton.mp hm) ▸ Nat.lt_irrefl _)
  · intro b hb
    rw [List.mem_singleton.mp hb]
    cases e : h₀.get? s₁.heap.objs.size with
    | none => rfl
    | some o' => exact absurd (Heap.lt_size (F.keep _ _ e)) (Nat.lt_irrefl _)
  · intro p hp hm
    exact absurd (Heap.lt_size (N p hp).1) ((List.mem_singleton.mp hm) ▸ Nat.lt_irrefl _)
  · intro i h ho b hb
    rw [List.mem_singleton.mp hb]
    exact ⟨_, ho⟩
  · intro C _
    intro own tl i v h tk m₂ E' QQ hi hP
    obtain ⟨t, ht⟩ := hP
    exact helt C own tl i v h tk m₂ E' QQ hi ⟨t, by rw [ht]; simp⟩
  · intro D ys h' tk tl c F' N' ho hD hys hE
    exact hQ D ys h' tk tl c F' N' ho hD hys fun j hj => (hE j hj).elim fun v hv => hv.2
end
end Mine
end

section
open PySem PySem.W PyProof.Rows
set_option Elab.async false
set_option maxRecDepth 100000
namespace Mine
open PySem PySem.Spec PySem.Calls PySem.W PyProof.Rows

section
variable {prog : Program} {w : World} {A : Around} {E : Value → Shared → Prop} {s : Shared} {env : Env} {h₀ : Heap} {x : Str} {body : List Stmt} {Q : Flow → Shared → Prop}
theorem loop_list {l : Addr} {vs : List Value} {m₀ : Str → Option Value} {news : List (Addr × Obj)} (J : Nat → (Str → Option Value) → Prop)
    (hh : A.handled = none) (hl : s.heap.IsList l vs.toArray) (hlL : l ≠ env.locals) (F : Fr h₀ env.locals s.heap m₀) (N : News h₀ env.locals s.heap news) (hj : J 0 m₀)
    (turn : ∀ i v m₁ h tk led, vs[i]? = some v → i < vs.length → J i m₁ → (∀ p ∈ news, p ∈ led) → Fr h₀ env.locals h (fun y => if y = x then some v else m₁ y) → News h₀ env.locals h led →
      wpAny (model prog w) A (execs body env) (InvPost h₀ env.locals (J (i + 1)) led { s with heap := h, toks := tk } Q) E { s with heap := h, toks := tk })
    (done : ∀ m₁ h tk, J vs.length m₁ → Fr h₀ env.locals h m₁ → News h₀ env.locals h news → Q .next { s with heap := h, toks := tk }) :
    wpAny (model prog w) A (pyIter (.ref l)) (fun it s₂ => LoopAtV prog w A h₀ env x body Q E it s₂) E s := by
  obtain ⟨ol, hol, _⟩ := id hl
  have hlt : l < s.heap.objs.size := Heap.lt_size hol
  refine wpAny_pyIter_list hl ?_
  have W := Walks.list (prog := prog) (w := w) hh s.heap.objs.size l (Nat.ne_of_lt hlt) vs.toArray
  have hlen : vs.toArray.size = vs.length := by simp
  rw [hlen] at W
  let J' : Nat → (Str → Option Value) → List (Addr × Obj) → Prop := fun i m₁ news₁ => news₁ = news ∧ J i m₁
  refine ⟨_, _, _, vs.length, _, _, m₀, news, J', rfl, W, ?_, ?_, ?_, ⟨⟨_, Heap.get?_push_size _ rfl, rfl, rfl⟩, hl.at fun o e => Heap.get?_push_of_some _ e⟩, F.push _, (fun p hp => ⟨Heap.get?_push_of_some _ (N p hp).1, (N p hp).2⟩), ⟨rfl, hj⟩, ?_, ?_⟩
  · intro hm
    rcases List.mem_cons.mp hm with e | hm
    · exact absurd F.ns.lt (e ▸ Nat.lt_irrefl _)
    · exact hlL (List.mem_singleton.mp hm).symm
  · intro b hb
    rw [List.mem_singleton.mp hb]
    exact next_is_new F
  · intro p hp hI
    exact absurd (Heap.lt_size (N p hp).1) ((List.mem_singleton.mp hI) ▸ Nat.lt_irrefl _)
  · rintro i v m₁ news₁ s₁ own ⟨hh', tk', rfl⟩ hin hP ⟨rfl, hJ⟩ hoff _ _ _ _ F₁ N₁
    have hv : vs[i]? = some v := by simpa using hP
    refine wpAny_mono (turn i v m₁ hh' tk' (own ++ news₁) hv hin hJ (fun p hp => List.mem_append_right _ hp) F₁ N₁) (fun f s₂ p => ?_) fun _ _ e => e
    have fin : InvEnd h₀ env.locals (J (i + 1)) (own ++ news₁) { s with heap := hh', toks := tk' } s₂ → LoopStepU h₀ env.locals [s.heap.objs.size] own (J' (i + 1)) { s with heap := hh', toks := tk' } .next s₂ := by
      rintro ⟨h', tk, m', news', e, F', N', hn, hm⟩
      exact ⟨rfl, h', tk, m', news₁, e, F', fun p hp => N' p (hn p hp), hoff, rfl, hm⟩
    cases f with
    | ret v => exact .ret p
    | brk => exact .brk p
    | next => exact .next (fin p)
    | cont => exact .cont (fin p)
  · rintro h' tk m' news' F' N' _ ⟨rfl, hJ⟩
    exact done m' h' tk hJ F' N'
end

section
variable {prog : Program} {w : World} {A : Around} {E : Value → Shared → Prop} {s : Shared} {K : Frag} {h₀ : Heap} {L : Addr} {m : Str → Option Value} {news led : List (Addr × Obj)} {x y C C' : Addr} {ox oy : Obj} {od od' : Option Obj} {k l : Key}

theorem gt_plain : plainId "object.__gt__" = true := by decide +kernel
theorem gt_kind : builtinKind "object.__gt__" = some .slot := by decide +kernel
theorem gt_split : splitId "object.__gt__" = some ("object", "__gt__") := by decide +kernel
theorem gt_entry : entryFor table "object.__gt__" = some Builtin.«object.__gt__» := entryFor_of_tree (by kernel_rfl)
theorem gt_args (a b : Value) : argsOk "object.__gt__" ⟨[a, b], []⟩ := by unfold argsOk; kernel_rfl
theorem gt_run (a b : Value) : Builtin.«object.__gt__» ⟨[a, b], []⟩ = pure (.done (.ret .notImplemented)) := by kernel_rfl
theorem gt_bind (self : Value) : bindSpecial (.builtin "object.__gt__") self = pure (.builtin "object.__gt__", [self]) :=
  (Slot.of (T := "object") (name := "__gt__") (owner := "object") (n := "__gt__") (by rw [typeLookup_type, builtinLookup_eq_fast]; kernel_rfl) (by decide +kernel) (by decide +kernel) (by decide +kernel)
    (.inl (by decide +kernel)) (by rw [isSubtype_type]; kernel_rfl)).bind self
/-- object's own «greater» declines -/
theorem gt_declines (X : K.In s.heap) (I : InstAt s.heap y ox C od) (hs : findIn K (.ref C) (Str.ofString "__gt__") = some (some (.builtin "object.__gt__"))) (ho : subIn K (.ref C) (.type "object") = some true) {b : Value} {Q : Option Value → Shared → Prop} (h : Q none s) :
    wpAny (model prog w) A (tryCompare (.ref y) (Str.ofString "__gt__") b) Q E s := by
  have i1 : Looks (model prog w) s.heap (isInstance (.ref y) (.type "object")) true := I.type.andThen (looks_subIn X ho)
  have c1 : wpAny (model prog w) A (call (.builtin "object.__gt__") [.ref y, b]) (fun v s' => v = .notImplemented ∧ s' = s) E s := by
    refine wpAny_call (codeAny_call_builtin gt_plain gt_entry (check_slot gt_kind gt_split i1 (gt_args _ _) ?_))
    rw [gt_run]
    exact wpAny_pure ⟨rfl, rfl⟩
  unfold tryCompare
  refine wpAny_bind ?_
  simp only [callSpecialIfBound?, bindSpecialIfBound?]
  refine wpAny_holding (wpAny_bind (wpAny_bind (wpAny_bind (I.type.here ((looks_findIn X hs).here ?_)))))
  have fin : wpAny (model prog w) A (call (.builtin "object.__gt__") ([.ref y] ++ [b]) >>= fun v => pure (some v)) (fun r s' => wpAny (model prog w) A (match r with | some .notImplemented | none => pure none | some v => pure (some v)) Q E s') E s :=
    wpAny_bind (wpAny_mono c1 (fun v s' z => by obtain ⟨rfl, rfl⟩ := z; exact wpAny_pure (wpAny_pure h)) fun _ _ z => z)
  refine wpAny_bind (wpAny_askSetting (wpAny_ite ?_))
  rw [gt_bind]
  split
  · exact wpAny_bind (wpAny_pure (wpAny_pure (by exact fin)))
  · exact wpAny_tryCatch (wpAny_bind (wpAny_pure (wpAny_pure (by exact fin))))

theorem obj_rich (hu : A.units < cLine) (X : K.In s.heap) (I : InstAt s.heap x ox C od) (I' : InstAt s.heap y oy C' od') (hC : ClsOk K C) (hC' : ClsOk K C') (hc' : isCls C') {Q : Value → Shared → Prop}
    (h : wpAny (model prog w) A (call (.ref 157) [.ref x, .ref y]) (PySem.W.CmpBack Q) E s) : wpAny (model prog w) A (richCompare .Lt (.ref x) (.ref y)) Q E s := by
  have one : wpAny (model prog w) A (tryCompare (.ref x) (cmpInfo .Lt).2.1 (.ref y)) (fun r s' => ∃ v, r = some v ∧ Q v s') E s := by
    unfold tryCompare
    refine wpAny_bind (ifBound_K X I hC.lt hC.fL (wpAny_mono h (fun v s' hv => ?_) fun _ _ e => e))
    cases v <;> first | exact hv.elim | exact wpAny_pure ⟨_, rfl, hv⟩
  have tail : wpAny (model prog w) A (tryCompare (.ref x) (cmpInfo .Lt).2.1 (.ref y)) (fun r s' => ∃ v, r = some v ∧ Q v s') E s := one
  unfold richCompare
  simp only [oneThing_ref]
  refine wpAny_holding (wpAny_bind (wpAny_cRoomFor hu ?_))
  refine wpAny_bind (I.type.here (wpAny_bind (I'.type.here ?_)))
  split
  · obtain ⟨b, e⟩ := hC.sub C' hc'
    refine wpAny_bind ((looks_subIn X e).here ?_)
    cases b with
    | false =>
      simp only [Bool.false_eq_true, if_false]
      refine wpAny_bind (wpAny_mono one (fun r s' z => ?_) fun _ _ e => e)
      obtain ⟨v, rfl, hq⟩ := z
      exact wpAny_pure hq
    | true =>
      simp only [if_true]
      refine wpAny_bind (gt_declines X I' hC'.gt hC'.obj ?_)
      dsimp only
      refine wpAny_bind (wpAny_mono one (fun r s' z => ?_) fun _ _ e => e)
      obtain ⟨v, rfl, hq⟩ := z
      exact wpAny_pure hq
  · refine wpAny_bind (wpAny_pure ?_)
    simp only [Bool.false_eq_true, if_false]
    refine wpAny_bind (wpAny_mono one (fun r s' z => ?_) fun _ _ e => e)
    obtain ⟨v, rfl, hq⟩ := z
    exact wpAny_pure hq
end

section
variable {E : Value → Shared → Prop}
/-- two addresses of the ledger by the operator -/
theorem obj_lt (w : World) {loose : List Str} {mean : ExcName → Option Value} {mg mb : Str → Option Value} {p : Program}
    {dp un : Nat} {gd : Option (List Code)} {cn : Str} {cs : Scope} {a : Addr} {ccd : Value} {cl : List (Str × Addr)} {outer : List Env} {A₀ : Around} {base h₀ : Heap} {L : Addr} {m : Str → Option Value} {news led : List (Addr × Obj)} {s : Shared}
    {Q : Value → Shared → Prop} {x y : Addr} {k l : Key}
    (B : Below A₀ base outer h₀) (F : Fr h₀ L s.heap m) (X : (Mine.hd.heap_39 w.params).In h₀) (N : News h₀ L s.heap news) (T : Top p loose mean mg mb h₀) (hk : cs.kind = .function)
    (hd : dp + 5 < recursionLimit) (hu : un + 50 < cLine) (hx : ObjIn led x k) (hy : ObjIn led y l) (hs : ∀ p ∈ led, p ∈ news) (hkk : k.ok) (hll : l.ok)
    (ret : ∀ (h' : Heap) (tk' : Nat), Fr h₀ L h' m → News h₀ L h' news → Q (.bool (plt k l)) { s with heap := h', toks := tk' }) :
    wpAny (model PySem.Challenge.rw_fb5003_01.row.prog w) (ktrTop dp un gd cn cs L a ccd cl outer) (richCompare .Lt (.ref x) (.ref y)) Q E s := by
  have hc := cls_ok w rfl
  have hx' := hx.mono hs
  have hy' := hy.mono hs
  obtain ⟨C, dx, es, n, vt, vn, va, hC, mx, md, _⟩ := id hx'
  obtain ⟨C', dy, es', n', vt', vn', va', hC', my, md', _⟩ := id hy'
  refine obj_rich (by show un < cLine; omega) (X.keeps F.keep) (InstAt.of_news N mx md) (InstAt.of_news N my md') (hc _ hC) (hc _ hC') hC' ?_
  refine lt_spec w B F X N T hk hd hu hx' hy' (kin_key hkk hll) fun h' tk' F' N' => ?_
  rw [key_lt hkk hll]
  exact ret h' tk' F' N'
/-- the same inside a sort of things of one class -/
theorem obj_one (w : World) {loose : List Str} {mean : ExcName → Option Value} {mg mb : Str → Option Value} {p : Program}
    {dp un : Nat} {gd : Option (List Code)} {cn : Str} {cs : Scope} {a : Addr} {ccd : Value} {cl : List (Str × Addr)} {outer : List Env} {A₀ : Around} {base h₀ : Heap} {L : Addr} {m : Str → Option Value} {news led : List (Addr × Obj)} {s : Shared}
    {Q : Bool → Shared → Prop} {x y : Addr} {k l : Key}
    (B : Below A₀ base outer h₀) (F : Fr h₀ L s.heap m) (X : (Mine.hd.heap_39 w.params).In h₀) (N : News h₀ L s.heap news) (T : Top p loose mean mg mb h₀) (hk : cs.kind = .function)
    (hd : dp + 5 < recursionLimit) (hu : un + 50 < cLine) (hx : ObjIn led x k) (hy : ObjIn led y l) (hs : ∀ p ∈ led, p ∈ news) (hkk : k.ok) (hll : l.ok)
    (ret : ∀ (h' : Heap) (tk' : Nat), Fr h₀ L h' m → News h₀ L h' news → Q (plt k l) { s with heap := h', toks := tk' }) :
    wpAny (model PySem.Challenge.rw_fb5003_01.row.prog w) (ktrTop dp un gd cn cs L a ccd cl outer) (keyLt' oneType' (.ref x) (.ref y)) Q E s := by
  have hc := cls_ok w rfl
  have hx' := hx.mono hs
  have hy' := hy.mono hs
  obtain ⟨C, dx, es, n, vt, vn, va, hC, mx, md, _⟩ := id hx'
  refine kas_lt_inst (by show un < cLine; omega) F X (InstAt.of_news N mx md) (hc _ hC).lt (hc _ hC).fL ?_
  refine lt_spec w B F X N T hk hd hu hx' hy' (kin_key hkk hll) fun h' tk' F' N' => ?_
  rw [key_lt hkk hll]
  exact ret h' tk' F' N'
theorem obj_gen (w : World) {loose : List Str} {mean : ExcName → Option Value} {mg mb : Str → Option Value} {p : Program}
    {dp un : Nat} {gd : Option (List Code)} {cn : Str} {cs : Scope} {a : Addr} {ccd : Value} {cl : List (Str × Addr)} {outer : List Env} {A₀ : Around} {base h₀ : Heap} {L : Addr} {m : Str → Option Value} {news led : List (Addr × Obj)} {s : Shared}
    {Q : Bool → Shared → Prop} {x y : Addr} {k l : Key}
    (B : Below A₀ base outer h₀) (F : Fr h₀ L s.heap m) (X : (Mine.hd.heap_39 w.params).In h₀) (N : News h₀ L s.heap news) (T : Top p loose mean mg mb h₀) (hk : cs.kind = .function)
    (hd : dp + 5 < recursionLimit) (hu : un + 50 < cLine) (hx : ObjIn led x k) (hy : ObjIn led y l) (hs : ∀ p ∈ led, p ∈ news) (hkk : k.ok) (hll : l.ok)
    (ret : ∀ (h' : Heap) (tk' : Nat), Fr h₀ L h' m → News h₀ L h' news → Q (plt k l) { s with heap := h', toks := tk' }) :
    wpAny (model PySem.Challenge.rw_fb5003_01.row.prog w) (ktrTop dp un gd cn cs L a ccd cl outer) (keyLt' general' (.ref x) (.ref y)) Q E s := by
  show wpAny _ _ (oneLt' false (.ref x) (.ref y)) Q E s
  rw [oneLt'_eq]
  simp only [Bool.false_eq_true, if_false]
  refine wpAny_bind (obj_lt w B F X N T hk hd hu hx hy hs hkk hll fun h' tk' F' N' => ?_)
  exact wpAny_truthy_bool (ret h' tk' F' N')
end
end Mine
end

section
open PySem PySem.W PyProof.Rows
set_option Elab.async false
set_option maxRecDepth 100000
namespace Mine
open PySem PySem.Spec PySem.Calls PySem.W PyProof.Rows

section
variable {M : Model} {A : Around} {E : Value → Shared → Prop} {s : Shared}
theorem map_types : ∀ (vs : List Value) {Q : List Value → Shared → Prop}, (∀ v ∈ vs, ∃ T, Looks M s.heap (typeOf v) T) → (∀ ts : List Value, ts.length = vs.length → Q ts s) → wpAny M A (vs.mapM typeOf) Q E s
  | [], _, _, h => by rw [List.mapM_nil]; exact wpAny_pure (h [] rfl)
  | v :: vs, Q, hT, h => by
    rw [List.mapM_cons]
    obtain ⟨T, l⟩ := hT v (.head _)
    exact wpAny_bind (l.here (wpAny_bind (map_types vs (Q := fun bs s' => wpAny M A (pure (T :: bs)) Q E s') (fun u hu => hT u (.tail _ hu)) fun ts hts => wpAny_pure (h (T :: ts) (by simp [hts])))))
theorem kind_objs {vs : List Value} (hne : vs ≠ []) (hT : ∀ v ∈ vs, ∃ C : Addr, Looks M s.heap (typeOf v) (.ref C)) {Q : SortKind → Shared → Prop} (h1 : Q oneType' s) (h2 : Q general' s) : wpAny M A (keyKind' vs.toArray) Q E s := by
  obtain ⟨v₁, rest, rfl⟩ : ∃ v₁ rest, vs = v₁ :: rest := by
    cases vs with
    | nil => exact absurd rfl hne
    | cons a b => exact ⟨a, b, rfl⟩
  rw [keyKind'_eq, List.mapM_toArray, map_eq_pure_bind]
  refine wpAny_bind (wpAny_bind (kas_mapM (r := none) _ (fun v hv Q' hq => ?_) (wpAny_pure ?_)))
  · rw [kas_first_eq]
    obtain ⟨C, l⟩ := hT v hv
    refine wpAny_bind (l.here ?_)
    rw [if_pos (by simp)]
    exact wpAny_pure hq
  · rw [if_neg (by simp), if_neg (by simp)]
    rw [oneTypeOnly'_eq, List.mapM_toArray, map_eq_pure_bind]
    refine wpAny_bind (wpAny_bind (wpAny_bind (map_types _ (fun v hv => by obtain ⟨C, l⟩ := hT v hv; exact ⟨_, l⟩) fun ts hts => wpAny_pure ?_)))
    cases ts with
    | nil => simp at hts
    | cons t ts =>
      have h0 : (t :: ts).toArray[0]? = some t := by simp
      rw [h0]
      dsimp only
      by_cases e : ((t :: ts).toArray.all fun x => x == t) = true
      · rw [if_pos e]
        exact wpAny_pure (wpAny_pure h1)
      · rw [if_neg e]
        exact wpAny_pure (wpAny_pure h2)
end

section
variable {prog : Program} {w : World} {A : Around} {E : Value → Shared → Prop} {s : Shared} {h₀ : Heap} {L : Addr} {m : Str → Option Value} {news : List (Addr × Obj)} {v : Value}
/-- a list of one -/
theorem lsort_one {a : Addr} {n : Nat} {P : PySem.Fin → Shared → Prop} (F : Fr h₀ L s.heap m) (N : News h₀ L s.heap news) (ho : s.heap.get? a = some (seqObj "list" #[v] n)) (haL : a ≠ L) (ha0 : h₀.get? a = none) (hna : ∀ p ∈ news, p.1 ≠ a)
    (h : ∀ h' c, Fr h₀ L h' m → News h₀ L h' ((a, seqObj "list" #[v] c) :: news) → P (.done (.ret .none)) { s with heap := h' }) :
    wpAny (model prog w) A (Builtin.«list.sort» ⟨[.ref a], []⟩) P E s := by
  have s1 := Heap.SameBut.update s.heap a (Obj.mapSeq fun _ => (#[] : Array Value))
  obtain ⟨e1, ho1⟩ : ∃ e1, (s.heap.update a (Obj.mapSeq fun _ => (#[] : Array Value))).get? a = some (seqObj "list" #[] e1) := ⟨_, get?_update_seq ho fun _ => #[]⟩
  rw [list_sort_plain]
  refine wpAny_bind (listItems_at ho rfl ?_)
  refine wpAny_bind (listUpdate_at ho rfl ?_ (by rw [sizeLine_eq]; simp) (Nat.zero_le _))
  refine wpAny_bind (seqEpoch_at ho1 rfl ?_)
  refine wpAny_bind (wpAny_newTuple ?_ (by rw [sizeLine_eq]; simp))
  refine wpAny_bind (wpAny_newList ?_ (Nat.zero_le _))
  refine wpAny_holding ?_
  rw [if_pos (by simp), if_pos (by simp)]
  refine wpAny_bind (wpAny_pure (wpAny_bind ?_))
  show wpAny _ _ (pure ((), SortSt.mk' general' ((#[v] : Array Value).zip #[v]) #[] 7 none)) _ _ _
  refine wpAny_pure ?_
  dsimp only
  have hk : ((((s.heap.update a (Obj.mapSeq fun _ => (#[] : Array Value))).push (seqObj "tuple" (#[v] : Array Value).toList.toArray 0)).push (seqObj "list" #[] 0))).get? a = some (seqObj "list" #[] e1) := Heap.get?_push_of_some _ (Heap.get?_push_of_some _ ho1)
  have earr : Array.map (·.2) (arrOf (SortSt.mk' general' ((#[v] : Array Value).zip #[v]) #[] 7 none)) = #[v] := by with_unfolding_all rfl
  rw [earr]
  refine wpAny_bind (seqEpoch_at hk rfl ?_)
  refine wpAny_bind (listUpdate_at hk rfl ?_ (Nat.zero_le _) (by show _ ≤ _; rw [sizeLine_eq]; simp))
  show wpAny _ _ (if (e1 != e1) = true then _ else _) _ _ _
  refine bm_if_false (by simp) ?_
  have s2 := Heap.SameBut.update (((s.heap.update a (Obj.mapSeq fun _ => (#[] : Array Value))).push (seqObj "tuple" (#[v] : Array Value).toList.toArray 0)).push (seqObj "list" #[] 0)) a (Obj.mapSeq fun _ => (#[v] : Array Value))
  obtain ⟨c2, hc2⟩ := (⟨_, get?_update_seq hk fun _ => (#[v] : Array Value)⟩ : ∃ c2, ((((s.heap.update a (Obj.mapSeq fun _ => (#[] : Array Value))).push (seqObj "tuple" (#[v] : Array Value).toList.toArray 0)).push (seqObj "list" #[] 0)).update a (Obj.mapSeq fun _ => (#[v] : Array Value))).get? a = some (seqObj "list" #[v] c2))
  refine wpAny_pure (h _ c2 (kas_fr (((kas_fr F s1 haL ha0).push _).push _) s2 haL ha0) ?_)
  have N2 : News h₀ L _ news := kas_news ((kas_news N s1 hna).grown fun b x e => Heap.get?_push_of_some _ (Heap.get?_push_of_some _ e)) s2 hna
  intro p hp
  rcases List.mem_cons.mp hp with rfl | hp
  · exact ⟨hc2, haL, ha0⟩
  · exact N2 p hp

theorem sorted_one {l : Addr} {Q : Value → Shared → Prop} (F : Fr h₀ L s.heap m) (N : News h₀ L s.heap news) (hl : s.heap.IsList l [v].toArray)
    (h : ∀ D h' c, Fr h₀ L h' m → News h₀ L h' ((D, seqObj "list" #[v] c) :: news) → (∀ q ∈ news, q.1 < D) → Q (.ref D) { s with heap := h' }) :
    wpAny (model prog w) A (call (.builtin "sorted") [.ref l]) Q E s := by
  refine Calls.call_function_entry kind_sorted plain_sorted entry_sorted (args_sorted1 _) ?_
  unfold Builtin.«sorted»
  refine wpAny_bind (m := checkCount "sorted" 1 1 _) (wpAny_pure ?_)
  refine wpAny_bind (collect_list hl ?_ (by rw [sizeLine_eq]; simp))
  refine wpAny_bind (wpAny_newList ?_ (by rw [sizeLine_eq]; simp))
  have hsz : ((s.heap.push (seqObj "list" #[] 0)).update s.heap.objs.size (Obj.mapSeq (· ++ [v].toArray))).objs.size = s.heap.objs.size + 1 := by
    rw [Heap.size_update, size_push']
  have hoL : (((s.heap.push (seqObj "list" #[] 0)).update s.heap.objs.size (Obj.mapSeq (· ++ [v].toArray))).push (seqObj "list" #[v] 0)).get? (s.heap.objs.size + 1) = some (seqObj "list" #[v] 0) := by
    rw [← hsz]; exact Heap.get?_push_size _ rfl
  have keep : ∀ b o, s.heap.get? b = some o → (((s.heap.push (seqObj "list" #[] 0)).update s.heap.objs.size (Obj.mapSeq (· ++ [v].toArray))).push (seqObj "list" #[v] 0)).get? b = some o := fun b o q => by
    have hlt : b < s.heap.objs.size := Heap.lt_size q
    rw [Heap.get?_push_ne _ _ _ (by rw [hsz]; exact Nat.ne_of_lt (Nat.lt_succ_of_lt hlt)), Heap.get?_update_ne _ _ _ _ (Nat.ne_of_lt hlt), Heap.get?_push_ne _ _ _ (Nat.ne_of_lt hlt)]
    exact q
  have hL : L < s.heap.objs.size := F.ns.lt
  show wpAny _ _ _ _ _ { s with heap := ((s.heap.push (seqObj "list" #[] 0)).update s.heap.objs.size (Obj.mapSeq (· ++ [v].toArray))).push (seqObj "list" #[v] 0) }
  rw [hsz]
  refine wpAny_bind (wpAny_holding (wpAny_call_entry slot_list_sort ⟨_, hoL, rfl⟩ entry_list_sort ?body (args_list_sort _)))
  case body =>
    refine lsort_one (s := { s with heap := ((s.heap.push (seqObj "list" #[] 0)).update s.heap.objs.size (Obj.mapSeq (· ++ [v].toArray))).push (seqObj "list" #[v] 0) })
      (F.kept keep) (N.grown keep) hoL (Nat.ne_of_gt (Nat.lt_succ_of_lt hL)) (Heap.get?_none_of_le (Nat.le_trans F.above (Nat.le_succ_of_le (Nat.le_of_lt hL))))
      (fun p hp => Nat.ne_of_lt (Nat.lt_succ_of_lt (Heap.lt_size (N p hp).1))) fun h' c F' N' => ?_
    exact ⟨_, rfl, wpAny_pure ⟨_, rfl, h _ h' c F' N' fun q hq => Nat.lt_succ_of_lt (Heap.lt_size (N q hq).1)⟩⟩
end
end Mine
end

section
open PySem PySem.W PyProof.Rows
set_option Elab.async false
set_option maxRecDepth 100000
namespace Mine
open PySem PySem.Spec PySem.Calls PySem.W PyProof.Rows

section
variable {h₀ h : Heap} {L : Addr} {news : List (Addr × Obj)}
theorem looks_obj {M : Model} {led : List (Addr × Obj)} {x : Addr} {k : Key} (N : News h₀ L h news) (hs : ∀ p ∈ led, p ∈ news) (hx : ObjIn led x k) : ∃ C : Addr, Looks M h (typeOf (.ref x)) (.ref C) := by
  obtain ⟨C, dx, es, n, vt, vn, va, hC, mx, md, _⟩ := hx
  exact ⟨C, (InstAt.of_news N (hs _ mx) (hs _ md)).type⟩
end

/-- the objects sorted by their own operator -/
theorem sort_objs (w : World) {loose : List Str} {mean : ExcName → Option Value} {mg mb : Str → Option Value} {p : Program}
    {dp un : Nat} {gd : Option (List Code)} {cn : Str} {cs : Scope} {a : Addr} {ccd : Value} {cl : List (Str × Addr)} {outer : List Env} {A₀ : Around} {base h₀ : Heap} {L : Addr} {m : Str → Option Value} {news led : List (Addr × Obj)} {s : Shared}
    {Q E : Value → Shared → Prop} {l : Addr} {vs : List Value} {ks : List Key}
    (B : Below A₀ base outer h₀) (F : Fr h₀ L s.heap m) (X : (Mine.hd.heap_39 w.params).In h₀) (N : News h₀ L s.heap news) (T : Top p loose mean mg mb h₀) (hk : cs.kind = .function)
    (hd : dp + 5 < recursionLimit) (hu : un + 60 < cLine) (hl : s.heap.IsList l vs.toArray) (h2 : 2 ≤ vs.length) (h64 : vs.length < 64) (hs : ∀ p ∈ led, p ∈ news)
    (hv : ∀ i, i < vs.length → ∃ x, vs.getD i Value.none = .ref x ∧ ObjIn led x (ks.getD i ⟨0, .none, .none⟩) ∧ (ks.getD i ⟨0, .none, .none⟩).ok)
    (ret : ∀ (D : Addr) (h' : Heap) (tk' : Nat) (q : Array Nat) (c : Nat), Fr h₀ L h' m → News h₀ L h' ((D, seqObj "list" (List.toArray (q.toList.map fun i => vs.getD i Value.none)) c) :: news) → (∀ q ∈ news, q.1 < D) →
      Pre vs.length q vs.length → Srt (ltK ks) q vs.length → Q (.ref D) { s with heap := h', toks := tk' }) :
    wpAny (model PySem.Challenge.rw_fb5003_01.row.prog w) (ktrTop dp un gd cn cs L a ccd cl outer) (call (.builtin "sorted") [.ref l]) Q E s := by
  refine kat_sorted F N hl h2 h64 fun D e1 h' F' N' hlt => ?_
  have hne : vs ≠ [] := by intro e; rw [e] at h2; simp at h2
  have look : ∀ v ∈ vs, ∃ C : Addr, Looks (model PySem.Challenge.rw_fb5003_01.row.prog w) h' (typeOf v) (.ref C) := fun v hvm => by
    obtain ⟨i, hi, rfl⟩ := List.mem_iff_getElem.mp hvm
    obtain ⟨x, ex, ox, _⟩ := hv i hi
    have e : vs[i] = .ref x := by rw [← ex]; simp [hi]
    rw [e]
    exact looks_obj (h := h') N' (fun p hp => .tail _ (hs p hp)) ox
  have both : ∀ κ, κ = oneType' ∨ κ = general' → (kas_sort vs.length).kasWp (kas_ask PySem.Challenge.rw_fb5003_01.row.prog w (ktrTop dp un gd cn cs L a ccd cl outer).in1.in1 κ vs)
      (fun p s'' => KasFin h₀ L m D e1 (p.toList.map fun i => vs.getD i Value.none) (fun s3 => Q (.ref D) s3) s'') { s with heap := h' } := fun κ hκ => by
    refine good_wp (lt := ltK ks) (N := vs.length) (Inv := fun s' => ∃ h'' tk, s' = { s with heap := h'', toks := tk } ∧ Fr h₀ L h'' m ∧ News h₀ L h'' ((D, seqObj "list" #[] e1) :: news)) ?_ ?_ _ _ (sort_good (weakK ks) h2) ⟨h', s.toks, rfl, F', N'⟩
    · rintro i j C s' hi hj ⟨h'', tk, rfl, F'', N''⟩ hC
      obtain ⟨x, ex, ox, kx⟩ := hv i hi
      obtain ⟨y, ey, oy, ky⟩ := hv j hj
      unfold kas_ask
      rw [ex, ey]
      have hsub : ∀ p ∈ led, p ∈ (D, seqObj "list" #[] e1) :: news := fun p hp => .tail _ (hs p hp)
      rcases hκ with rfl | rfl
      · exact obj_one w B F'' X N'' T hk hd (by show un + 1 + 1 + 50 < cLine; omega) ox oy hsub kx ky fun h3 tk3 F3 N3 => hC _ ⟨h3, tk3, rfl, F3, N3⟩
      · exact obj_gen w B F'' X N'' T hk hd (by show un + 1 + 1 + 50 < cLine; omega) ox oy hsub kx ky fun h3 tk3 F3 N3 => hC _ ⟨h3, tk3, rfl, F3, N3⟩
    · rintro q s' ⟨hp, hsrt⟩ ⟨h'', tk, rfl, F'', N''⟩
      refine KasFin.intro F'' N'' (UpdF.head fun q hq e => absurd (hlt q hq) (by rw [e]; exact Nat.lt_irrefl _)) fun h3 c F3 N3 => ?_
      exact ret D h3 tk q c F3 N3 hlt hp hsrt
  exact kind_objs hne look (both _ (.inl rfl)) (both _ (.inr rfl))

/-- the pairs (plain key, place) -/
structure PairIn (led : List (Addr × Obj)) (v : Value) (k : Key) (i : Nat) : Prop where
  ex : ∃ (r d : Addr) (c1 c2 : Nat) (us : List Value) (t : Tok), v = .ref r ∧ (r, tupObj [.ref d, .int i t] c1) ∈ led ∧ (d, tupObj us c2) ∈ led ∧ FlAll us (plainL k)
theorem PairIn.mono {led led' : List (Addr × Obj)} {v : Value} {k : Key} {i : Nat} (h : PairIn led v k i) (hs : ∀ p ∈ led, p ∈ led') : PairIn led' v k i := by
  obtain ⟨r, d, c1, c2, us, t, e, m1, m2, f⟩ := h
  exact ⟨r, d, c1, c2, us, t, e, hs _ m1, hs _ m2, f⟩
theorem katTups_of {h : Heap} : ∀ {vs : List Value}, (∀ v ∈ vs, ∃ a o xs n f, v = .ref a ∧ h.get? a = some o ∧ o.cls = .type "tuple" ∧ o.data = .seq xs n ∧ xs[0]? = some f ∧ ∃ d o', f = Value.ref d ∧ h.get? d = some o' ∧ o'.cls = .type "tuple") →
    ∃ fs : List Value, fs.length = vs.length ∧ KatTups h vs fs ∧ ∀ f ∈ fs, ∃ d o', f = Value.ref d ∧ h.get? d = some o' ∧ o'.cls = .type "tuple"
  | [], _ => ⟨[], rfl, trivial, fun _ h => nomatch h⟩
  | v :: vs, hv => by
    obtain ⟨fs, e, t, g⟩ := katTups_of (vs := vs) fun u hu => hv u (.tail _ hu)
    obtain ⟨a, o, xs, n, f, rfl, ho, hc, hdt, hf, hfd⟩ := hv v (.head _)
    refine ⟨f :: fs, by simp [e], KatTups.cons ho hc hdt hf t, fun f' hf' => ?_⟩
    rcases List.mem_cons.mp hf' with rfl | hf'
    · exact hfd
    · exact g f' hf'

section
variable {prog : Program} {w : World} {A : Around} {E : Value → Shared → Prop} {s : Shared} {h₀ : Heap} {L : Addr} {m : Str → Option Value} {news led : List (Addr × Obj)}
theorem pair_lt {v u : Value} {k l : Key} {i j : Nat} (hu : A.units < cLine) (N : News h₀ L s.heap news) (hv : PairIn news v k i) (hw : PairIn news u l j) {Q : Bool → Shared → Prop}
    (h : Q (if plainL k = plainL l then decide (i < j) else plt k l) s) : wpAny (model prog w) A (keyLt' (tuples' false) v u) Q E s := by
  obtain ⟨r, d, c1, c2, us, t, rfl, m1, m2, f⟩ := hv
  obtain ⟨r', d', c1', c2', us', t', rfl, m1', m2', f'⟩ := hw
  refine kat_lt (N _ m1).1 rfl (N _ m1').1 rfl ?_
  show KatLex prog w A false _ Q [(.ref d, .ref d'), (.int i t, .int j t')] 0 s
  refine kat_cons ?_
  refine tup_eqBool hu (isTup_of N m2) (isTup_of N m2') f f' (kin_plain k l) (fun e => ?_) ?_
  · subst e
    have e1 := (N _ m2).1
    have e2 := (N _ m2').1
    rw [e1] at e2
    have e3 : us.toArray = us'.toArray := by
      have := congrArg (fun o : Option Obj => o.map (·.data)) e2
      simp at this
      simpa using this.1
    have e4 : us = us' := by simpa using e3
    subst e4
    exact flAll_unique f f'
  · by_cases e : plainL k = plainL l
    · rw [decide_eq_true e]
      rw [if_pos e] at h
      refine kat_yes (kat_cons ?_)
      refine wpAny_eqBool_int ?_
      by_cases e2 : (i : Int) = (j : Int)
      · have e3 : ((i : Int) == (j : Int)) = true := by simpa using e2
        rw [e3]
        refine kat_yes (kat_nil ?_)
        have e4 : decide (i < j) = false := by simp; omega
        rw [e4] at h
        exact h
      · have e3 : ((i : Int) == (j : Int)) = false := by simpa using e2
        rw [e3]
        refine kat_no ?_
        show wpAny _ _ (oneLt' false (.int i t) (.int j t')) Q _ s
        refine kat_one _ _ (lt_int ?_)
        show Q (decide ((i : Int) < (j : Int))) s
        have e4 : decide ((i : Int) < (j : Int)) = decide (i < j) := by simp
        rw [e4]; exact h
    · rw [decide_eq_false e]
      rw [if_neg e] at h
      refine kat_no ?_
      show wpAny _ _ (oneLt' false (.ref d) (.ref d')) Q _ s
      refine kat_one _ _ (cmp_ofLt (tup_rich_lt hu (isTup_of N m2) (isTup_of N m2') f f' (kin_plain k l) ?_))
      exact h

theorem sort_pairs {Q : Value → Shared → Prop} {l : Addr} {vs : List Value} {ks : List Key} (F : Fr h₀ L s.heap m) (N : News h₀ L s.heap news) (hu : A.units + 2 < cLine)
    (hl : s.heap.IsList l vs.toArray) (h2 : 2 ≤ vs.length) (h64 : vs.length < 64) (hs : ∀ p ∈ led, p ∈ news) (hv : ∀ i, i < vs.length → PairIn led (vs.getD i Value.none) (ks.getD i ⟨0, .none, .none⟩) i)
    (ret : ∀ (D : Addr) (h' : Heap) (tk' : Nat) (q : Array Nat) (c : Nat), Fr h₀ L h' m → News h₀ L h' ((D, seqObj "list" (List.toArray (q.toList.map fun i => vs.getD i Value.none)) c) :: news) → (∀ q ∈ news, q.1 < D) →
      Pre vs.length q vs.length → Srt (ltP ks) q vs.length → Q (.ref D) { s with heap := h', toks := tk' }) :
    wpAny (model prog w) A (call (.builtin "sorted") [.ref l]) Q E s := by
  refine kat_sorted F N hl h2 h64 fun D e1 h' F' N' hlt => ?_
  have hsub : ∀ p ∈ led, p ∈ (D, seqObj "list" #[] e1) :: news := fun p hp => .tail _ (hs p hp)
  obtain ⟨fs, el, tups, firsts⟩ := katTups_of (h := h') (vs := vs) fun v hvm => by
    obtain ⟨i, hi, rfl⟩ := List.mem_iff_getElem.mp hvm
    obtain ⟨r, d, c1, c2, us, t, ev, m1, m2, f⟩ := hv i hi
    have e : vs[i] = .ref r := by rw [← ev]; simp [hi]
    exact ⟨r, _, _, _, .ref d, e, (N' _ (hsub _ m1)).1, rfl, rfl, rfl, d, _, rfl, (N' _ (hsub _ m2)).1, rfl⟩
  refine kat_kind (T := .type "tuple") tups (by omega) (fun f hf => ?_) (by decide) ?_
  · obtain ⟨d, o', rfl, ho, hc⟩ := firsts f hf
    have l1 : Looks (model prog w) h' (typeOf (.ref d)) o'.cls := (Looks.ld ho).andThen .now
    rw [hc] at l1
    exact l1
  · show (kas_sort vs.length).kasWp (kas_ask prog w A.in1.in1 (tuples' false) vs) _ _
    refine good_wp (lt := ltP ks) (N := vs.length) (Inv := fun s' => ∃ h'' tk, s' = { s with heap := h'', toks := tk } ∧ Fr h₀ L h'' m ∧ News h₀ L h'' ((D, seqObj "list" #[] e1) :: news)) ?_ ?_ _ _ (sort_good (weakP ks) h2) ⟨h', s.toks, rfl, F', N'⟩
    · rintro i j C s' hi hj ⟨h'', tk, rfl, F'', N''⟩ hC
      unfold kas_ask
      exact pair_lt (by show A.units + 1 + 1 < cLine; omega) N'' ((hv i hi).mono hsub) ((hv j hj).mono hsub) (hC _ ⟨h'', tk, rfl, F'', N''⟩)
    · rintro q s' ⟨hp, hsrt⟩ ⟨h'', tk, rfl, F'', N''⟩
      refine KasFin.intro F'' N'' (UpdF.head fun q hq e => absurd (hlt q hq) (by rw [e]; exact Nat.lt_irrefl _)) fun h3 c F3 N3 => ?_
      exact ret D h3 tk q c F3 N3 hlt hp hsrt
end
end Mine
end

section
open PySem PySem.W PyProof.Rows
set_option Elab.async false
namespace Mine
open PySem PySem.Spec PySem.Calls PySem.W PyProof.Rows
def Held (P : Prop) : Prop := P
theorem held {P : Prop} (h : Held P) : P := h
/-- the ints the law works with -/
def nsOf (zs : List Int) : List Int := if zs = [] then [11, 47, 0, 4, 5, 6, 7, 8, 1, 3] else zs.take 12
theorem nsOf_len (zs : List Int) : 1 ≤ (nsOf zs).length ∧ (nsOf zs).length ≤ 12 := by
  unfold nsOf
  split
  · decide
  · rename_i h
    cases zs with
    | nil => exact absurd rfl h
    | cons a b => simp; omega
def IterPost (h₀ : Heap) (L : Addr) (m : Str → Option Value) (news : List (Addr × Obj)) (zs : List Int) (s : Shared) (xv : Value) (s₁ : Shared) : Prop :=
  ∃ (ax : Addr) (vs : List Value) (h : Heap) (tk c : Nat) (led : List (Addr × Obj)), xv = .ref ax ∧ s₁ = { s with heap := h, toks := tk } ∧ Fr h₀ L h m ∧ News h₀ L h led ∧ (∀ p ∈ news, p ∈ led) ∧ (ax, seqObj "list" vs.toArray c) ∈ led ∧ IntsAre vs (nsOf zs)
theorem iterPost_of {h₀ : Heap} {L ax : Addr} {m : Str → Option Value} {news led : List (Addr × Obj)} {zs ns : List Int} {s : Shared} {h : Heap} {tk c : Nat} {vs : List Value}
    (F : Fr h₀ L h m) (N : News h₀ L h led) (hsub : ∀ p ∈ news, p ∈ led) (hm : (ax, seqObj "list" vs.toArray c) ∈ led) (hv : IntsAre vs ns) (e : ns = nsOf zs) : IterPost h₀ L m news zs s (.ref ax) { s with heap := h, toks := tk } := by
  subst e
  exact ⟨ax, vs, h, tk, c, led, rfl, rfl, F, N, hsub, hm, hv⟩
theorem nsOf_nil {zs : List Int} (h : decide (zs = []) = true) : [11, 47, 0, 4, 5, 6, 7, 8, 1, 3] = nsOf zs := by
  unfold nsOf
  rw [if_pos (of_decide_eq_true h)]
theorem nsOf_take {zs : List Int} (h : decide (zs = []) = false) : zs.take 12 = nsOf zs := by
  unfold nsOf
  rw [if_neg (of_decide_eq_false h)]
theorem ks_get {ns : List Int} {i : Nat} {n : Int} (h : ns[i]? = some n) : (ns.map keyOf).getD i ⟨0, .none, .none⟩ = keyOf n := by
  simp [List.getD, h]
/-- element i is a row of key i, of things made above c0 -/
def EltRow (c0 : Addr) (ks : List Key) (led : List (Addr × Obj)) (i : Nat) (y : Value) : Prop := ∃ r x tl, y = .ref r ∧ (∀ p ∈ tl, p ∈ led ∧ c0 < p.1) ∧ RowIn tl r x (ks.getD i ⟨0, .none, .none⟩)
theorem eltRow_mono {c0 : Addr} {ks : List Key} : ∀ led led' i y, (∀ p ∈ led, p ∈ led') → EltRow c0 ks led i y → EltRow c0 ks led' i y := by
  rintro led led' i y hs ⟨r, x, tl, e, h1, h2⟩
  exact ⟨r, x, tl, e, fun p hp => ⟨hs _ (h1 p hp).1, (h1 p hp).2⟩, h2⟩
/-- the ledger without the place c -/
def off (c : Addr) (led : List (Addr × Obj)) : List (Addr × Obj) := led.filter fun p => decide (p.1 ≠ c)
theorem off_ne {c : Addr} {led : List (Addr × Obj)} : ∀ p ∈ off c led, p.1 ≠ c := fun _ hp => by
  have := (List.mem_filter.mp hp).2
  simpa using this
theorem off_sub {c : Addr} {led : List (Addr × Obj)} : ∀ p ∈ off c led, p ∈ led := fun p hp => (List.mem_filter.mp hp).1
theorem off_mem {c : Addr} {led : List (Addr × Obj)} {p : Addr × Obj} (hp : p ∈ led) (h : p.1 ≠ c) : p ∈ off c led := List.mem_filter.mpr ⟨hp, by simpa using h⟩
/-- the rows by their places -/
def Rows (led : List (Addr × Obj)) (ys : Array Value) (ks : List Key) : Prop := ys.size = ks.length ∧ ∀ i, i < ks.length → ∃ r x, ys.getD i .none = .ref r ∧ RowIn led r x (ks.getD i ⟨0, .none, .none⟩) ∧ (ks.getD i ⟨0, .none, .none⟩).ok
theorem Rows.mono {led led' : List (Addr × Obj)} {ys : Array Value} {ks : List Key} (h : Rows led ys ks) (hs : ∀ p ∈ led, p ∈ led') : Rows led' ys ks :=
  ⟨h.1, fun i hi => by obtain ⟨r, x, e, hr, ok⟩ := h.2 i hi; exact ⟨r, x, e, hr.mono hs, ok⟩⟩
theorem rows_of {c0 : Addr} {zs : List Int} {led : List (Addr × Obj)} {ys : Array Value} (hz : ys.size = (nsOf zs).length) (hE : ∀ j, j < (nsOf zs).length → EltRow c0 ((nsOf zs).map keyOf) led j (ys.getD j .none)) : Rows (off c0 led) ys ((nsOf zs).map keyOf) := by
  refine ⟨by simpa using hz, fun i hi => ?_⟩
  have hi' : i < (nsOf zs).length := by simpa using hi
  obtain ⟨r, x, tl, e, h1, h2⟩ := hE i hi'
  refine ⟨r, x, e, h2.mono fun p hp => off_mem (h1 p hp).1 (Nat.ne_of_gt (h1 p hp).2), ?_⟩
  have : ((nsOf zs).map keyOf).getD i ⟨0, .none, .none⟩ = keyOf (nsOf zs)[i] := by simp [List.getD, hi']
  rw [this]
  exact keyOf_ok _
theorem rows_pack {c0 : Addr} {vs₀ : List Value} {zs : List Int} {led : List (Addr × Obj)} {ys : Array Value} (_hi : IntsAre vs₀ zs) (hz : ys.size = (nsOf zs).length) (hE : ∀ j, j < (nsOf zs).length → EltRow c0 ((nsOf zs).map keyOf) led j (ys.getD j .none)) :
    ∃ ks, Rows (off c0 led) ys ks ∧ 1 ≤ ks.length ∧ ks.length ≤ 12 := ⟨_, rows_of hz hE, by simpa using (nsOf_len zs).1, by simpa using (nsOf_len zs).2⟩
theorem rows_gen {h₀ h : Heap} {L c D : Addr} {o od : Obj} {tl : List (Addr × Obj)} {ys : Array Value} {ks : List Key} (N : News h₀ L h ((c, o) :: (D, od) :: tl)) (hr : Rows tl ys ks) :
    ∃ R, News h₀ L h R ∧ (c, o) ∈ R ∧ (D, od) ∈ R ∧ Rows R ys ks := ⟨_, N, .head _, .tail _ (.head _), hr.mono fun _ hp => .tail _ (.tail _ hp)⟩
theorem rows_led {h₀ h : Heap} {L c D : Addr} {o od : Obj} {led tl : List (Addr × Obj)} (N : News h₀ L h ((D, od) :: (led ++ tl))) (hc : (c, o) ∈ led) : News h₀ L h ((c, o) :: (D, od) :: off c (led ++ tl)) := by
  intro p hp
  rcases List.mem_cons.mp hp with rfl | hp
  · exact N _ (.tail _ (List.mem_append_left _ hc))
  · rcases List.mem_cons.mp hp with rfl | hp
    · exact N _ (.head _)
    · exact N _ (.tail _ (off_sub p hp))
theorem rows_ne {c D : Addr} {od : Obj} {led : List (Addr × Obj)} (h : c < D) : ∀ p ∈ (D, od) :: off c led, p.1 ≠ c := by
  intro p hp
  rcases List.mem_cons.mp hp with rfl | hp
  · exact Nat.ne_of_gt h
  · exact off_ne p hp
section
variable {prog : Program} {w : World} {A : Around} {E : Value → Shared → Prop} {s : Shared} {h₀ : Heap} {L : Addr} {m : Str → Option Value} {news : List (Addr × Obj)}
/-- the rows -/
theorem comp_rows {c0 : Addr} {o0 : Obj} (_hc : (c0, o0) ∈ news) {env : Env} {elt iter : Expr} {x : Str} {px : Pos} {scope : Scope} {cl : List (Str × Addr)} {pos : Pos} {Q : Value → Shared → Prop} {vs₀ : List Value} {zs : List Int} (_hi : IntsAre vs₀ zs) (_F : Fr h₀ L s.heap m) (_N : News h₀ L s.heap news)
    (hh : A.handled = none) (hclos : closureFor scope env = pure cl) (hcell : ∀ y ∈ scope.names, y.2 ≠ .cell) (hkind : scope.kind = .function)
    (hnames : ∀ y ∈ scope.names, y.2 = .local → scope.names.lookup y.1 = some .local) (hx : scope.names.lookup x = some .local)
    (h : wpAny (model prog w) A (eval iter env) (IterPost h₀ L m news zs s) E s)
    (helt : ∀ C (led : List (Addr × Obj)) (vs : List Value), (∀ p ∈ news, p ∈ led) → IntsAre vs (nsOf zs) → EltDoes prog w A h₀ L m led s elt x vs.length (fun i v => vs[i]? = some v) (EltRow c0 ((nsOf zs).map keyOf)) (compEnvC scope cl C env))
    (hQ : ∀ D ys h' tk tl c (led : List (Addr × Obj)), Fr h₀ L h' m → News h₀ L h' ((D, seqObj "list" ys c) :: (led ++ tl)) → (∀ p ∈ news, p ∈ led) → (∀ q ∈ led, ∀ p ∈ tl, q.1 < p.1) → (∀ q ∈ led, q.1 < D) → ys.size = (nsOf zs).length → (∀ j, j < (nsOf zs).length → EltRow c0 ((nsOf zs).map keyOf) (led ++ tl) j (ys.getD j .none)) →
        Q (.ref D) { s with heap := h', toks := tk })
    (hs : ∀ x, foldedSetIterable iter env x = pure x := by intro _; rfl) :
    wpAny (model prog w) A (eval (.ListComp elt [⟨.Name x px, iter, [], 0⟩] scope pos) env) Q E s := by
  refine comp_list (h₀ := h₀) (L := L) (m := m) (Elt := EltRow c0 ((nsOf zs).map keyOf)) eltRow_mono hh hclos hcell hkind hnames hx (wpAny_mono h (fun xv s₁ h₁ => ?_) fun _ _ e => e) hs
  obtain ⟨ax, vs, h', tk, c, led, rfl, rfl, F', N', hsub, hm, hvs⟩ := h₁
  have hlen : vs.length = (nsOf zs).length := hvs.length
  refine ⟨led, ax, vs, rfl, ⟨_, (N' _ hm).1, rfl, c, rfl⟩, (N' _ hm).2.1, ?_, F', N', fun C => helt C led vs hsub hvs, fun D ys h2 tk2 tl c2 F2 N2 ho hD hz hE => ?_⟩
  · have := (nsOf_len zs).2
    rw [hlen, sizeLine_eq]; omega
  · exact hQ D ys h2 tk2 tl c2 led F2 N2 hsub ho hD (by rw [hz, hlen]) fun j hj => hE j (by rw [hlen]; exact hj)
end

theorem cls_of {w : World} {h : Heap} (_X : (Mine.hd.heap_39 w.params).In h) : ∀ C, isCls C → ClsOk (Mine.hd.heap_39 w.params) C := cls_ok w rfl
section
variable {prog : Program} {w : World} {A : Around} {E : Value → Shared → Prop} {s : Shared}
theorem tup_ne_same (hu : A.units < cLine) {a b : Addr} {xs ys : List Value} {k : Key} (ha : IsTup s.heap a xs.toArray) (hb : IsTup s.heap b ys.toArray) (hx : FlAll xs (keyL k)) (hy : FlAll ys (keyL k)) (ok : k.ok)
    {Q : Value → Shared → Prop} (h : Q (.bool false) s) : wpAny (model prog w) A (compareOp .NotEq (.ref a) (.ref b)) Q E s :=
  cmp_ofNotEq (tup_rich_ne hu ha hb hx hy (kin_key ok ok) (by rw [decide_eq_true rfl]; exact h))
theorem tup_lt_plain (hu : A.units < cLine) {a b : Addr} {xs ys : List Value} {k l : Key} (ha : IsTup s.heap a xs.toArray) (hb : IsTup s.heap b ys.toArray) (hx : FlAll xs (plainL k)) (hy : FlAll ys (plainL l))
    {Q : Value → Shared → Prop} (h : Q (.bool (plt k l)) s) : wpAny (model prog w) A (compareOp .Lt (.ref a) (.ref b)) Q E s :=
  cmp_ofLt (tup_rich_lt hu ha hb hx hy (kin_plain k l) h)
theorem row_at {led : List (Addr × Obj)} {ys : Array Value} {ks : List Key} (h : Rows led ys ks) {i : Nat} {v : Value} (hv : ys.toList[i]? = some v) :
    i < ks.length ∧ ∃ (r x : Addr) (k : Key), v = .ref r ∧ ObjIn led x k ∧ (∃ (D1 : Addr) (c1 c2 : Nat) (v1 v2 v3 : Value), (r, tupObj [.ref x, .ref D1] c1) ∈ led ∧ (D1, tupObj [v1, v2, v3] c2) ∈ led ∧ FlIs v1 (.int k.t) ∧ FlIs v2 k.net ∧ FlIs v3 k.oct) ∧ k.ok ∧ k = ks.getD i ⟨0, .none, .none⟩ := by
  have hi : i < ys.size := by
    have := List.getElem?_eq_some_iff.mp hv
    simpa using this.1
  have hi' : i < ks.length := by rw [← h.1]; exact hi
  obtain ⟨r, x, e, hr, ok⟩ := h.2 i hi'
  refine ⟨hi', r, x, _, ?_, hr.obj, hr.ex, ok, rfl⟩
  rw [← e]
  have e2 : ys.toList[i]? = some ys[i] := by simp [hi]
  rw [e2] at hv
  cases hv
  simp [Array.getD, hi]
end

section
variable {prog : Program} {w : World} {A : Around} {E : Value → Shared → Prop} {s : Shared} {h₀ : Heap} {L a : Addr} {news : List (Addr × Obj)} {vs : List Value} {c : Nat} {v : Value} {u : Tok} {value slice : PySem.Expr} {Q : Value → Shared → Prop}
theorem item_0 (N : News h₀ L s.heap news) (hm : (a, tupObj vs c) ∈ news) (hx : vs[0]? = some v) (h : Q v s)
    (hs : subscripted slice false (.ref a) (.int 0 u) = operate [.ref a, .int 0 u] (getItem (.ref a) (.int 0 u)) := by with_unfolding_all rfl) : wpAny (model prog w) A (subscriptTail value slice (.ref a) (.int 0 u)) Q E s :=
  item_tupleT (isTup_of N hm) (by decide) (by decide) (j := 0) (by cases vs with | nil => simp at hx | cons a b => simp [seqIndex?]) (by simpa using hx) h hs
theorem item_1 (N : News h₀ L s.heap news) (hm : (a, tupObj vs c) ∈ news) (hx : vs[1]? = some v) (h : Q v s)
    (hs : subscripted slice false (.ref a) (.int 1 u) = operate [.ref a, .int 1 u] (getItem (.ref a) (.int 1 u)) := by with_unfolding_all rfl) : wpAny (model prog w) A (subscriptTail value slice (.ref a) (.int 1 u)) Q E s :=
  item_tupleT (isTup_of N hm) (by decide) (by decide) (j := 1) (by
    match vs, hx with
    | a :: b :: r, _ => simp [seqIndex?]; omega) (by simpa using hx) h hs
theorem item_2 (N : News h₀ L s.heap news) (hm : (a, tupObj vs c) ∈ news) (hx : vs[2]? = some v) (h : Q v s)
    (hs : subscripted slice false (.ref a) (.int 2 u) = operate [.ref a, .int 2 u] (getItem (.ref a) (.int 2 u)) := by with_unfolding_all rfl) : wpAny (model prog w) A (subscriptTail value slice (.ref a) (.int 2 u)) Q E s :=
  item_tupleT (isTup_of N hm) (by decide) (by decide) (j := 2) (by
    match vs, hx with
    | a :: b :: d :: r, _ => simp [seqIndex?]; omega) (by simpa using hx) h hs
end
end Mine
end

section
open PySem PySem.W PyProof.Rows
set_option Elab.async false
namespace Mine
open PySem PySem.Spec PySem.Calls PySem.W PyProof.Rows
section
variable {prog : Program} {w : World} {A : Around} {E : Value → Shared → Prop} {s : Shared} {env : Env} {h₀ : Heap} {x : Str} {body : List Stmt} {Q : Flow → Shared → Prop}
theorem range_rounds {n : Nat} (h : n ≤ 1000) : Builtin.Range.rangeSize 0 (n : Int) 1 = (n : Int) ∧ Builtin.Range.small 0 (n : Int) 1 = true := by
  have hn : Builtin.Range.rangeSize 0 (n : Int) 1 = (n : Int) := by
    rw [rangeSize_one]
    split <;> omega
  refine ⟨hn, ?_⟩
  unfold Builtin.Range.small
  rw [hn]
  have f1 : ∀ i : Int, 0 ≤ i → i ≤ 1000 → Builtin.Range.rangeFitsLong i = true := fun i h1 h2 => by
    unfold Builtin.Range.rangeFitsLong
    rw [Bool.and_eq_true]
    exact ⟨decide_eq_true (by omega), decide_eq_true (by omega)⟩
  rw [f1 0 (by omega) (by omega), f1 _ (by omega) (by omega), f1 1 (by omega) (by omega)]
  have e1 : ((n : Int) + (1 - 1)) = (n : Int) := by omega
  rw [if_pos (by decide), e1, f1 _ (by omega) (by omega)]
  simp
/-- a for over a short range -/
theorem loop_range {r : Addr} {n : Nat} {t u v : Tok} {m₀ : Str → Option Value} {news : List (Addr × Obj)} (J : Nat → (Str → Option Value) → Prop)
    (hh : A.handled = none) (hr : IsRange s.heap r 0 (n : Int) 1 t u v) (hsz : n ≤ 1000) (F : Fr h₀ env.locals s.heap m₀) (N : News h₀ env.locals s.heap news) (hj : J 0 m₀)
    (turn : ∀ i t m₁ h tk led, i < n → J i m₁ → (∀ p ∈ news, p ∈ led) → Fr h₀ env.locals h (fun y => if y = x then some (.int (i : Int) t) else m₁ y) → News h₀ env.locals h led →
      wpAny (model prog w) A (execs body env) (InvPost h₀ env.locals (J (i + 1)) led { s with heap := h, toks := tk } Q) E { s with heap := h, toks := tk })
    (done : ∀ m₁ h tk, J n m₁ → Fr h₀ env.locals h m₁ → News h₀ env.locals h news → Q .next { s with heap := h, toks := tk }) :
    wpAny (model prog w) A (pyIter (.ref r)) (fun it s₂ => LoopAtV prog w A h₀ env x body Q E it s₂) E s := by
  obtain ⟨hn, hsmall⟩ := range_rounds hsz
  refine wpAny_pyIter_range hr hsmall ?_
  have W := Walks.range (prog := prog) (w := w) hh s.heap.objs.size 0 1 n
  let J' : Nat → (Str → Option Value) → List (Addr × Obj) → Prop := fun i m₁ news₁ => news₁ = news ∧ J i m₁
  refine ⟨_, _, _, n, _, _, m₀, news, J', rfl, W, ?_, ?_, ?_, (by show IsRangeIter _ _ _ _ _; rw [hn]; simpa using Heap.get?_push_size _ rfl), F.push _, (fun p hp => ⟨Heap.get?_push_of_some _ (N p hp).1, (N p hp).2⟩), ⟨rfl, hj⟩, ?_, ?_⟩
  · intro hm
    exact absurd F.ns.lt ((List.mem_singleton.mp hm) ▸ Nat.lt_irrefl _)
  · intro b hb
    rw [List.mem_singleton.mp hb]
    exact next_is_new F
  · intro p hp hI
    exact absurd (Heap.lt_size (N p hp).1) ((List.mem_singleton.mp hI) ▸ Nat.lt_irrefl _)
  · rintro i v m₁ news₁ s₁ own ⟨hh', tk', rfl⟩ hin hP ⟨rfl, hJ⟩ hoff _ _ _ _ F₁ N₁
    obtain ⟨t', rfl⟩ := hP
    have F₂ : Fr h₀ env.locals hh' (fun y => if y = x then some (.int (i : Int) t') else m₁ y) := by simpa using F₁
    refine wpAny_mono (turn i t' m₁ hh' tk' (own ++ news₁) hin hJ (fun p hp => List.mem_append_right _ hp) F₂ N₁) (fun f s₂ p => ?_) fun _ _ e => e
    have fin : InvEnd h₀ env.locals (J (i + 1)) (own ++ news₁) { s with heap := hh', toks := tk' } s₂ → LoopStepU h₀ env.locals [s.heap.objs.size] own (J' (i + 1)) { s with heap := hh', toks := tk' } .next s₂ := by
      rintro ⟨h', tk, m', news', e, F', N', hn, hm⟩
      exact ⟨rfl, h', tk, m', news₁, e, F', fun p hp => N' p (hn p hp), hoff, rfl, hm⟩
    cases f with
    | ret v => exact .ret p
    | brk => exact .brk p
    | next => exact .next (fin p)
    | cont => exact .cont (fin p)
  · rintro h' tk m' news' F' N' _ ⟨rfl, hJ⟩
    exact done m' h' tk hJ F' N'
end

section
variable {prog : Program} {w : World} {A : Around} {E : Value → Shared → Prop} {s : Shared} {h₀ : Heap} {L : Addr} {m : Str → Option Value} {news led : List (Addr × Obj)}
def RangePost (h₀ : Heap) (L : Addr) (m : Str → Option Value) (news : List (Addr × Obj)) (n : Nat) (s : Shared) (xv : Value) (s₁ : Shared) : Prop :=
  ∃ (r : Addr) (h : Heap) (tk : Nat) (t u v : Tok) (led : List (Addr × Obj)), xv = .ref r ∧ s₁ = { s with heap := h, toks := tk } ∧ IsRange h r 0 (n : Int) 1 t u v ∧ Fr h₀ L h m ∧ News h₀ L h led ∧ ∀ p ∈ news, p ∈ led
def PairElt (ks : List Key) (led : List (Addr × Obj)) (i : Nat) (y : Value) : Prop := PairIn led y (ks.getD i ⟨0, .none, .none⟩) i
theorem comp_pairs {ks : List Key} {n : Nat} (hn : n ≤ 1000) {env : Env} {elt iter : Expr} {x : Str} {px : Pos} {scope : Scope} {cl : List (Str × Addr)} {pos : Pos} {Q : Value → Shared → Prop} (_F : Fr h₀ L s.heap m) (_N : News h₀ L s.heap news)
    (hh : A.handled = none) (hclos : closureFor scope env = pure cl) (hcell : ∀ y ∈ scope.names, y.2 ≠ .cell) (hkind : scope.kind = .function)
    (hnames : ∀ y ∈ scope.names, y.2 = .local → scope.names.lookup y.1 = some .local) (hx : scope.names.lookup x = some .local)
    (h : wpAny (model prog w) A (eval iter env) (RangePost h₀ L m news n s) E s)
    (helt : ∀ C (led : List (Addr × Obj)), (∀ p ∈ news, p ∈ led) → EltDoes prog w A h₀ L m led s elt x n (fun i v => ∃ t, v = .int (i : Int) t) (PairElt ks) (compEnvC scope cl C env))
    (hQ : ∀ D (vs : List Value) h' tk c (led : List (Addr × Obj)), Fr h₀ L h' m → News h₀ L h' led → (∀ p ∈ news, p ∈ led) → (D, seqObj "list" vs.toArray c) ∈ led → vs.length = n → (∀ j, j < n → PairIn led (vs.getD j .none) (ks.getD j ⟨0, .none, .none⟩) j) →
        Q (.ref D) { s with heap := h', toks := tk })
    (hs : ∀ x, foldedSetIterable iter env x = pure x := by intro _; rfl) :
    wpAny (model prog w) A (eval (.ListComp elt [⟨.Name x px, iter, [], 0⟩] scope pos) env) Q E s := by
  refine comp_range (h₀ := h₀) (L := L) (m := m) (Elt := PairElt ks) (fun _ _ _ _ hs h => h.mono hs) hh hclos hcell hkind hnames hx (wpAny_mono h (fun xv s₁ h₁ => ?_) fun _ _ e => e) hs
  obtain ⟨r, h', tk, t, u, v, led, rfl, rfl, hr, F', N', hsub⟩ := h₁
  refine ⟨led, r, t, u, v, n, rfl, hr, hn, F', N', fun C => helt C led hsub, fun D ys h2 tk2 tl c2 F2 N2 ho hD hz hE => ?_⟩
  refine hQ D ys.toList h2 tk2 c2 _ F2 N2 (fun p hp => .tail _ (List.mem_append_left _ (hsub p hp))) (.head _) (by simpa using hz) fun j hj => ?_
  have := hE j hj
  rw [show ys.toList.getD j .none = ys.getD j .none by simp [List.getD, Array.getD_eq_getD_getElem?]]
  exact PairIn.mono this fun p hp => .tail _ hp
def ObjElt (ks : List Key) (xs : Nat → Addr) (led : List (Addr × Obj)) (i : Nat) (y : Value) : Prop := y = .ref (xs i) ∧ ObjIn led (xs i) (ks.getD i ⟨0, .none, .none⟩)
/-- the rows with the place of each object -/
def RowsX (led : List (Addr × Obj)) (ys : Array Value) (ks : List Key) (xs : Nat → Addr) : Prop :=
  ∀ i, i < ks.length → ∃ (r D1 : Addr) (c1 : Nat), ys[i]? = some (.ref r) ∧ (r, tupObj [.ref (xs i), .ref D1] c1) ∈ led ∧ ObjIn led (xs i) (ks.getD i ⟨0, .none, .none⟩) ∧ (ks.getD i ⟨0, .none, .none⟩).ok
theorem RowsX.mono {led led' : List (Addr × Obj)} {ys : Array Value} {ks : List Key} {xs : Nat → Addr} (h : RowsX led ys ks xs) (hs : ∀ p ∈ led, p ∈ led') : RowsX led' ys ks xs := fun i hi => by
  obtain ⟨r, D1, c1, e, m1, o, ok⟩ := h i hi
  exact ⟨r, D1, c1, e, hs _ m1, o.mono hs, ok⟩
theorem rows_x {led : List (Addr × Obj)} {ys : Array Value} {ks : List Key} (h : Rows led ys ks) : ∃ xs, RowsX led ys ks xs := by
  have : ∀ i, ∃ x : Addr, i < ks.length → ∃ (r D1 : Addr) (c1 : Nat), ys[i]? = some (.ref r) ∧ (r, tupObj [.ref x, .ref D1] c1) ∈ led ∧ ObjIn led x (ks.getD i ⟨0, .none, .none⟩) ∧ (ks.getD i ⟨0, .none, .none⟩).ok := fun i => by
    by_cases hi : i < ks.length
    · have hi' : i < ys.size := by rw [h.1]; exact hi
      have hv : ys.toList[i]? = some ys[i] := by simp [hi']
      obtain ⟨_, r, x, k, er, hobj, ⟨D1, c1, c2, v1, v2, v3, m1, _⟩, ok, ek⟩ := row_at h hv
      subst ek
      exact ⟨x, fun _ => ⟨r, D1, c1, by rw [← er]; simp [hi'], m1, hobj, ok⟩⟩
    · exact ⟨0, fun c => absurd c hi⟩
  exact Classical.skolem.mp this
theorem comp_objs {ks : List Key} {xs : Nat → Addr} {D0 : Addr} {ys : Array Value} {c0 : Nat} (hm : (D0, seqObj "list" ys c0) ∈ news) (hn : ys.size ≤ 1000) {env : Env} {elt iter : Expr} {x : Str} {px : Pos} {scope : Scope} {cl : List (Str × Addr)} {pos : Pos} {Q : Value → Shared → Prop} (F : Fr h₀ L s.heap m) (N : News h₀ L s.heap news)
    (hh : A.handled = none) (hclos : closureFor scope env = pure cl) (hcell : ∀ y ∈ scope.names, y.2 ≠ .cell) (hkind : scope.kind = .function)
    (hnames : ∀ y ∈ scope.names, y.2 = .local → scope.names.lookup y.1 = some .local) (hx : scope.names.lookup x = some .local)
    (h : wpAny (model prog w) A (eval iter env) (fun v s' => v = .ref D0 ∧ s' = s) E s)
    (helt : ∀ C, EltDoes prog w A h₀ L m news s elt x ys.toList.length (fun i v => ys.toList[i]? = some v) (ObjElt ks xs) (compEnvC scope cl C env))
    (hQ : ∀ D (vs : List Value) h' tk c (led : List (Addr × Obj)), Fr h₀ L h' m → News h₀ L h' led → (∀ p ∈ news, p ∈ led) → (D, seqObj "list" vs.toArray c) ∈ led → vs.length = ys.size → (∀ j, j < ys.size → ObjElt ks xs led j (vs.getD j .none)) →
        Q (.ref D) { s with heap := h', toks := tk })
    (hs : ∀ x, foldedSetIterable iter env x = pure x := by intro _; rfl) :
    wpAny (model prog w) A (eval (.ListComp elt [⟨.Name x px, iter, [], 0⟩] scope pos) env) Q E s := by
  refine comp_list (h₀ := h₀) (L := L) (m := m) (Elt := ObjElt ks xs) (fun _ _ _ _ hs h => ⟨h.1, h.2.mono hs⟩) hh hclos hcell hkind hnames hx (wpAny_mono h (fun xv s₁ h₁ => ?_) fun _ _ e => e) hs
  obtain ⟨rfl, rfl⟩ := h₁
  refine ⟨news, D0, ys.toList, rfl, ⟨_, (N _ hm).1, rfl, c0, by rfl⟩, (N _ hm).2.1, ?_, F, N, helt, fun D zs h2 tk2 tl c2 F2 N2 ho hD hz hE => ?_⟩
  · rw [Array.length_toList, sizeLine_eq]; omega
  · refine hQ D zs.toList h2 tk2 c2 _ F2 N2 (fun p hp => .tail _ (List.mem_append_left _ hp)) (.head _) (by simpa using hz) fun j hj => ?_
    have := hE j (by simpa using hj)
    rw [show zs.toList.getD j .none = zs.getD j .none by simp [List.getD, Array.getD_eq_getD_getElem?]]
    exact ⟨this.1, this.2.mono fun p hp => .tail _ hp⟩
end

/-- an item of a sorted list, by its place -/
theorem picked {n : Nat} {q : Array Nat} {vs : List Value} (hp : Pre n q n) {j : Nat} (hj : j < n) : (List.toArray (q.toList.map fun i => vs.getD i Value.none))[j]? = some (vs.getD (q.getD j 0) Value.none) ∧ q.getD j 0 < n := by
  refine ⟨?_, hp.low j hj⟩
  have h : j < q.size := by rw [hp.size]; exact hj
  simp [Array.getD, h]
theorem picked_size {n : Nat} {q : Array Nat} {vs : List Value} (hp : Pre n q n) : (List.toArray (q.toList.map fun i => vs.getD i Value.none)).size = n := by
  simp [hp.size]
/-- T is vs in the order q -/
structure Sorted (T : Array Value) (vs : List Value) (q : Array Nat) : Prop where
  size : T.size = vs.length
  at_ : ∀ j, j < vs.length → T[j]? = some (vs.getD (q.getD j 0) Value.none)
  pre : Pre vs.length q vs.length
theorem sorted_of {vs : List Value} {q : Array Nat} (hp : Pre vs.length q vs.length) : Sorted (List.toArray (q.toList.map fun i => vs.getD i Value.none)) vs q := ⟨picked_size hp, fun _ hj => (picked hp hj).1, hp⟩
/-- sorted objects, one or more -/
theorem sort_objs1 (w : World) {loose : List Str} {mean : ExcName → Option Value} {mg mb : Str → Option Value} {p : Program}
    {dp un : Nat} {gd : Option (List Code)} {cn : Str} {cs : Scope} {a : Addr} {ccd : Value} {cl : List (Str × Addr)} {outer : List Env} {A₀ : Around} {base h₀ : Heap} {L : Addr} {m : Str → Option Value} {news : List (Addr × Obj)} {s : Shared}
    {Q E : Value → Shared → Prop} {l : Addr} {c : Nat} {vs : List Value} {ks : List Key}
    (B : Below A₀ base outer h₀) (F : Fr h₀ L s.heap m) (X : (Mine.hd.heap_39 w.params).In h₀) (N : News h₀ L s.heap news) (T : Top p loose mean mg mb h₀) (hk : cs.kind = .function)
    (hd : dp + 5 < recursionLimit) (hu : un + 60 < cLine) (hm : (l, seqObj "list" vs.toArray c) ∈ news) (h1 : 1 ≤ vs.length) (h64 : vs.length < 64)
    (hv : ∀ i, i < vs.length → ∃ x, vs.getD i Value.none = .ref x ∧ ObjIn news x (ks.getD i ⟨0, .none, .none⟩) ∧ (ks.getD i ⟨0, .none, .none⟩).ok)
    (ret' : ∀ (D : Addr) (h' : Heap) (tk' : Nat) (T : Array Value) (q : Array Nat) (c : Nat), Fr h₀ L h' m → News h₀ L h' ((D, seqObj "list" T c) :: news) →
      Sorted T vs q → Srt (ltK ks) q vs.length → Q (.ref D) { s with heap := h', toks := tk' }) :
    wpAny (model PySem.Challenge.rw_fb5003_01.row.prog w) (ktrTop dp un gd cn cs L a ccd cl outer) (call (.builtin "sorted") [.ref l]) Q E s := by
  have hl : s.heap.IsList l vs.toArray := ⟨_, (N _ hm).1, rfl, c, rfl⟩
  have ret : ∀ (D : Addr) (h' : Heap) (tk' : Nat) (q : Array Nat) (c : Nat), Fr h₀ L h' m → News h₀ L h' ((D, seqObj "list" (List.toArray (q.toList.map fun i => vs.getD i Value.none)) c) :: news) →
      Pre vs.length q vs.length → Srt (ltK ks) q vs.length → Q (.ref D) { s with heap := h', toks := tk' } := fun D h' tk' q c F' N' hp hs => ret' D h' tk' _ q c F' N' (sorted_of hp) hs
  clear ret'
  by_cases h2 : 2 ≤ vs.length
  · exact sort_objs w B F X N T hk hd hu hl h2 h64 (fun _ hp => hp) hv fun D h' tk' q c F' N' _ hp hs => ret D h' tk' q c F' N' hp hs
  · match vs, h1, h2, hl, ret with
    | [v], _, _, hl, ret =>
      refine sorted_one F N hl fun D h' c F' N' _ => ret D h' s.toks #[0] c F' (by simpa using N') ⟨rfl, Nat.le_refl _, fun k hk => ?_, fun k h1 h2 => ?_⟩ fun i j h1 h2 => ?_
      · simp only [List.length_singleton] at hk ⊢
        have : k = 0 := by omega
        subst this; decide
      · simp only [List.length_singleton] at h1 h2; omega
      · simp only [List.length_singleton] at h2; omega
    | _ :: _ :: _, _, h2, _, _ => exact absurd (by simp) h2
/-- sorted pairs, one or more -/
theorem sort_pairs1 {prog : Program} {w : World} {A : Around} {E : Value → Shared → Prop} {s : Shared} {h₀ : Heap} {L : Addr} {m : Str → Option Value} {news : List (Addr × Obj)} {Q : Value → Shared → Prop} {l : Addr} {c : Nat} {vs : List Value} {ks : List Key} (F : Fr h₀ L s.heap m) (N : News h₀ L s.heap news) (hu : A.units + 2 < cLine)
    (hm : (l, seqObj "list" vs.toArray c) ∈ news) (h1 : 1 ≤ vs.length) (h64 : vs.length < 64) (hv : ∀ i, i < vs.length → PairIn news (vs.getD i Value.none) (ks.getD i ⟨0, .none, .none⟩) i)
    (ret' : ∀ (D : Addr) (h' : Heap) (tk' : Nat) (T : Array Value) (q : Array Nat) (c : Nat), Fr h₀ L h' m → News h₀ L h' ((D, seqObj "list" T c) :: news) →
      Sorted T vs q → Srt (ltP ks) q vs.length → Q (.ref D) { s with heap := h', toks := tk' }) :
    wpAny (model prog w) A (call (.builtin "sorted") [.ref l]) Q E s := by
  have hl : s.heap.IsList l vs.toArray := ⟨_, (N _ hm).1, rfl, c, rfl⟩
  have ret : ∀ (D : Addr) (h' : Heap) (tk' : Nat) (q : Array Nat) (c : Nat), Fr h₀ L h' m → News h₀ L h' ((D, seqObj "list" (List.toArray (q.toList.map fun i => vs.getD i Value.none)) c) :: news) →
      Pre vs.length q vs.length → Srt (ltP ks) q vs.length → Q (.ref D) { s with heap := h', toks := tk' } := fun D h' tk' q c F' N' hp hs => ret' D h' tk' _ q c F' N' (sorted_of hp) hs
  clear ret'
  by_cases h2 : 2 ≤ vs.length
  · exact sort_pairs F N hu hl h2 h64 (fun _ hp => hp) hv fun D h' tk' q c F' N' _ hp hs => ret D h' tk' q c F' N' hp hs
  · match vs, h1, h2, hl, ret with
    | [v], _, _, hl, ret =>
      refine sorted_one F N hl fun D h' c F' N' _ => ret D h' s.toks #[0] c F' (by simpa using N') ⟨rfl, Nat.le_refl _, fun k hk => ?_, fun k h1 h2 => ?_⟩ fun i j h1 h2 => ?_
      · simp only [List.length_singleton] at hk ⊢
        have : k = 0 := by omega
        subst this; decide
      · simp only [List.length_singleton] at h1 h2; omega
      · simp only [List.length_singleton] at h2; omega
    | _ :: _ :: _, _, h2, _, _ => exact absurd (by simp) h2
section
variable {prog : Program} {w : World} {A : Around} {E : Value → Shared → Prop} {s : Shared} {h₀ : Heap} {L : Addr} {news : List (Addr × Obj)}
/-- an item of a list of the ledger by a counter -/
theorem item_at {value slice : Expr} {l : Addr} {ys : Array Value} {c i : Nat} {u : Tok} {x : Value} {Q : Value → Shared → Prop} (N : News h₀ L s.heap news) (hm : (l, seqObj "list" ys c) ∈ news)
    (hi : i ≤ 1000) (hx : ys[i]? = some x) (h : Q x s)
    (hs : subscripted slice false (.ref l) (.int (i : Int) u) = operate [.ref l, .int (i : Int) u] (getItem (.ref l) (.int (i : Int) u)) := by with_unfolding_all rfl) :
    wpAny (model prog w) A (subscriptTail value slice (.ref l) (.int (i : Int) u)) Q E s :=
  item_listR (PySem.IsL.isList (n := c) (N _ hm).1) (by omega) (by omega) (by simpa using hx) h hs
/-- a range counts from nought -/
theorem range_made {m : Str → Option Value} {k : Int} {n : Nat} {t : Tok} {Q : Value → Shared → Prop} (F : Fr h₀ L s.heap m) (N : News h₀ L s.heap news) (hk : k = (n : Int))
    (h : ∀ r h' tk t u v, IsRange h' r 0 (n : Int) 1 t u v → Fr h₀ L h' m → News h₀ L h' news → Q (.ref r) { s with heap := h', toks := tk }) :
    wpAny (model prog w) A (call (.type "range") [.int k t]) Q E s := by
  subst hk
  exact call_range_1 (h _ _ _ _ _ _ (IsRange.new _ _ _ _ _ _ _) (F.push _) (fun p hp => ⟨Heap.get?_push_of_some _ (N p hp).1, (N p hp).2⟩))
end
end Mine
end

section
open PySem PySem.W PyProof.Rows
set_option Elab.async false
namespace Mine
open PySem PySem.Spec PySem.Calls PySem.W PyProof.Rows
local macro_rules | `(tactic| walk_at "eval ListComp") => `(tactic| (k_here; refine' held ?_))
local macro_rules | `(tactic| walk_at "exec For Name Call cons nil") => `(tactic| (k_here; refine' held ?_))
local macro_rules | `(tactic| walk_at "exec For Name Name cons nil") => `(tactic| (k_here; refine' held ?_))
local macro_rules | `(tactic| walk_at "call builtin:sorted") => `(tactic| (k_here; refine' held ?_))

local macro_rules | `(tactic| walk_at "pyIter ref") => `(tactic| (k_here; refine' held ?_))
local macro_rules | `(tactic| walk_at "subscriptTail") => `(tactic| (k_here; (with_reducible show wpAny _ _ (subscriptTail _ _ (Value.ref _) (Value.int 0 _)) _ _ _); (refine' item_0 ?kN ?km ?kx ?_; (case kN => k_asm);(case km => (repeat (first | with_reducible assumption | with_reducible exact List.mem_cons_self | with_reducible refine List.mem_cons_of_mem _ ?_))); (case kx => rfl))))
local macro_rules | `(tactic| walk_at "subscriptTail") => `(tactic| (k_here; (with_reducible show wpAny _ _ (subscriptTail _ _ (Value.ref _) (Value.int 1 _)) _ _ _); (refine' item_1 ?kN ?km ?kx ?_; (case kN => k_asm);(case km => (repeat (first | with_reducible assumption | with_reducible exact List.mem_cons_self | with_reducible refine List.mem_cons_of_mem _ ?_))); (case kx => rfl))))
local macro_rules | `(tactic| walk_at "subscriptTail") => `(tactic| (k_here; (with_reducible show wpAny _ _ (subscriptTail _ _ (Value.ref _) (Value.int 2 _)) _ _ _); (refine' item_2 ?kN ?km ?kx ?_; (case kN => k_asm);(case km => (repeat (first | with_reducible assumption | with_reducible exact List.mem_cons_self | with_reducible refine List.mem_cons_of_mem _ ?_))); (case kx => rfl))))
local macro_rules | `(tactic| walk_at "eval Name") => `(tactic| (k_here; k_dflt (refine' nameX_C ?kN ?kc ?km ?kd ?_ ?ka ?kb; (case ka => rfl); (case kb => rfl); (case kN => k_asm); (case kc => rfl); (case km => (repeat (first | with_reducible assumption | with_reducible exact List.mem_cons_self | with_reducible refine List.mem_cons_of_mem _ ?_))); (case kd => k_asm); k_whole)))
local macro_rules | `(tactic| walk_at "call builtin:len") => `(tactic| (k_here; refine' held ?_))
local macro_rules | `(tactic| walk_at "call type:range") => `(tactic| (k_here; refine' held ?_))
local macro_rules | `(tactic| walk_at "subscriptTail") => `(tactic| (k_here; (with_reducible show wpAny _ _ (subscriptTail _ _ (Value.ref _) (Value.int (Nat.cast _) _)) _ _ _); refine' held ?_))
local macro_rules | `(tactic| walk_at "InvPost") => `(tactic| (k_here; refine' held ?_))
local macro_rules | `(tactic| walk_at "getMethod ref") => `(tactic| (k_here; (k_dflt (refine' method_obj (by assumption) ?k1 ?k2 ?k3 ?k4 ?k5 ?_; (case k1 => k_asm); (case k2 => k_asm); (case k3 => k_asm); (case k4 => assumption); (case k5 => (intro p9 h9; repeat (first | exact h9 | refine List.Mem.tail _ ?_))); k_whole))))
local macro_rules | `(tactic| walk_at "compareOp Lt ref ref") => `(tactic| (k_here; refine' held ?_))
local macro_rules | `(tactic| walk_at "call ref") => `(tactic| (k_here; (k_dflt (refine' plain_spec _ ?k1 ?k2 ?k3 ?k4 ?k5 ?kK ?kd ?ku ?km ?kf1 ?kf2 ?kf3 ?kok ?_; (case k1 => k_asm); (case k2 => k_asm); (case k3 => k_asm); (case k4 => k_asm); (case k5 => k_asm); (case kK => first | exact rfl | assumption); (case kd => k_room); (case ku => k_units); (case km => (repeat (first | with_reducible assumption | with_reducible exact List.mem_cons_self | with_reducible refine List.mem_cons_of_mem _ ?_))); (case kf1 => assumption); (case kf2 => assumption); (case kf3 => assumption); (case kok => assumption); k_whole)); intro D' h' tk' v1' v2' v3' F' N' l1' f1'; (try dsimp only); (try k_fold)))
local macro_rules | `(tactic| walk_at "call ref") => `(tactic| (k_here; (k_dflt (refine' tuple_spec _ ?k1 ?k2 ?k3 ?k4 ?k5 ?kK ?kd ?ku ?kx ?_; (case k1 => k_asm); (case k2 => k_asm); (case k3 => k_asm); (case k4 => k_asm); (case k5 => k_asm); (case kK => first | exact rfl | assumption); (case kd => k_room); (case ku => k_units); (case kx => refine' ObjIn.mono (by assumption) ?s; (case s => (intro p9 h9; repeat (first | exact h9 | refine List.Mem.tail _ ?_)))); k_whole)); intro D' h' tk' v1' v2' v3' F' N' l1' f1' f2' f3'; (try dsimp only); (try k_fold)))
local macro_rules | `(tactic| walk_at "compareOp NotEq ref ref") => `(tactic| (k_here; k_dflt (refine' tup_ne_same ?hu (isTup_of ?N1 ?M1) (isTup_of ?N2 ?M2) ?A1 ?A2 ?ok ?_; (case hu => k_units); (case N1 => k_asm); (case M1 => (repeat (first | with_reducible assumption | with_reducible exact List.mem_cons_self | with_reducible refine List.mem_cons_of_mem _ ?_))); (case N2 => k_asm); (case M2 => (repeat (first | with_reducible assumption | with_reducible exact List.mem_cons_self | with_reducible refine List.mem_cons_of_mem _ ?_))); (case A1 => exact flAll4 (by assumption) (by assumption) (by assumption)); (case A2 => exact flAll4 (by assumption) (by assumption) (by assumption)); (case ok => assumption); k_whole)))

set_option maxRecDepth 100000 in
set_option maxHeartbeats 16000000 in
theorem try1 : PySem.Challenge.rw_fb5003_01.Holds := Mine.hd (by
  k_go0
  all_goals try k_fold
  k_steps
  rename Fr _ _ _ _ => F
  rename News _ _ _ _ => N
  rename Frag.In _ _ => X
  rename Top _ _ _ _ _ _ => T
  rename Below _ _ _ _ => B
  rename IntsAre _ _ => hi
  rename Heap.IsList _ _ _ => hl
  refine' comp_rows (List.Mem.head _) hi F N (by rfl) (by with_unfolding_all rfl) (by decide) (by with_unfolding_all rfl) (by decide) (by with_unfolding_all rfl) ?zhit ?zhelt ?zhQ (by intro _; with_unfolding_all rfl)
  case zhit =>
    k_steps
    all_goals (try k_data)
    · exact iterPost_of (by assumption) (by assumption) (by intro p9 h9; repeat (first | exact h9 | refine List.Mem.tail _ ?_)) (by k_mem) (by repeat' constructor) (nsOf_nil (by assumption))
    · exact iterPost_of (by assumption) (by assumption) (by intro p9 h9; repeat (first | exact h9 | refine List.Mem.tail _ ?_)) (by k_mem) (by assumption) (nsOf_take (by assumption))
  case zhelt =>
    intro C led vs hsub hvs
    intro own tl i v h tk m₂ E' QQ hi' hP hNs hmx F' N' hC ret
    obtain ⟨oC, hCo, hNsO⟩ := hC
    obtain ⟨n, t, rfl, hn⟩ := IntsAre.at hvs i v hP
    refine Call_ ?_
    refine LCgL.ld_global F' X T (by k_is) ?_
    refine callWith_K X (by k_is) ?_
    refine spliced_more ?_
    refine LCgL.ld_own N' (List.mem_append_left _ hCo) hNsO hmx ?_
    refine spliced_none ?_
    refine ⟨X.keeps F'.keep, ?_⟩
    refine law_make_spec _ B F' X N' T rfl (by k_room) (by k_units) ?_
    rintro r h3 tk3 led3 F3 N3 hs3 ⟨tl', D, x, rfl, htl, hrow, _⟩
    refine ret (.ref D) h3 tk3 tl' F3 (fun p hp => N3 p (hs3 p hp)) (fun p hp => N3 p (htl p hp).1) (fun q hq p hp => (htl p hp).2 q hq) ⟨D, x, tl', rfl, fun p hp => ⟨List.mem_append_right _ (List.mem_append_right _ hp), (htl p hp).2 _ (List.mem_append_right _ (List.mem_append_left _ (hsub _ (List.Mem.head _))))⟩, ?_⟩
    rw [ks_get hn]
    exact hrow
  case zhQ =>
    intro D ys h' tk tl c led F' N' hsub ho hD hz hE
    have hcell := hsub _ (List.Mem.head _)
    obtain ⟨ks, hrows, hk1, hk2⟩ := rows_pack hi hz hE
    refine' storeX_C F' (rows_led N' hcell) ?zc1 (UpdF.head (rows_ne (hD _ hcell))) ?zd1 ?_ ?za1 ?zb1
    case za1 => rfl
    case zb1 => rfl
    case zc1 => rfl
    case zd1 => k_asm
    intro h2 o' F2 N2 d2
    obtain ⟨R, NR, hcm, hDm, hrows⟩ := rows_gen N2 hrows
    clear N2 F' N' hE hz hD ho hsub hcell
    clear F N
    have hcls := cls_of X
    try dsimp only
    k_steps
    refine' For_invVF F2 ?zf1 ?zf2 ?_
    case zf1 => exact rfl
    case zf2 => exact rfl
    k_steps
    refine' loop_list (vs := ys.toList) (fun _ _ => True) (by rfl) ?zl1 (NR _ hDm).2.1 F2 NR trivial ?zt1 ?zd1
    case zl1 => exact ⟨_, (NR _ hDm).1, rfl, _, by rfl⟩
    case zt1 =>
      intro i v m₁ h3 tk3 R1 hv _ _ hsub F3 N3
      obtain ⟨hi1, r, x, k, rfl, hobj, ⟨D1, c1, c2, v1, v2, v3, m1, m2, f1, f2, f3⟩, ok, _⟩ := row_at (hrows.mono hsub) hv
      have hcm1 := hsub _ hcm
      have hDm1 := hsub _ hDm
      clear F2 NR hcm hDm hrows hsub
      k_steps
      exact InvEnd.intro (by assumption) (by assumption) (by intro p9 h9; repeat (first | exact h9 | refine List.mem_cons_of_mem _ ?_)) trivial
    case zd1 =>
      intro m₁ h3 tk3 _ F3 N3
      clear F2 NR
      try dsimp only
      clear h2
      k_steps
      refine' For_invVF F3 ?zf3 ?zf4 ?_
      case zf3 => exact rfl
      case zf4 => exact rfl
      k_steps
      refine' loop_list (vs := ys.toList) (fun _ _ => True) (by rfl) ?zl2 (N3 _ hDm).2.1 F3 N3 trivial ?zt2 ?zd2
      case zl2 => exact ⟨_, (N3 _ hDm).1, rfl, _, by rfl⟩
      case zt2 =>
        intro i v m₂ h4 tk4 R1 hv _ _ hsub F4 N4
        obtain ⟨hi1, r, x, k, rfl, hobj, ⟨D1, c1, c2, v1, v2, v3, m1, m2, f1, f2, f3⟩, ok, _⟩ := row_at (hrows.mono hsub) hv
        have hcm1 := hsub _ hcm
        have hDm1 := hsub _ hDm
        have hrows1 := hrows.mono hsub
        clear F3 N3 hcm hDm hrows hsub
        k_steps
        refine' For_invVF F4 ?zf5 ?zf6 ?_
        case zf5 => exact rfl
        case zf6 => exact rfl
        k_steps
        refine' loop_list (vs := ys.toList) (fun _ mm => mm (Str.ofString "x") = some (.ref r)) (by rfl) ?zl3 (N4 _ hDm1).2.1 F4 N4 ?zj3 ?zt3 ?zd3
        case zl3 => exact ⟨_, (N4 _ hDm1).1, rfl, _, by rfl⟩
        case zj3 => rfl
        case zt3 =>
          intro i' v' m₃ h5 tk5 R2 hv' _ hmx hsub F5 N5
          obtain ⟨hi2, r', x', k', rfl, hobj', ⟨D2, c3, c4, u1, u2, u3, n1, n2, g1, g2, g3⟩, ok', _⟩ := row_at (hrows1.mono hsub) hv'
          have hobj1 := hobj.mono hsub
          have m1' := hsub _ m1
          have m2' := hsub _ m2
          have hcm2 := hsub _ hcm1
          have hDm2 := hsub _ hDm1
          clear F4 N4 hcm1 hDm1 hsub m1 m2 hobj
          have e5 : m₃ = fun y => if y = Str.ofString "x" then some (.ref r) else m₃ y := by
            funext y; split
            · rename_i hy; rw [hy]; exact hmx
            · rfl
          rw [e5] at F5
          clear e5 hmx
          k_steps
          refine' cmp_ofLt ?_
          k_dflt (refine' obj_lt _ ?p1 ?p2 ?p3 ?p4 ?p5 ?pK ?pd ?pu hobj1 hobj' (fun p hp => hp) ok ok' ?_; (case p1 => k_asm); (case p2 => exact F5); (case p3 => k_asm); (case p4 => exact N5); (case p5 => k_asm); (case pK => first | exact rfl | assumption); (case pd => k_room); (case pu => k_units); k_whole)
          intro h6 tk6 F6 N6
          try dsimp only
          try k_fold
          clear F5 N5
          k_steps
          refine' tup_lt_plain ?q1 (isTup_of ?q2 ?q3) (isTup_of ?q4 ?q5) ?q6 ?q7 ?_
          case q1 => k_units
          case q2 => k_asm
          case q3 => (repeat (first | with_reducible assumption | with_reducible exact List.mem_cons_self | with_reducible refine List.mem_cons_of_mem _ ?_))
          case q4 => k_asm
          case q5 => (repeat (first | with_reducible assumption | with_reducible exact List.mem_cons_self | with_reducible refine List.mem_cons_of_mem _ ?_))
          case q6 => assumption
          case q7 => assumption
          try dsimp only
          k_steps
          · exact absurd (by assumption : (plt k k' != plt k k') = true) (by simp)
          · exact InvEnd.intro (by assumption) (by assumption) (by intro p9 h9; repeat (first | exact h9 | refine List.mem_cons_of_mem _ ?_)) rfl
        case zd3 =>
          intro m₃ h5 tk5 _ F5 N5
          try dsimp only
          k_steps
          exact InvEnd.intro F5 N5 (by intro p9 h9; exact h9) trivial
      case zd2 =>
        intro m₂ h4 tk4 _ F4 N4
        clear F3 N3
        have hys : ys.size = ks.length := hrows.1
        try dsimp only
        k_steps
        refine' comp_pairs (ks := ks) (n := ks.length) (by omega) F4 N4 (by rfl) (by with_unfolding_all rfl) (by decide) (by with_unfolding_all rfl) (by decide) (by with_unfolding_all rfl) ?yit ?yelt ?yQ (by intro _; with_unfolding_all rfl)
        case yit =>
          k_steps
          k_dflt (refine' kun_lenL (k := (ks.length : Int)) (News.isList N4 hDm) (by rw [hys]) (by omega) ?_; k_whole)
          k_steps
          refine range_made F4 N4 (n := ks.length) rfl ?_
          intro r h5 tk5 t u v hr F5 N5
          exact ⟨_, _, _, _, _, _, _, rfl, rfl, hr, F5, N5, fun p hp => hp⟩
        case yelt =>
          intro C led hsub
          intro own tl i v h tk m₃ E' QQ hi' hP hNs hmx F' N' hC ret
          obtain ⟨oC, hCo, hNsO⟩ := hC
          obtain ⟨t, rfl⟩ := hP
          have hS : ∀ p ∈ R, p ∈ own ++ (led ++ tl) := fun p hp => List.mem_append_right _ (List.mem_append_left _ (hsub p hp))
          have hget : ys.toList[i]? = some (ys.toList.getD i .none) := by
            have : i < ys.toList.length := by rw [Array.length_toList, hys]; exact hi'
            rw [List.getD, List.getElem?_eq_getElem this]; rfl
          obtain ⟨_, r, x, k, er, hobj, ⟨D1, c1, c2, v1, v2, v3, m1, m2, f1, f2, f3⟩, ok, ek⟩ := row_at (hrows.mono hS) hget
          refine Tuple_ ?_
          refine spliced_more ?_
          refine Call_ ?_
          refine LCgL.ld_global F' X T (by k_is) ?_
          refine callWith_K X (by k_is) ?_
          refine spliced_more ?_
          refine Subscript_ ?_
          refine Subscript_ ?_
          refine lcf_cell N' (by rfl) (hS _ hcm) d2 ?_ (by rfl) (by rfl)
          refine LCgL.ld_own N' (List.mem_append_left _ hCo) hNsO hmx ?_
          refine item_at N' (hS _ hDm) (by omega) (by rw [← Array.getElem?_toList]; exact hget.trans (congrArg some er)) ?_
          refine wpAny_Constant_int ?_
          refine item_1 N' m1 rfl ?_
          refine spliced_none ?_
          refine ⟨X.keeps F'.keep, ?_⟩
          refine plain_spec _ B F' X N' T rfl (by k_room) (by k_units) m2 f1 f2 f3 ok ?_
          intro D3 h3 tk3 u1 u2 u3 F3 N3 hlt3 fl3
          refine spliced_more ?_
          refine LCgL.ld_own N3 (List.mem_cons_of_mem _ (List.mem_append_left _ hCo)) hNsO hmx ?_
          refine spliced_none ?_
          refine kup_newTuple F3 N3 ?_ (by simp [sizeLine_eq])
          intro D6 h6 F6 N6 hlt6
          refine ret (.ref D6) h6 tk3 [(D6, tupObj [.ref D3, .int (i : Int) t] 0), (D3, tupObj [u1, u2, u3] 0)] F6 (fun p hp => N6 p (.tail _ (.tail _ hp))) (fun p hp => N6 p ?_) ?_ ?_
          · rcases List.mem_cons.mp hp with rfl | hp
            · exact .head _
            · rcases List.mem_cons.mp hp with rfl | hp
              · exact .tail _ (.head _)
              · cases hp
          · intro q hq p hp
            rcases List.mem_cons.mp hp with rfl | hp
            · exact hlt6 _ (.tail _ hq)
            · rcases List.mem_cons.mp hp with rfl | hp
              · exact hlt3 _ hq
              · cases hp
          · subst ek
            exact ⟨⟨D6, D3, 0, 0, [u1, u2, u3], t, rfl, List.mem_append_right _ (List.mem_append_right _ (.head _)), List.mem_append_right _ (List.mem_append_right _ (.tail _ (.head _))), fl3⟩⟩
        case yQ =>
          intro D5 vs h5 tk5 c5 R1 F5 N5 hsub hm5 hv5 hp5
          have hcm1 := hsub _ hcm
          have hDm1 := hsub _ hDm
          have hrows1 := hrows.mono hsub
          clear F4 N4 hcm hDm hrows hsub
          try dsimp only
          k_steps
          refine' sort_pairs1 (ks := ks) F5 N5 ?ru hm5 ?r1 ?r64 ?rp ?_
          case ru => k_units
          case r1 => rw [hv5]; exact hk1
          case r64 => rw [hv5]; omega
          case rp => intro i hi; exact hp5 i (by rw [← hv5]; exact hi)
          intro D6 h6 tk6 T1 q1 c6 F6 N6 hS1 hsrt1
          clear F5 N5 
          try dsimp only
          k_steps
          obtain ⟨xf, hxf⟩ := rows_x hrows1
          have hSR : ∀ p ∈ R1, p ∈ (D6, seqObj "list" T1 c6) :: R1 := fun p hp => .tail _ hp
          rename Fr _ _ _ _ => F7
          rename News _ _ _ _ => N7
          refine' comp_objs (ks := ks) (xs := xf) (hSR _ hDm1) (by omega) F7 N7 (by rfl) (by with_unfolding_all rfl) (by decide) (by with_unfolding_all rfl) (by decide) (by with_unfolding_all rfl) ?wit ?welt ?wQ (by intro _; with_unfolding_all rfl)
          case wit =>
            refine' nameX_C N7 (by rfl) (hSR _ hcm1) d2 ?_ (by rfl) (by rfl)
            exact ⟨rfl, rfl⟩
          case welt =>
            intro C
            intro own tl i v h tk m₃ E' QQ hi' hP hNs hmx F' N' hC ret
            obtain ⟨oC, hCo, hNsO⟩ := hC
            have hS : ∀ p ∈ R1, p ∈ own ++ ((D6, seqObj "list" T1 c6) :: R1 ++ tl) := fun p hp => List.mem_append_right _ (List.mem_append_left _ (hSR p hp))
            have hi2 : i < ks.length := by rw [← hys, ← Array.length_toList]; exact hi'
            obtain ⟨r, D1, c1, e1, m1, hobj, ok⟩ := hxf i hi2
            have ev : v = .ref r := by
              rw [Array.getElem?_toList, e1] at hP
              exact (Option.some.inj hP).symm
            subst ev
            refine Subscript_ ?_
            refine LCgL.ld_own N' (List.mem_append_left _ hCo) hNsO hmx ?_
            refine wpAny_Constant_int ?_
            refine item_0 N' (hS _ m1) rfl ?_
            refine ret _ h _ [] F' N' (fun _ h => nomatch h) (fun _ _ _ h => nomatch h) ⟨rfl, hobj.mono fun p hp => List.mem_append_left _ (hSR p hp)⟩
          case wQ =>
            intro D7 us h7 tk7 c7 R2 F8 N8 hsub hm7 hv7 hp7
            have hcm2 := hsub _ (hSR _ hcm1)
            have hDm2 := hsub _ (hSR _ hDm1)
            have hm6 := hsub _ (.head _)
            have hpp : ∀ i, i < ks.length → PairIn R2 (vs.getD i .none) (ks.getD i ⟨0, .none, .none⟩) i := fun i hi => (hp5 i hi).mono fun p hp => hsub _ (hSR _ hp)
            have hxx := hxf.mono fun p hp => hsub _ (hSR _ hp)
            clear F7 N7 hcm1 hDm1 hsub hSR hxf hp5 hrows1
            try dsimp only
            k_steps
            refine' sort_objs1 (ks := ks) _ ?t1 F8 X N8 T ?tk ?td ?tu hm7 ?t2 ?t64 ?tv ?_
            case t1 => k_asm
            case tk => first | exact rfl | assumption
            case td => k_room
            case tu => k_units
            case t2 => rw [hv7, hys]; exact hk1
            case t64 => rw [hv7, hys]; omega
            case tv =>
              intro i hi
              have hi2 : i < ks.length := by rw [← hys, ← hv7]; exact hi
              obtain ⟨_, _, _, _, _, _, ok⟩ := hxx i hi2
              exact ⟨xf i, (hp7 i (by rw [hys]; exact hi2)).1, (hp7 i (by rw [hys]; exact hi2)).2, ok⟩
            intro D8 h8 tk8 T2 q2 c8 F9 N9 hS2 hsrt2
            have e1 : vs.length = ks.length := hv5
            have e2 : us.length = ks.length := by rw [hv7, hys]
            have hpre1 := hS1.pre
            have hpre2 := hS2.pre
            have hT1 : T1.size = ks.length := hS1.size.trans e1
            have hT2 : T2.size = ks.length := hS2.size.trans e2
            have ha1 := hS1.at_
            have ha2 := hS2.at_
            rw [e1] at hpre1 hsrt1 ha1
            rw [e2] at hpre2 hsrt2 ha2
            have hq : q1 = q2 := (srt_unique (weakK ks) (weakP ks) (fun a b _ _ => bf_same ks a b) hpre2 hsrt2 hpre1 hsrt1).symm
            subst hq
            have hus : ∀ i, i < ks.length → us.getD i .none = .ref (xf i) := fun i hi => (hp7 i (by rw [hys]; exact hi)).1
            clear F8 N8 hp7 hpre2 hsrt2 hsrt1 hS1 hS2
            try dsimp only
            k_steps
            rename Fr _ _ _ _ => F10
            rename News _ _ _ _ => N10
            have hm8 : (D8, seqObj "list" T2 c8) ∈ (D8, seqObj "list" T2 c8) :: R2 := .head _
            k_dflt (refine' kun_lenL (k := (ks.length : Int)) (News.isList N10 hm8) (by rw [hT2]) (by omega) ?_; k_whole)
            k_steps
            k_dflt (refine' kun_lenL (k := (ks.length : Int)) (News.isList N10 (List.mem_cons_of_mem _ hDm2)) (by rw [hys]) (by omega) ?_; k_whole)
            k_steps
            refine' For_invVF F10 ?zf7 ?zf8 ?_
            case zf7 => exact rfl
            case zf8 => exact rfl
            k_steps
            k_dflt (refine' kun_lenL (k := (ks.length : Int)) (News.isList N10 (List.mem_cons_of_mem _ hDm2)) (by rw [hys]) (by omega) ?_; k_whole)
            k_steps
            refine range_made F10 N10 (n := ks.length) rfl ?_
            intro r h9 tk9 t u v hr F11 N11
            clear F10 N10
            try dsimp only
            k_steps
            refine' loop_range (fun _ mm => mm (Str.ofString "told") = some (.ref D8) ∧ mm (Str.ofString "plain") = some (.ref D6)) (by rfl) hr (by omega) F11 N11 ⟨by rfl, by rfl⟩ ?zt9 ?zd9
            case zt9 =>
              intro j t m₄ h10 tk10 R3 hj hm4 hsub F12 N12
              obtain ⟨hmt, hmp⟩ := hm4
              have e9 : m₄ = fun y => if y = Str.ofString "told" then some (.ref D8) else if y = Str.ofString "plain" then some (.ref D6) else m₄ y := by
                funext y; split
                · rename_i hy; rw [hy]; exact hmt
                · split
                  · rename_i hy; rw [hy]; exact hmp
                  · rfl
              rw [e9] at F12
              clear e9 hmt hmp
              have hlow : q1.getD j 0 < ks.length := hpre1.low j hj
              obtain ⟨rp, dp, c9, c10, us9, t9, ep, mp1, _, _⟩ := (hpp _ hlow).ex
              obtain ⟨row, D9, c11, er, mr1, _, _⟩ := hxx _ hlow
              have g1 := (ha2 j hj).trans (congrArg some (hus _ hlow))
              have g2 := (ha1 j hj).trans (congrArg some ep)
              have mp2 := hsub _ (List.mem_cons_of_mem _ mp1)
              have mr2 := hsub _ (List.mem_cons_of_mem _ mr1)
              have hm9 := hsub _ hm8
              have hm10 := hsub _ (List.mem_cons_of_mem _ hm6)
              have hcm3 := hsub _ (List.mem_cons_of_mem _ hcm2)
              have hDm3 := hsub _ (List.mem_cons_of_mem _ hDm2)
              generalize q1.getD j 0 = qj at g1 g2 er mp2 mr2 hlow
              clear F11 N11 hsub mp1 mr1 hm8 hm6 hcm2 hDm2 hpp hxx ha1 ha2 hus ep
              k_steps
              refine item_at N12 hm9 (by omega) g1 ?_
              k_steps
              refine item_at N12 hm10 (by omega) g2 ?_
              k_steps
              refine item_at N12 hDm3 (by omega) er ?_
              k_steps
              exact InvEnd.intro (by assumption) (by assumption) (by intro p9 h9; repeat (first | exact h9 | refine List.mem_cons_of_mem _ ?_)) ⟨by rfl, by rfl⟩
            case zd9 =>
              intro m₄ h10 tk10 _ F12 N12
              clear F11 N11
              try dsimp only
              k_steps)
end Mine
end

set_option maxRecDepth 100000 in
theorem PySem.Challenge.cw_fb5003_01_holds : PySem.Challenge.rw_fb5003_01.Holds := by
  exact Mine.try1
