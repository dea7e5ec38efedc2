import PyProof.Rows.All
import Wide.All
import OpenK.AllK
import Wide.FinOn
import PySem.Challenge.RW_op0202_02
set_option Elab.async false
section
open PySem PySem.W PyProof.Rows
namespace Mine
/-! The lexer's machine, in plain Lean. -/
inductive Mode where
  | w | a | q1 | q2 | e0 | e2
  deriving DecidableEq
noncomputable def Mode.st : Mode → Str
  | .w => " " | .a => "a" | .q1 => "'" | .q2 => "\"" | .e0 => "\\" | .e2 => "\\"
noncomputable def stepM : Mode → Nat → Mode × List Nat
  | .w, c => if c = 39 then (.q1, []) else if c = 34 then (.q2, []) else if c = 92 then (.e0, []) else (.a, [c])
  | .a, c => if c = 39 then (.q1, []) else if c = 34 then (.q2, []) else if c = 92 then (.e0, []) else (.a, [c])
  | .q1, c => if c = 39 then (.a, []) else (.q1, [c])
  | .q2, c => if c = 34 then (.a, []) else if c = 92 then (.e2, []) else (.q2, [c])
  | .e0, c => (.a, [c])
  | .e2, c => if c = 92 ∨ c = 34 then (.q2, [c]) else (.q2, [92, c])
noncomputable def runM : Mode → List Nat → List Nat × Mode
  | m, [] => ([], m)
  | m, c :: r => ((stepM m c).2 ++ (runM (stepM m c).1 r).1, (runM (stepM m c).1 r).2)

theorem str_mk_append (x y : List Nat) : (⟨x.toArray⟩ : Str) ++ (⟨y.toArray⟩ : Str) = ⟨(x ++ y).toArray⟩ := by
  show Str.append _ _ = _
  unfold Str.append
  simp
theorem slice_one (pre : List Nat) (c : Nat) (post : List Nat) :
    Txt.slice ⟨(pre ++ c :: post).toArray⟩ (some (pre.length : Int)) (some ((pre.length : Int) + 1)) = ⟨#[c]⟩ := by
  have hl : (⟨(pre ++ c :: post).toArray⟩ : Str).length = pre.length + 1 + post.length := by
    show (pre ++ c :: post).toArray.size = _
    simp; omega
  have hi : Builtin.Str.strSliceIndices (some (pre.length : Int)) (some ((pre.length : Int) + 1)) 1 (pre.length + 1 + post.length) = [pre.length] := by
    unfold Builtin.Str.strSliceIndices sliceRange
    simp only [show (1 : Int) > 0 by decide, if_true]
    rw [if_neg (show ¬ ((pre.length : Int) < 0) by omega), if_neg (show ¬ ((pre.length : Int) + 1 < 0) by omega)]
    have e1 : max (0 : Int) (min (pre.length : Int) ((pre.length + 1 + post.length : Nat) : Int)) = (pre.length : Int) := by omega
    have e2 : max (0 : Int) (min ((pre.length : Int) + 1) ((pre.length + 1 + post.length : Nat) : Int)) = (pre.length : Int) + 1 := by omega
    rw [e1, e2, if_pos (by omega)]
    have e3 : (((pre.length : Int) + 1 - (pre.length : Int) + 1 - 1) / 1).toNat = 1 := by
      have : ((pre.length : Int) + 1 - (pre.length : Int) + 1 - 1) = 1 := by omega
      rw [this]; rfl
    rw [e3]
    simp
  unfold Txt.slice
  rw [hl, hi]
  split
  · rename_i h
    simp only [beq_self_eq_true, Bool.true_and, List.length_singleton, beq_iff_eq] at h
    have h1 : pre = [] := List.eq_nil_of_length_eq_zero (by omega)
    have h2 : post = [] := List.eq_nil_of_length_eq_zero (by omega)
    subst h1 h2
    rfl
  · simp
section
variable {prog : Program} {w : World} {A : Around} {E : Value → Shared → Prop} {s : Shared} {x y : Str} {t u : Tok} {Q : Value → Shared → Prop} {b : Bool} {c : Nat}
theorem in_by (b : Bool) (hv : (!(Builtin.Str.occurrences x y 0 x.length 1).isEmpty) = b) (h : Q (.bool b) s) : wpAny (model prog w) A (compareOp .In (.str y u) (.str x t)) Q E s := PyProof.Rows.in_str (by rw [hv]; exact h)
theorem notIn_by (b : Bool) (hv : (!(!(Builtin.Str.occurrences x y 0 x.length 1).isEmpty)) = b) (h : Q (.bool b) s) : wpAny (model prog w) A (compareOp .NotIn (.str y u) (.str x t)) Q E s := PyProof.Rows.notIn_str (by rw [hv]; exact h)
theorem in_one (b : Bool) (hv : decide (c ∈ x.cps.toList) = b) (h : Q (.bool b) s) : wpAny (model prog w) A (compareOp .In (.str ⟨#[c]⟩ u) (.str x t)) Q E s := PyProof.Rows.in_str (by rw [StrLaws.found_one, hv]; exact h)
theorem notIn_one (b : Bool) (hv : decide (c ∈ x.cps.toList) = b) (h : Q (.bool (!b)) s) : wpAny (model prog w) A (compareOp .NotIn (.str ⟨#[c]⟩ u) (.str x t)) Q E s := PyProof.Rows.notIn_str (by rw [StrLaws.found_one, hv]; exact h)
theorem eq_by (b : Bool) (hv : (x == y) = b) (h : Q (.bool b) s) : wpAny (model prog w) A (compareOp .Eq (.str x t) (.str y u)) Q E s := PyProof.Rows.eq_str (by rw [hv]; exact h)
theorem ne_by (b : Bool) (hv : (x == y) = b) (h : Q (.bool (!b)) s) : wpAny (model prog w) A (compareOp .NotEq (.str x t) (.str y u)) Q E s := PyProof.Rows.ne_str (by
  have e : (x != y) = !b := by rw [← hv]; rfl
  rw [e]; exact h)
theorem iadd_by (hx : x.length ≤ 5000) (hy : y.length ≤ 5000) (h : ∀ t' tk, Q (.str (x ++ y) t') { s with toks := tk }) : wpAny (model prog w) A (inplaceOp .Add (.str x t) (.str y u)) Q E s := PyProof.Rows.iadd_str h (by rw [sizeLine]; omega)
theorem truthy_one {Q : Bool → Shared → Prop} (h : Q true { s with toks := s.toks + 1 + 1 }) : wpAny (model prog w) A (truthy (.str ⟨#[c]⟩ t)) Q E s := P.truthy_str (by show ¬ ((1 : Nat) : Int) ≥ _; omega) h
end
theorem one_len (c : Nat) : (⟨#[c]⟩ : Str).length ≤ 5000 := by show 1 ≤ 5000; omega

/-! The loop of read_token, in plain Lean: one step. -/
structure LxS where
  md : Mode
  x : Str
  post : List Nat
  pos : Int
  qd : Bool
  es : Str
  (t1 t2 t3 t4 : Tok)
noncomputable def lxPs (c : LxS) : List (Str × Value) := [("quoted", .bool c.qd), ("escapedstate", .str c.es c.t4)]
noncomputable def lxP (text out : List Nat) (c : LxS) : Prop :=
  (∃ pre, text = pre ++ c.post ∧ c.pos = (pre.length : Int)) ∧ c.x ++ (⟨(runM c.md c.post).1.toArray⟩ : Str) = ⟨out.toArray⟩ ∧ (runM c.md c.post).2 = .a ∧
  (c.md = .w → c.x = "" ∧ c.post ≠ []) ∧ (c.md = .e0 → c.es = "a") ∧ (c.md = .e2 → c.es = "\"")
theorem lx_next {text out pre post : List Nat} {c : Nat} {x nx : Str} {pos : Int} {md nmd : Mode} (app : List Nat) {qd : Bool} {es : Str} {a1 a2 a3 a4 : Tok}
    (htext : text = pre ++ c :: post) (hpos : pos = (pre.length : Int)) (hx : x ++ (⟨(runM md (c :: post)).1.toArray⟩ : Str) = ⟨out.toArray⟩) (hm : (runM md (c :: post)).2 = .a)
    (hs : stepM md c = (nmd, app)) (hn : nx = x ++ (⟨app.toArray⟩ : Str)) (h1 : nmd ≠ .w) (h2 : nmd = .e0 → es = "a") (h3 : nmd = .e2 → es = "\"") :
    lxP text out ⟨nmd, nx, post, pos + 1, qd, es, a1, a2, a3, a4⟩ := by
  refine ⟨⟨pre ++ [c], by simp [htext], by simp [hpos]⟩, ?_, ?_, fun h => absurd h h1, h2, h3⟩
  · show nx ++ (⟨(runM nmd post).1.toArray⟩ : Str) = _
    rw [← hx]
    simp only [runM, hs]
    rw [hn, Str.append_assoc, str_mk_append app]
  · show (runM nmd post).2 = .a
    simp only [runM, hs] at hm
    exact hm
theorem lx_xlen {x : Str} {l out : List Nat} (hx : x ++ (⟨l.toArray⟩ : Str) = ⟨out.toArray⟩) (ho : out.length < 2000) : x.length ≤ 4000 := by
  have := congrArg Str.length hx
  rw [Str.length_append] at this
  have e : (⟨out.toArray⟩ : Str).length = out.length := by show out.toArray.size = _; simp
  omega
noncomputable def isLet (c : Nat) : Bool := (65 ≤ c && c ≤ 90) || (97 ≤ c && c ≤ 122) || (48 ≤ c && c ≤ 57)
noncomputable def WcOk (wc : Str) : Prop := (∀ c, isLet c = true → decide (c ∈ wc.cps.toList) = true) ∧ decide (39 ∈ wc.cps.toList) = false ∧ decide (34 ∈ wc.cps.toList) = false ∧ decide (92 ∈ wc.cps.toList) = false
noncomputable def okC (c : Nat) : Prop := isLet c = true ∨ c = 39 ∨ c = 34 ∨ c = 92
theorem str_one_ne {c d : Nat} {y : Str} (hy : y = ⟨#[d]⟩) (h : c ≠ d) : ((⟨#[c]⟩ : Str) == y) = false := by
  subst hy
  rw [beq_eq_false_iff_ne]
  intro e
  injection e with e
  simp at e
  exact h e
theorem not_mem_of {c : Nat} {y : Str} {l : List Nat} (hy : y.cps.toList = l) (h : ∀ d ∈ l, c ≠ d) : decide (c ∈ y.cps.toList) = false := by
  rw [hy, decide_eq_false_iff_not]
  exact fun m => h c m rfl
theorem esc_free {c : Nat} (h : c ≠ 92) : decide (c ∈ (Str.ofString "\\").cps.toList) = false := not_mem_of (l := [92]) (by decide +kernel) (by simpa using h)
theorem nl_free {c : Nat} (h : okC c) : ((⟨#[c]⟩ : Str) == Str.ofString "\n") = false := str_one_ne (d := 10) (by decide +kernel) (by
  rcases h with h | h | h | h
  · intro e; subst e; revert h; decide
  all_goals omega)
theorem lx_let {c : Nat} {wc : Str} (hc : okC c) (h39 : ¬ c = 39) (h34 : ¬ c = 34) (h92 : ¬ c = 92) (hwc : WcOk wc) :
    decide (c ∈ (Str.ofString " \t\r\n").cps.toList) = false ∧ decide (c ∈ (Str.ofString "").cps.toList) = false ∧ decide (c ∈ (Str.ofString "\\").cps.toList) = false ∧ decide (c ∈ (Str.ofString "'\"").cps.toList) = false ∧ decide (c ∈ wc.cps.toList) = true := by
  have hl : isLet c = true := by rcases hc with h | h | h | h <;> first | exact h | contradiction
  have hb : (65 ≤ c ∧ c ≤ 90) ∨ (97 ≤ c ∧ c ≤ 122) ∨ (48 ≤ c ∧ c ≤ 57) := by
    have := hl
    simp only [isLet, Bool.or_eq_true, Bool.and_eq_true, decide_eq_true_eq] at this
    omega
  refine ⟨not_mem_of (l := [32, 9, 13, 10]) (by decide +kernel) ?_, not_mem_of (l := []) (by decide +kernel) ?_, esc_free h92, not_mem_of (l := [39, 34]) (by decide +kernel) ?_, hwc.1 c hl⟩
  all_goals simp
  · omega
  · exact ⟨h39, h34⟩
theorem app_nil (x : Str) : x = x ++ (⟨([] : List Nat).toArray⟩ : Str) := (Str.append_empty x).symm
theorem empty_one (c : Nat) : (⟨#[c]⟩ : Str) = Str.ofString "" ++ (⟨[c].toArray⟩ : Str) := (Str.empty_append _).symm
theorem app_bs (x : Str) : x ++ Str.ofString "\\" = x ++ (⟨[92].toArray⟩ : Str) := rfl
theorem app_dq (x : Str) : x ++ Str.ofString "\"" = x ++ (⟨[34].toArray⟩ : Str) := rfl
theorem app_two (x : Str) (c : Nat) : (x ++ Str.ofString "\\") ++ (⟨#[c]⟩ : Str) = x ++ (⟨[92, c].toArray⟩ : Str) := by
  rw [Str.append_assoc]; rfl
theorem lx_g1 {c : Nat} (h39 : ¬ c = 39) (h92 : ¬ c = 92) : ((⟨#[c]⟩ : Str) == Mode.q1.st) = false ∧ decide (c ∈ (Str.ofString "\\").cps.toList) = false := ⟨str_one_ne (d := 39) (by decide +kernel) h39, esc_free h92⟩
theorem lx_g2 {c : Nat} (h34 : ¬ c = 34) (h92 : ¬ c = 92) : ((⟨#[c]⟩ : Str) == Mode.q2.st) = false ∧ decide (c ∈ (Str.ofString "\\").cps.toList) = false := ⟨str_one_ne (d := 34) (by decide +kernel) h34, esc_free h92⟩
theorem lx_g3 {c : Nat} (h34 : ¬ c = 34) (h92 : ¬ c = 92) : ((⟨#[c]⟩ : Str) == Mode.e2.st) = false ∧ ((⟨#[c]⟩ : Str) == Str.ofString "\"") = false := ⟨str_one_ne (d := 92) (by decide +kernel) h92, str_one_ne (d := 34) (by decide +kernel) h34⟩
theorem two_len {x : Str} (h : x.length ≤ 4000) : (x ++ Str.ofString "\\").length ≤ 5000 := by
  rw [Str.length_append, show (Str.ofString "\\").length = 1 from by decide +kernel]; omega
theorem out_ne {out : List Nat} (h : out ≠ []) : ((⟨out.toArray⟩ : Str) == Str.ofString "") = false := by
  rw [beq_eq_false_iff_ne]
  intro e
  apply h
  have h2 := congrArg (fun s : Str => s.cps.toList) e
  rw [show (Str.ofString "").cps.toList = [] from by decide +kernel] at h2
  simpa using h2
end Mine
end
section
open PySem PySem.W PyProof.Rows
set_option Elab.async false
set_option maxRecDepth 100000
set_option maxHeartbeats 0
namespace Mine
/-! deque(): made, and its truth -/
theorem slot_dq_len : Slot "collections.deque" "__len__" "collections.deque.__len__" :=
  .of (owner := "collections.deque") (n := "__len__") (by rw [typeLookup_type, builtinLookup_eq_fast]; kernel_rfl) (by decide +kernel) (by decide +kernel) (by decide +kernel)
    (by first | exact .inl (by decide +kernel) | exact .inr (by decide +kernel)) (by rw [isSubtype_type]; kernel_rfl)
theorem slot_dq_init : Slot "collections.deque" "__init__" "collections.deque.__init__" :=
  .of (owner := "collections.deque") (n := "__init__") (by rw [typeLookup_type, builtinLookup_eq_fast]; kernel_rfl) (by decide +kernel) (by decide +kernel) (by decide +kernel)
    (by first | exact .inl (by decide +kernel) | exact .inr (by decide +kernel)) (by rw [isSubtype_type]; kernel_rfl)
theorem entry_dq_len : entryFor table "collections.deque.__len__" = some Builtin.«collections.deque.__len__» := entryFor_of_fast (by kernel_rfl)
theorem entry_dq_init : entryFor table "collections.deque.__init__" = some Builtin.«collections.deque.__init__» := entryFor_of_tree (by kernel_rfl)
theorem entry_dq_new : entryFor table "collections.deque.__new__" = some Builtin.«collections.deque.__new__» := entryFor_of_tree (by kernel_rfl)
theorem args_dq_len (a : Value) : argsOk "collections.deque.__len__" ⟨[a], []⟩ := by unfold argsOk; kernel_rfl
theorem args_dq_init (a : Value) : argsOk "collections.deque.__init__" ⟨[a], []⟩ := by unfold argsOk; kernel_rfl
theorem mro_dq : mroOf (.type "collections.deque") = pure [.type "collections.deque", .type "object"] := by rw [mroOf_type]; kernel_rfl
theorem lookup_dq_new : typeLookup (.type "collections.deque") "__new__" = pure (some (.builtin "collections.deque.__new__")) := by rw [typeLookup_type, builtinLookup_eq_fast]; kernel_rfl
theorem called_dq : TypeCalled "collections.deque" "collections.deque.__new__" "collections.deque.__init__" :=
  ⟨by decide +kernel, by decide +kernel, ⟨_, _, mro_dq⟩, madeBy_type mro_dq lookup_dq_new (by decide +kernel), by decide +kernel, by rw [isSubtype_type]; kernel_rfl, slot_dq_init⟩
theorem typeCall_dq : checkTypeCall "collections.deque" ⟨[], []⟩ = pure () := by kernel_rfl
theorem newCall_dq : checkBuiltinCall "collections.deque.__new__" ⟨[.type "collections.deque"], []⟩ = pure () := by kernel_rfl
theorem noBool_dq : typeLookup (.type "collections.deque") "__bool__" = pure none := by rw [typeLookup_type, builtinLookup_eq_fast]; kernel_rfl
noncomputable abbrev dqObj : Obj := { cls := .type "collections.deque", dict := none, data := .fields #[.none, rawInt 0] }
section
variable {prog : Program} {w : World} {A : Around} {E : Value → Shared → Prop} {s : Shared}
theorem dq_len_body {a : Addr} {Q : Value → Shared → Prop} (ho : s.heap.get? a = some dqObj)
    (h : Q (.int 0 (s.toks + 1)) { s with toks := s.toks + 1 + 1 }) : wpAny (model prog w) A (Builtin.«len» ⟨[.ref a], []⟩) (fun fin s' => ∃ r, fin = .done (.ret r) ∧ Q r s') E s := by
  have hT : s.TypeIs (.ref a) "collections.deque" := ⟨_, ho, rfl⟩
  unfold Builtin.«len»
  refine wpAny_bind (m := oneArg "len" _) (wpAny_pure ?_)
  refine wpAny_bind (m := callSpecial? (.ref a) (Str.ofString "__len__")) (wpAny_callSpecial?_slot (name := Str.ofString "__len__") hT slot_dq_len
    (wpAny_call_entry slot_dq_len hT entry_dq_len ?_ (args_dq_len _)))
  · show wpAny _ _ (do retInt (← Builtin.Deque.size (← slotArgs "__len__" 0 ⟨[.ref a], []⟩).1)) _ _ s
    refine wpAny_bind (m := slotArgs "__len__" 0 ⟨[.ref a], []⟩) (wpAny_pure ?_)
    unfold Builtin.Deque.size fieldsOf
    refine wpAny_bind (wpAny_bind (wpAny_bind (wpAny_load ho ?_)))
    refine wpAny_pure (wpAny_pure (wpAny_bind (wpAny_mkInt (wpAny_pure ⟨_, rfl, ?_⟩))))
    refine wpAny_bind (wpAny_holding (wpAny_pure ?_))
    refine wpAny_bind (wpAny_letGo ?_)
    exact wpAny_bind (wpAny_mkInt (wpAny_pure ⟨_, rfl, h⟩))
theorem truthy_dq {a : Addr} {Q : Bool → Shared → Prop} (ho : s.heap.get? a = some dqObj) (h : Q false { s with toks := s.toks + 1 + 1 }) : wpAny (model prog w) A (truthy (.ref a)) Q E s := by
  have hT : s.TypeIs (.ref a) "collections.deque" := ⟨_, ho, rfl⟩
  have key : wpAny (model prog w) A (runValue (.builtin "len" ⟨[.ref a], []⟩)) (fun r s' => r = .int 0 (s.toks + 1) ∧ Q false s') E s := by
    refine wpAny_runValue (codeAny_builtin entry_len ?_)
    rw [Around.under_plainId plain_len _]
    exact wpAny_mono (dq_len_body (Q := fun r s' => r = .int 0 (s.toks + 1) ∧ Q false s') ho ⟨rfl, h⟩)
      (fun fin s' h' => by obtain ⟨r, rfl, hq⟩ := h'; exact hq) fun _ _ e => e
  unfold truthy
  first
    | refine wpAny_bind (wpAny_callSpecial?_none (name := Str.ofString "__bool__") hT noBool_dq ?_)
    | refine wpAny_bind (wpAny_pure (wpAny_bind (wpAny_callSpecial?_none (name := Str.ofString "__bool__") hT noBool_dq ?_)))
  first
    | refine wpAny_bind (wpAny_specialOf (name := Str.ofString "__len__") hT slot_dq_len.lookup ?_)
    | refine wpAny_bind (wpAny_pure (wpAny_bind (wpAny_specialOf (name := Str.ofString "__len__") hT slot_dq_len.lookup ?_)))
  first
    | exact wpAny_bind (wpAny_mono key (fun r s' h' => by obtain ⟨rfl, hq⟩ := h'; exact wpAny_pure hq) fun _ _ e => e)
    | exact wpAny_bind (wpAny_pure (wpAny_bind (wpAny_mono key (fun r s' h' => by obtain ⟨rfl, hq⟩ := h'; exact wpAny_pure hq) fun _ _ e => e)))
noncomputable def specOf (t : Sem Fin) : PySem.Spec := fun A R s => ∀ (prog : Program) (w : World), wpAny (model prog w) A.in1 t (fun fin s' => match fin with | .done f => R (.ok f) s' | .again c' => c'.quiet = true ∧ codeAny (model prog w) A c' R s') (fun e s' => R (.error e) s') s
theorem meets_specOf (t : Sem Fin) : Meets t (specOf t) := fun prog w _ _ _ h => h prog w
theorem dq_new_body {A : Around} {R : Result → Shared → Prop} (h : R (.ok (.ret (.ref s.heap.objs.size))) { s with heap := s.heap.push dqObj }) : specOf (Builtin.«collections.deque.__new__» ⟨[.type "collections.deque"], []⟩) A R s := by
  intro prog w
  unfold Builtin.«collections.deque.__new__» Builtin.Deque.newArgs
  have hsub : isSubtype (.type "collections.deque") (.type Builtin.Deque.ty) = pure true := by rw [isSubtype_type]; kernel_rfl
  have hnd : typeHasDict (.type "collections.deque") = false := by kernel_rfl
  obtain ⟨hp, g, d, tk, os⟩ := s
  dsimp only
  wp_walk
  exact h
theorem call_dq {Q : Value → Shared → Prop} (h : ∀ h', Heap.SameBut s.heap.objs.size (s.heap.push dqObj) h' → h'.get? s.heap.objs.size = some dqObj → Q (.ref s.heap.objs.size) { s with heap := h' }) : wpAny (model prog w) A (call (.type "collections.deque") []) Q E s := by
  refine callType_meets (Q₁ := fun obj s₁ => obj = .ref s.heap.objs.size ∧ s₁ = { s with heap := s.heap.push dqObj }) called_dq typeCall_dq newCall_dq entry_dq_new entry_dq_init (meets_specOf _) (dq_new_body ⟨rfl, rfl⟩) ?_
  rintro obj s₁ ⟨rfl, rfl⟩
  refine ⟨⟨_, Heap.get?_push_size _ rfl, rfl⟩, args_dq_init _, _, meets_specOf _, ?_⟩
  intro prog w
  show wpAny _ _ (do setField (.ref s.heap.objs.size) 0 .none; Builtin.Deque.clear (.ref s.heap.objs.size); ret .none) _ _ _
  have ho : ({ s with heap := s.heap.push dqObj } : Shared).heap.get? s.heap.objs.size = some dqObj := Heap.get?_push_size _ rfl
  unfold setField
  wp_walk
  exact ⟨rfl, h _ (Heap.SameBut.update ..) (Heap.get?_update_self _ ho rfl)⟩
theorem call_dqK {h₀ : Heap} {L : Addr} {m : Str → Option Value} {news : List (Addr × Obj)} {Q : Value → Shared → Prop} (F : Fr h₀ L s.heap m) (N : News h₀ L s.heap news)
    (h : ∀ a h', Fr h₀ L h' m → News h₀ L h' ((a, dqObj) :: news) → (∀ p ∈ news, p.1 < a) → Q (.ref a) { s with heap := h' }) : wpAny (model prog w) A (call (.type "collections.deque") []) Q E s := by
  refine call_dq fun h' hs ho => ?_
  have F1 := F.push dqObj
  have N1 := N.push F dqObj
  have hne : L ≠ s.heap.objs.size := Nat.ne_of_lt F.ns.lt
  refine h _ h' ?_ ?_ fun p hp => Heap.lt_size (N p hp).1
  · obtain ⟨oL, es, ep, hL, r⟩ := F1.ns
    refine ⟨⟨oL, es, ep, (hs.2 L hne).trans hL, r⟩, fun b o e => ?_, F1.above⟩
    have lt : b < s.heap.objs.size := Heap.lt_size (F.keep b o e)
    exact (hs.2 b (Nat.ne_of_lt lt)).trans (F1.keep b o e)
  · intro p hp
    rcases List.mem_cons.mp hp with rfl | hp
    · exact ⟨ho, (N1 _ (.head _)).2⟩
    · have lt : p.1 < s.heap.objs.size := Heap.lt_size (N p hp).1
      exact ⟨(hs.2 p.1 (Nat.ne_of_lt lt)).trans (N1 p (.tail _ hp)).1, (N p hp).2⟩
theorem truthy_dqK {h₀ : Heap} {L a : Addr} {news : List (Addr × Obj)} {Q : Bool → Shared → Prop} (N : News h₀ L s.heap news) (hm : (a, dqObj) ∈ news) (h : Q false { s with toks := s.toks + 1 + 1 }) : wpAny (model prog w) A (truthy (.ref a)) Q E s := truthy_dq (N _ hm).1 h
end
end Mine
end
section
open PySem PySem.W PySem.Calls PyProof.Rows
set_option Elab.async false
set_option maxRecDepth 100000
set_option maxHeartbeats 0
namespace Mine
/-! an own class with a __new__ of its own (a static method): made -/
noncomputable def ownMakes (K : Frag) (C : Addr) : Bool := match K.lookup C with
  | some ⟨_, _, .cls cd, sl⟩ => !cd.mro.isEmpty && (sl.toList[4]?).join == some Value.none && cd.mro.contains (.ref C) &&
      specialIn K (.ref C) "__call__" == some (some (.builtin "type.__call__")) && instIn K (.ref C) (.type "type") == some true
  | _ => false
noncomputable def NewBack (prog : Program) (w : World) (A : Around) (K : Frag) (C fI : Addr) (rest : List Value) (kw : List (Str × Value)) (R : Result → Shared → Prop) (r : Result) (s₁ : Shared) : Prop := match r with
  | .ok (.ret v) => ∃ x dx, v = .ref x ∧ s₁.heap.get? x = some (instObj C dx) ∧ K.In s₁.heap ∧ codeAny (model prog w) (A.under (.builtin "type.__call__" ⟨.ref C :: rest, kw⟩)) (.call (.ref fI) ⟨.ref x :: rest, kw⟩) (InitBack x R) s₁
  | .ok _ => False
  | .error e => R (.error e) s₁
section
variable {prog : Program} {w : World} {A : Around} {K : Frag} {C : Addr} {R : Result → Shared → Prop} {h : Heap} {g : Array GenState} {d : Drawn} {t : Nat} {os : OsState}
theorem make_own {fN pN fI : Addr} {rest : List Value} {kw : List (Str × Value)} {vs : List Value} (X : K.In h) (hm : ownMakes K C = true)
    (hr : readsIn K C (.type "type") = true) (e : findCls K (.ref C) (.type "type") "__new__" = some (.get (.builtin "staticmethod.__get__") (.ref pN) .none (.ref C))) (hp : recIn K pN "staticmethod" = some (.ref fN :: vs))
    (hi : findIn K (.ref C) "__init__" = some (some (.ref fI))) (hf : typeIn K (.ref fI) = some (.type "function"))
    (hq : codeAny (model prog w) (A.under (.builtin "type.__call__" ⟨.ref C :: rest, kw⟩)) (.call (.ref fN) ⟨.ref C :: rest, kw⟩) (NewBack prog w A K C fI rest kw R) ⟨h, g, d, t + 1, os⟩) :
    codeAny (model prog w) A (.call (.ref C) ⟨rest, kw⟩) R ⟨h, g, d, t, os⟩ := by
  unfold ownMakes at hm
  split at hm
  · rename_i oc od cd sl ho
    simp only [Bool.and_eq_true, Bool.not_eq_true', beq_iff_eq] at hm
    obtain ⟨⟨⟨⟨e4, e3⟩, e5⟩, e7⟩, e8⟩ := hm
    have hC := X _ _ ho
    have hc : clsIn K C = some cd := by unfold clsIn; rw [ho]
    have call : Looks (model prog w) h (specialOf (.ref C) "__call__") (some (.builtin "type.__call__")) := looks_specialIn X e7
    have typ : Looks (model prog w) h (isInstance (.ref C) (.type "type")) true := looks_instIn X e8
    have hmr : Looks (model prog w) h (mroOf (.ref C)) cd.mro := (looks_clsIn X hc).andThen .now
    obtain ⟨c, l, hl⟩ : ∃ c l, cd.mro = c :: l := by cases q : cd.mro with | nil => rw [q] at e4; cases e4 | cons c l => exact ⟨c, l, rfl⟩
    have made : Looks (model prog w) h (Bind.madeBy (.ref C)) none := by
      intro A Q E s k q
      unfold Bind.madeBy
      refine wpAny_bind (hmr A _ E s k ?_)
      rw [hl, List.forIn_cons]
      refine wpAny_bind (wpAny_bind (wpAny_bind (wpAny_bind (wpAny_loadPart (k _ _ hC) (wpAny_pure ?_)))))
      dsimp only
      rw [← Array.getElem?_toList, e3]
      exact wpAny_pure (wpAny_pure (wpAny_pure q))
    refine codeAny_of_tree ?_
    show wpAny _ _ (callAny (.ref C) _) _ _ _
    refine nd_load hC ?_
    show wpAny _ _ (callAny.viaDunder (.ref C) _) _ _ _
    unfold callAny.viaDunder
    refine wpAny_bind (call.at ?_)
    dsimp only
    rw [tc_bind]
    refine wpAny_bind (wpAny_pure (wpAny_bind (wpAny_pure ?_)))
    refine wpAny_pure (a := Fin.again (.call (.builtin "type.__call__") ⟨.ref C :: rest, kw⟩)) (And.intro rfl ?_)
    refine codeAny_call_builtin_at (Code.quiet_builtin _ (by decide +kernel)) entry_typeCall (check_slot tc_kind tc_split typ (tc_args _ _ _) ?_)
    unfold Builtin.«type.__call__»
    repeat (first | simp only [e4, Bool.false_eq_true, if_false] | ((fail_if_success (with_reducible show wpAny _ _ (getAttr _ _ _) _ _ _)); lk))
    refine cls_bind (mc := .type "type") X hr e (wpAny_call (sm_get (s := ⟨h, g, d, t + 1, os⟩) X hp (handed_on rfl ?_)))
    repeat (first | with_reducible refine wpAny_call ?_ | ((fail_if_success (with_reducible show codeAny _ _ _ _ _)); lk))
    refine codeAny_mono hq fun r s' z => ?_
    rcases r with e | (v | _ | _ | _) <;> first | exact z | exact z.elim | skip
    obtain ⟨x, dx, rfl, hx, X', hq'⟩ := z
    obtain ⟨h', g', d', t', os'⟩ := s'
    dsimp only at hx X' ⊢
    have t1 : Looks (model prog w) h' (typeOf (.ref x)) (.ref C) := (Looks.ld hx).andThen .now
    have s1 : Looks (model prog w) h' (isSubtype (.ref C) (.ref C)) true := looks_mroIn X' (by unfold mroIn; rw [hc, Option.bind_some, if_neg (by rw [e4]; decide), e5])
    have i1 : Looks (model prog w) h' (typeLookup (.ref C) "__init__") (some (.ref fI)) := looks_findIn X' hi
    have b1 : Looks (model prog w) h' (bindSpecial (.ref fI) (.ref x)) (.ref fI, [.ref x]) := bind_fn X' _ hf
    unfold isInstance callSpecial? specialOf
    repeat (first | with_reducible refine wpAny_call ?_ | ((fail_if_success (with_reducible show codeAny _ _ _ _ _)); lk))
    refine codeAny_mono hq' fun r s' z => ?_
    rcases r with e | (v | _ | _ | _) <;> first | exact z | exact z.elim | skip
    obtain ⟨rfl, z⟩ := z
    exact wpAny_pure (wpAny_pure z)
  · cases hm
end
section
variable {prog : Program} {w : World} {A : Around} {K : Frag} {C : Addr} {R : Result → Shared → Prop} {h : Heap} {g : Array GenState} {d : Drawn} {t : Nat} {os : OsState}
noncomputable def newOk (K : Frag) (C : Addr) : Bool := match K.lookup C with
  | some ⟨_, _, .cls cd, _⟩ => !cd.abstract && !cd.hasDel
  | _ => false
theorem new_own (X : K.In h) (hm : newOk K C = true) (hc : ∀ S, peek K S (checkBuiltinCall "object.__new__" ⟨[.ref C], []⟩) = some ()) (ht : ∀ S, peek K S (isType (.ref C)) = some true) (hh : ∀ S, peek K S (Bind.madeHere "object.__new__" (.ref C)) = some ())
    (hq : R (.ok (.ret (.ref (h.objs.size + 1)))) ⟨(h.push emptyDict).push (instObj C h.objs.size), g, d, t, os⟩) :
    codeAny (model prog w) A (.call (.builtin "object.__new__") ⟨[.ref C], []⟩) R ⟨h, g, d, t, os⟩ := by
  unfold newOk at hm
  split at hm
  · rename_i oc od cd sl ho
    simp only [Bool.and_eq_true, Bool.not_eq_true'] at hm
    obtain ⟨e1, e2⟩ := hm
    have hC := X _ _ ho
    have F := PySem.F.objNew
    have chk : Looks (model prog w) h (checkBuiltinCall "object.__new__" ⟨[.ref C], []⟩) () := Looks.of_peek X (hc _)
    have typ : Looks (model prog w) h (isType (.ref C)) true := Looks.of_peek X (ht _)
    have here : Looks (model prog w) h (Bind.madeHere "object.__new__" (.ref C)) () := Looks.of_peek X (hh _)
    refine codeAny_call_builtin_code (Code.quiet_builtin _ F.quiet) ?_
    refine chk.at ?_
    refine codeAny_builtin F.entry ?_
    unfold Builtin.«object.__new__»
    have fin : ∀ A', wpAny (model prog w) A' (do
        let d ← if typeHasDict (.ref C) then some <$> alloc { cls := .type "dict", data := .dict #[] } else pure none
        ret (← newObj (.ref C) .plain d)) (fun fin s' => match fin with | .done f => R (.ok f) s' | .again c' => c'.quiet = true ∧ codeAny (model prog w) A c' R s') (fun e s' => R (.error e) s') ⟨h, g, d, t, os⟩ := by
      intro A'
      show wpAny _ _ ((alloc emptyDict >>= fun x => pure (some x)) >>= _) _ _ _
      refine wpAny_bind (wpAny_bind (wpAny_alloc (wpAny_pure (wpAny_bind ?_))))
      show wpAny _ _ (newObjAsIs _ _ _) _ _ _
      unfold newObjAsIs classHasDel
      refine wpAny_bind (wpAny_alloc (wpAny_bind (wpAny_bind (wpAny_load (Heap.get?_push_of_some _ (Heap.get?_push_of_some _ hC)) (wpAny_pure ?_)))))
      rw [e2]
      refine wpAny_pure (wpAny_pure ?_)
      show R _ _
      rw [Heap.size_push]
      exact hq
    repeat (first | simp only [e1, Bool.false_eq_true, if_false] | exact fin _ | lk)
  · cases hm
theorem new_ownK {s : Shared} {h₀ : Heap} {L : Addr} {m : Str → Option Value} {news : List (Addr × Obj)} {E Q : Value → Shared → Prop} (F : Fr h₀ L s.heap m) (X₀ : K.In h₀) (N : News h₀ L s.heap news) (hm : newOk K C = true) (hc : ∀ S, peek K S (checkBuiltinCall "object.__new__" ⟨[.ref C], []⟩) = some ()) (ht : ∀ S, peek K S (isType (.ref C)) = some true) (hh : ∀ S, peek K S (Bind.madeHere "object.__new__" (.ref C)) = some ())
    (hq : ∀ x dx h', Fr h₀ L h' m → News h₀ L h' ((x, instObj C dx) :: (dx, dictOf [] 0) :: news) → (∀ p ∈ news, p.1 < dx) → dx < x → Q (.ref x) { s with heap := h' }) : wpAny (model prog w) A (call (.builtin "object.__new__") [.ref C]) Q E s := by
  obtain ⟨hp, g, d, t, os⟩ := s
  refine wpAny_call (new_own (X₀.keeps F.keep) hm hc ht hh (hq _ hp.objs.size _ ((F.push _).push _) ?_ (fun p hp => Heap.lt_size (N p hp).1) (Nat.lt_succ_self _)))
  have := (N.push F emptyDict).push (F.push _) (instObj C hp.objs.size)
  rwa [Heap.size_push] at this
end
section
variable {prog : Program} {w : World} {A : Around} {K : Frag} {C x dx L : Addr} {R : Result → Shared → Prop} {s : Shared} {h₀ : Heap} {m : Str → Option Value} {news : List (Addr × Obj)}
theorem make_ownS {fN pN fI : Addr} {rest : List Value} {kw : List (Str × Value)} {vs : List Value} (X : K.In s.heap) (hm : ownMakes K C = true)
    (hr : readsIn K C (.type "type") = true) (e : findCls K (.ref C) (.type "type") "__new__" = some (.get (.builtin "staticmethod.__get__") (.ref pN) .none (.ref C))) (hp : recIn K pN "staticmethod" = some (.ref fN :: vs))
    (hi : findIn K (.ref C) "__init__" = some (some (.ref fI))) (hf : typeIn K (.ref fI) = some (.type "function"))
    (hq : codeAny (model prog w) (A.under (.builtin "type.__call__" ⟨.ref C :: rest, kw⟩)) (.call (.ref fN) ⟨.ref C :: rest, kw⟩) (NewBack prog w A K C fI rest kw R) { s with toks := s.toks + 1 }) :
    codeAny (model prog w) A (.call (.ref C) ⟨rest, kw⟩) R s := by
  obtain ⟨h, g, d, t, os⟩ := s
  exact make_own X hm hr e hp hi hf hq
theorem newBack_ {fI : Addr} {rest : List Value} {kw : List (Str × Value)} (F : Fr h₀ L s.heap m) (X₀ : K.In h₀) (N : News h₀ L s.heap news) (h1 : (x, instObj C dx) ∈ news)
    (h : codeAny (model prog w) (A.under (.builtin "type.__call__" ⟨.ref C :: rest, kw⟩)) (.call (.ref fI) ⟨.ref x :: rest, kw⟩) (InitBack x R) s) : NewBack prog w A K C fI rest kw R (.ok (.ret (.ref x))) s :=
  ⟨x, dx, rfl, (N _ h1).1, X₀.keeps F.keep, h⟩
end
end Mine
end
section
open PySem PySem.W PyProof.Rows
set_option maxRecDepth 100000
namespace Mine
/-! base64 and the octets, in plain Lean. -/
noncomputable def b64I : List Int := [65,66,67,68,69,70,71,72,73,74,75,76,77,78,79,80,81,82,83,84,85,86,87,88,89,90,97,98,99,100,101,102,103,104,105,106,107,108,109,110,111,112,113,114,115,116,117,118,119,120,121,122,48,49,50,51,52,53,54,55,56,57,43,47]
theorem idx63 (x : Int) : 0 ≤ Builtin.bitAnd x 63 ∧ Builtin.bitAnd x 63 < (b64I.length : Int) := by
  rw [bitAnd_m6]
  have : (b64I.length : Int) = 64 := rfl
  omega
theorem idx3 (x : Int) : 0 ≤ Builtin.bitAnd x 3 * 2 ^ Int.toNat 4 ∧ Builtin.bitAnd x 3 * 2 ^ Int.toNat 4 < (b64I.length : Int) := by
  rw [bitAnd_m2, show (2 : Int) ^ Int.toNat 4 = 16 from rfl]
  have : (b64I.length : Int) = 64 := rfl
  omega
theorem idx15 (x : Int) : 0 ≤ Builtin.bitAnd x 15 * 2 ^ Int.toNat 2 ∧ Builtin.bitAnd x 15 * 2 ^ Int.toNat 2 < (b64I.length : Int) := by
  rw [bitAnd_m4, show (2 : Int) ^ Int.toNat 2 = 4 from rfl]
  have : (b64I.length : Int) = 64 := rfl
  omega
theorem nat_and3 (x : Int) : (Builtin.bitAnd x 3).natAbs < 2 ^ 64 := by rw [bitAnd_m2]; omega
theorem nat_and15 (x : Int) : (Builtin.bitAnd x 15).natAbs < 2 ^ 64 := by rw [bitAnd_m4]; omega
noncomputable def b64step (c : List Int × Int × Int) (b : Int) : List Int × Int × Int :=
  let lc := Builtin.bitAnd (Builtin.bitOr (c.2.2 * 2 ^ 8) b) 65535
  let ch (k : Nat) : Int := b64I.getD (Builtin.bitAnd (lc.fdiv (2 ^ k)) 63).toNat 0
  if c.2.1 = 0 then (c.1 ++ [ch 2], 2, lc) else if c.2.1 = 2 then (c.1 ++ [ch 4], 4, lc) else ((c.1 ++ [ch 6]) ++ [ch 0], 0, lc)
noncomputable def b64fold (bs : List Int) : List Int × Int × Int := bs.foldl b64step ([], 0, 0)
theorem b64fold_snoc (bs : List Int) (b : Int) : b64fold (bs ++ [b]) = b64step (b64fold bs) b := by simp [b64fold]
theorem b64step_lb (c : List Int × Int × Int) (b : Int) : (b64step c b).2.1 = 0 ∨ (b64step c b).2.1 = 2 ∨ (b64step c b).2.1 = 4 := by
  unfold b64step
  split
  · exact .inr (.inl rfl)
  · split
    · exact .inr (.inr rfl)
    · exact .inl rfl
theorem b64foldl_lb (bs : List Int) : ∀ c : List Int × Int × Int, (c.2.1 = 0 ∨ c.2.1 = 2 ∨ c.2.1 = 4) → ((bs.foldl b64step c).2.1 = 0 ∨ (bs.foldl b64step c).2.1 = 2 ∨ (bs.foldl b64step c).2.1 = 4) := by
  induction bs with
  | nil => exact fun _ h => h
  | cons b bs ih => exact fun c _ => ih _ (b64step_lb c b)
theorem b64fold_lb (bs : List Int) : (b64fold bs).2.1 = 0 ∨ (b64fold bs).2.1 = 2 ∨ (b64fold bs).2.1 = 4 := b64foldl_lb bs _ (.inl rfl)
theorem b64fold_len (bs : List Int) : (b64fold bs).1.length ≤ 2 * bs.length := by
  have st : ∀ c b, (b64step c b).1.length ≤ c.1.length + 2 := fun c b => by
    unfold b64step
    split
    · simp
    · split <;> simp
  have go : ∀ (bs : List Int) c, (bs.foldl b64step c).1.length ≤ c.1.length + 2 * bs.length := fun bs => by
    induction bs with
    | nil => exact fun _ => Nat.le_refl _
    | cons b bs ih =>
      intro c
      have h1 := ih (b64step c b)
      have h2 := st c b
      simp only [List.foldl_cons, List.length_cons]
      omega
  have := go bs ([], 0, 0)
  simpa [b64fold] using this
theorem b64fold_lc (bs : List Int) : 0 ≤ (b64fold bs).2.2 ∧ (b64fold bs).2.2 < 65536 := by
  have st : ∀ c b, 0 ≤ (b64step c b).2.2 ∧ (b64step c b).2.2 < 65536 := fun c b => by
    have h : (b64step c b).2.2 = Builtin.bitAnd (Builtin.bitOr (c.2.2 * 2 ^ 8) b) 65535 := by
      unfold b64step
      split
      · rfl
      · split <;> rfl
    rw [h, bitAnd_m16]
    omega
  have go : ∀ (bs : List Int) c, (0 ≤ c.2.2 ∧ c.2.2 < 65536) → 0 ≤ (bs.foldl b64step c).2.2 ∧ (bs.foldl b64step c).2.2 < 65536 := fun bs => by
    induction bs with
    | nil => exact fun _ h => h
    | cons b bs ih => exact fun c _ => ih _ (st c b)
  exact go bs _ (by decide)
theorem b64I_in (j : Nat) : 0 ≤ b64I.getD j 0 ∧ b64I.getD j 0 < 256 := by
  by_cases h : j < 64
  · have := (by decide +kernel : ∀ j < 64, 0 ≤ b64I.getD j 0 ∧ b64I.getD j 0 < 256)
    exact this j h
  · have : b64I.getD j 0 = 0 := by
      rw [List.getD_eq_getElem?_getD, List.getElem?_eq_none (show b64I.length ≤ j from Nat.le_of_not_lt h)]
      rfl
    rw [this]
    decide
theorem in_snoc {ns : List Int} {x : Int} (h : ∀ n ∈ ns, 0 ≤ n ∧ n < 256) (hx : 0 ≤ x ∧ x < 256) : ∀ n ∈ ns ++ [x], 0 ≤ n ∧ n < 256 := fun n hn => by
  rcases List.mem_append.mp hn with hn | hn
  · exact h n hn
  · rw [List.mem_singleton.mp hn]
    exact hx
theorem b64fold_in (bs : List Int) : ∀ n ∈ (b64fold bs).1, 0 ≤ n ∧ n < 256 := by
  have st : ∀ c b, (∀ n ∈ c.1, 0 ≤ n ∧ n < 256) → ∀ n ∈ (b64step c b).1, 0 ≤ n ∧ n < 256 := fun c b h => by
    unfold b64step
    split
    · exact in_snoc h (b64I_in _)
    · split
      · exact in_snoc h (b64I_in _)
      · exact in_snoc (in_snoc h (b64I_in _)) (b64I_in _)
  have go : ∀ (bs : List Int) c, (∀ n ∈ c.1, 0 ≤ n ∧ n < 256) → ∀ n ∈ (bs.foldl b64step c).1, 0 ≤ n ∧ n < 256 := fun bs => by
    induction bs with
    | nil => exact fun _ h => h
    | cons b bs ih => exact fun c h => ih _ (st c b h)
  exact go bs _ (fun _ h => nomatch h)
noncomputable def b64tail (c : List Int × Int × Int) : List Int :=
  if c.2.1 = 0 then c.1 else if c.2.1 = 2 then ((c.1 ++ [b64I.getD (Builtin.bitAnd c.2.2 3 * 2 ^ 4).toNat 0]) ++ [61]) ++ [61] else (c.1 ++ [b64I.getD (Builtin.bitAnd c.2.2 15 * 2 ^ 2).toNat 0]) ++ [61]
noncomputable def b64out (b : Array UInt8) : List Int := b64tail (b64fold (List.map (fun c => ((UInt8.toNat c : Nat) : Int)) b.toList))
theorem ints_snoc {n : Int} {t : Tok} : ∀ {vs : List Value} {ns : List Int}, IntsAre vs ns → IntsAre (vs ++ [.int n t]) (ns ++ [n])
  | _, _, .nil => .cons n t .nil
  | _, _, .cons z u r => .cons z u (ints_snoc r)
theorem ints_snoc2 {n k : Int} {t u : Tok} {vs : List Value} {ns : List Int} (h : IntsAre vs ns) : IntsAre (vs ++ [.int n t, .int k u]) (ns ++ [n, k]) := by
  have := ints_snoc (n := k) (t := u) (ints_snoc (n := n) (t := t) h)
  simpa using this
theorem ints_snoc3 {n k j : Int} {t u v : Tok} {vs : List Value} {ns : List Int} (h : IntsAre vs ns) : IntsAre (vs ++ [.int n t, .int k u, .int j v]) (ns ++ [n, k, j]) := by
  have := ints_snoc (n := j) (t := v) (ints_snoc2 (n := n) (k := k) (t := t) (u := u) h)
  simpa using this
end Mine
end
section
open PySem PySem.W PyProof.Rows
set_option maxRecDepth 100000
namespace Mine
/-! The line's figures, octets and signs, in plain Lean. -/
theorem bitOr_nat (a b : Nat) : Builtin.bitOr a b = ((a ||| b : Nat) : Int) := by
  have h : ∀ n : Nat, decide (0 ≤ Builtin.bitNot (n : Int)) = false := fun n => decide_eq_false (by unfold Builtin.bitNot; omega)
  have e : ∀ n : Nat, (Builtin.bitNot (Builtin.bitNot (n : Int))).toNat = n := fun n => by unfold Builtin.bitNot; omega
  unfold Builtin.bitOr Builtin.bitAnd
  rw [h, h]
  simp only [e]
  unfold Builtin.bitNot
  omega
theorem or_mul {n f : Int} (k : Nat) (hn : 0 ≤ n) (h0 : 0 ≤ f) (h1 : f < 2 ^ k) : Builtin.bitOr (n * 2 ^ k) f = n * 2 ^ k + f := by
  obtain ⟨a, rfl⟩ := Int.eq_ofNat_of_zero_le hn
  obtain ⟨b, rfl⟩ := Int.eq_ofNat_of_zero_le h0
  have hb : b < 2 ^ k := by
    have e : ((2 ^ k : Nat) : Int) = (2 : Int) ^ k := by push_cast; rfl
    rw [← e] at h1
    exact Int.ofNat_lt.mp h1
  have e1 : ((a : Int) * 2 ^ k) = ((2 ^ k * a : Nat) : Int) := by push_cast; exact Int.mul_comm _ _
  rw [e1]
  rw [bitOr_nat, ← Nat.two_pow_add_eq_or_of_lt hb]
  push_cast
  rfl
noncomputable def tripN (n : Int) : List Int := [n.fdiv (2 ^ 16), Builtin.bitAnd (n.fdiv (2 ^ 8)) 255, Builtin.bitAnd n 255]
noncomputable def num6 (fs : List Int) : Int := fs.foldl (fun n f => Builtin.bitOr (n * 2 ^ 6) f) 0
noncomputable def trip (fs : List Int) : List Int := tripN (num6 fs)
noncomputable def chunks : List Int → List Int
  | a :: b :: c :: d :: r => trip [a, b, c, d] ++ chunks r
  | _ => []
noncomputable def F64 (fs : List Int) : Prop := ∀ f ∈ fs, 0 ≤ f ∧ f < 64
theorem num6_four {a b c d : Int} (h : F64 [a, b, c, d]) : num6 [a, b, c, d] = ((a * 64 + b) * 64 + c) * 64 + d := by
  have ha := h a (by simp); have hb := h b (by simp); have hc := h c (by simp); have hd := h d (by simp)
  unfold num6
  simp only [List.foldl_cons, List.foldl_nil]
  rw [or_mul 6 (by omega) ha.1 (by omega)]
  rw [or_mul 6 (by omega) hb.1 (by omega)]
  rw [or_mul 6 (by omega) hc.1 (by omega)]
  rw [or_mul 6 (by omega) hd.1 (by omega)]
  omega
theorem b64_three {a b c d : Int} (h : F64 [a, b, c, d]) (out : List Int) (lc : Int) (hlc : 0 ≤ lc) : ∃ lc', 0 ≤ lc' ∧ (trip [a, b, c, d]).foldl b64step (out, 0, lc) = (out ++ [b64I.getD a.toNat 0, b64I.getD b.toNat 0, b64I.getD c.toNat 0, b64I.getD d.toNat 0], 0, lc') := by
  have ha := h a (by simp); have hb := h b (by simp); have hc := h c (by simp); have hd := h d (by simp)
  unfold trip
  rw [num6_four h]
  generalize hn : ((a * 64 + b) * 64 + c) * 64 + d = n
  unfold tripN
  have q1 : n.fdiv (2 ^ 16) = n / 65536 := by rw [Int.fdiv_eq_ediv_of_nonneg _ (by decide)]; rfl
  have q2 : n.fdiv (2 ^ 8) = n / 256 := by rw [Int.fdiv_eq_ediv_of_nonneg _ (by decide)]; rfl
  rw [q1, q2, bitAnd_m8, bitAnd_m8]
  generalize e1 : n / 65536 = x
  generalize e2 : n / 256 % 256 = y
  generalize e3 : n % 256 = z
  have hx : 0 ≤ x ∧ x < 256 := by omega
  have hy : 0 ≤ y ∧ y < 256 := by omega
  have hz : 0 ≤ z ∧ z < 256 := by omega
  have fd : ∀ (m : Int) (k : Nat), m.fdiv (2 ^ k) = m / 2 ^ k := fun m k => Int.fdiv_eq_ediv_of_nonneg _ (Int.le_of_lt (kbt_pos k))
  simp only [List.foldl_cons, List.foldl_nil]
  have s1 : b64step (out, 0, lc) x = (out ++ [b64I.getD a.toNat 0], 2, (lc * 256 + x) % 65536) := by
    unfold b64step
    dsimp only
    rw [if_pos rfl, or_mul 8 hlc hx.1 (by omega), bitAnd_m16, bitAnd_m6, fd]
    have e : (lc * 2 ^ 8 + x) % 65536 / 2 ^ 2 % 64 = a := by omega
    rw [e]
    rfl
  have s2 : ∀ o l, 0 ≤ l → l % 256 = x → b64step (o, 2, l) y = (o ++ [b64I.getD b.toNat 0], 4, (l * 256 + y) % 65536) := by
    intro o l hl hlx
    unfold b64step
    dsimp only
    rw [if_neg (by decide), if_pos rfl, or_mul 8 hl hy.1 (by omega), bitAnd_m16, bitAnd_m6, fd]
    have e : (l * 2 ^ 8 + y) % 65536 / 2 ^ 4 % 64 = b := by omega
    rw [e]
    rfl
  have s3 : ∀ o l, 0 ≤ l → l % 256 = y → b64step (o, 4, l) z = ((o ++ [b64I.getD c.toNat 0]) ++ [b64I.getD d.toNat 0], 0, (l * 256 + z) % 65536) := by
    intro o l hl hlx
    unfold b64step
    dsimp only
    rw [if_neg (by decide), if_neg (by decide), or_mul 8 hl hz.1 (by omega), bitAnd_m16, bitAnd_m6, bitAnd_m6, fd, fd]
    have e : (l * 2 ^ 8 + z) % 65536 / 2 ^ 6 % 64 = c := by omega
    have e' : (l * 2 ^ 8 + z) % 65536 / 2 ^ 0 % 64 = d := by omega
    rw [e, e']
    rfl
  refine ⟨(((lc * 256 + x) % 65536 * 256 + y) % 65536 * 256 + z) % 65536, by omega, ?_⟩
  rw [s1, s2 _ _ (by omega) (by omega), s3 _ _ (by omega) (by omega)]
  simp
theorem b64_chunks : ∀ (fs : List Int) (out : List Int) (lc : Int), F64 fs → fs.length % 4 = 0 → 0 ≤ lc → ∃ lc', 0 ≤ lc' ∧ (chunks fs).foldl b64step (out, 0, lc) = (out ++ fs.map (fun f => b64I.getD f.toNat 0), 0, lc')
  | [], out, lc, _, _, h => ⟨lc, h, by simp [chunks]⟩
  | [_], _, _, _, h, _ => by simp at h
  | [_, _], _, _, _, h, _ => by simp at h
  | [_, _, _], _, _, _, h, _ => by simp at h
  | a :: b :: c :: d :: r, out, lc, hf, hl, h => by
    obtain ⟨l1, h1, e1⟩ := b64_three (a := a) (b := b) (c := c) (d := d) (fun f hm => hf f (by simp only [List.mem_cons, List.not_mem_nil, or_false] at hm ⊢; rcases hm with h | h | h | h <;> simp [h])) out lc h
    obtain ⟨l2, h2, e2⟩ := b64_chunks r (out ++ [b64I.getD a.toNat 0, b64I.getD b.toNat 0, b64I.getD c.toNat 0, b64I.getD d.toNat 0]) l1 (fun f hm => hf f (by simp [hm])) (by simp only [List.length_cons] at hl; omega) h1
    refine ⟨l2, h2, ?_⟩
    rw [chunks, List.foldl_append, e1, e2]
    simp
theorem trip_in {a b c d : Int} (h : F64 [a, b, c, d]) : ∀ n ∈ trip [a, b, c, d], 0 ≤ n ∧ n < 256 := by
  have ha := h a (by simp); have hb := h b (by simp); have hc := h c (by simp); have hd := h d (by simp)
  unfold trip tripN
  rw [num6_four h, bitAnd_m8, bitAnd_m8, Int.fdiv_eq_ediv_of_nonneg _ (by decide)]
  intro n hn
  simp only [List.mem_cons, List.not_mem_nil, or_false] at hn
  rcases hn with rfl | rfl | rfl <;> omega
theorem chunks_in : ∀ (fs : List Int), F64 fs → ∀ n ∈ chunks fs, 0 ≤ n ∧ n < 256
  | [], _, n, h => by simp [chunks] at h
  | [_], _, n, h => by simp [chunks] at h
  | [_, _], _, n, h => by simp [chunks] at h
  | [_, _, _], _, n, h => by simp [chunks] at h
  | a :: b :: c :: d :: r, hf, n, h => by
    rw [chunks] at h
    rcases List.mem_append.mp h with h | h
    · exact trip_in (fun f hm => hf f (by simp only [List.mem_cons, List.not_mem_nil, or_false] at hm ⊢; rcases hm with h | h | h | h <;> simp [h])) n h
    · exact chunks_in r (fun f hm => hf f (by simp [hm])) n h
theorem chunks_len : ∀ (fs : List Int), (chunks fs).length ≤ fs.length
  | [] => by simp [chunks]
  | [_] => by simp [chunks]
  | [_, _] => by simp [chunks]
  | [_, _, _] => by simp [chunks]
  | a :: b :: c :: d :: r => by
    have := chunks_len r
    rw [chunks]
    simp only [List.length_append, trip, tripN, List.length_cons, List.length_nil]
    omega
/-- one more chunk -/
theorem chunks_next : ∀ (i : Nat) (fs : List Int), 4 * i + 4 ≤ fs.length → chunks (fs.take (4 * (i + 1))) = chunks (fs.take (4 * i)) ++ trip ((fs.drop (4 * i)).take 4)
  | 0, a :: b :: c :: d :: r, _ => by simp [chunks]
  | i + 1, a :: b :: c :: d :: r, h => by
    have ih := chunks_next i r (by simp only [List.length_cons] at h; omega)
    rw [show 4 * (i + 1 + 1) = 4 * (i + 1) + 1 + 1 + 1 + 1 by omega, show 4 * (i + 1) = 4 * i + 1 + 1 + 1 + 1 by omega]
    simp only [List.take_succ_cons, List.drop_succ_cons, chunks]
    rw [show 4 * i + 1 + 1 + 1 + 1 = 4 * (i + 1) by omega, ih, List.append_assoc]
  | _, [], h => by simp at h
  | _, [_], h => by simp only [List.length_cons, List.length_nil] at h; omega
  | _, [_, _], h => by simp only [List.length_cons, List.length_nil] at h; omega
  | _, [_, _, _], h => by simp only [List.length_cons, List.length_nil] at h; omega
theorem b64out_make {ns : List Int} (h : ∀ n ∈ ns, 0 ≤ n ∧ n < 256) : b64out (byteArr ns) = b64tail (b64fold ns) := by
  unfold b64out
  have := KBa.ints_make h
  unfold KBw.bInts at this
  rw [this]
theorem b64out_chunks {fs : List Int} (hf : F64 fs) (hl : fs.length % 4 = 0) : b64out (byteArr (chunks fs)) = fs.map (fun f => b64I.getD f.toNat 0) := by
  rw [b64out_make (chunks_in fs hf)]
  obtain ⟨lc, _, e⟩ := b64_chunks fs [] 0 hf hl (by decide)
  unfold b64fold
  rw [e]
  simp [b64tail]
noncomputable def figF (bits pre : List Int) : List Int := 63 :: pre.flatMap (fun k => [62 + bits.getD k.toNat 0, k])
theorem figF_snoc (bits pre : List Int) (k : Int) : figF bits (pre ++ [k]) = figF bits pre ++ [62 + bits.getD k.toNat 0, k] := by simp [figF]
theorem figF_len (bits pre : List Int) : (figF bits pre).length = 1 + 2 * pre.length := by
  unfold figF
  induction pre with
  | nil => rfl
  | cons k r ih => simp only [List.flatMap_cons, List.length_cons, List.length_append, List.length_nil] at ih ⊢; omega
noncomputable def figs (bits : List Int) : List Int := figF bits (rangeKs 0 bits.length) ++ [61, 61, 61]
theorem figs_of (bits : List Int) : figF bits (rangeKs 0 ((bits.length : Int) - 0).toNat) ++ [61, 61, 61] = figs bits := by
  have : ((bits.length : Int) - 0).toNat = bits.length := by omega
  rw [this]
  rfl
theorem figs_len (bits : List Int) : (figs bits).length = 4 + 2 * bits.length := by
  unfold figs
  rw [List.length_append, figF_len, rangeKs_length]
  simp only [List.length_cons, List.length_nil]
  omega
theorem getD01 {bits : List Int} (h01 : ∀ x ∈ bits, x = 0 ∨ x = 1) (j : Nat) : bits.getD j 0 = 0 ∨ bits.getD j 0 = 1 := by
  rw [List.getD_eq_getElem?_getD]
  cases h : bits[j]? with
  | none => exact .inl rfl
  | some x => exact h01 x (List.mem_of_getElem? h)
theorem figs_64 {bits : List Int} (h01 : ∀ x ∈ bits, x = 0 ∨ x = 1) (hn : bits.length ≤ 48) : F64 (figs bits) := by
  intro f hf
  unfold figs figF at hf
  simp only [List.cons_append, List.mem_cons, List.mem_append, List.mem_flatMap, List.not_mem_nil, or_false] at hf
  rcases hf with rfl | ⟨k, hk, hf⟩ | hf
  · decide
  · have hk' := mem_rangeKs hk
    rcases hf with rfl | rfl
    · rcases getD01 h01 k.toNat with e | e <;> rw [e] <;> decide
    · omega
  · rcases hf with rfl | rfl | rfl <;> decide
theorem num6_snoc (pre : List Int) (n : Int) : num6 (pre ++ [n]) = Builtin.bitOr (num6 pre * 2 ^ 6) n := by simp [num6]
theorem num6_word {pre : List Int} {n num : Int} (hn : 0 ≤ n ∧ n < 64) (h : num = num6 pre ∧ 0 ≤ num ∧ num < 64 ^ pre.length) :
    Builtin.bitOr (num * 2 ^ 6) n = num6 (pre ++ [n]) ∧ 0 ≤ Builtin.bitOr (num * 2 ^ 6) n ∧ Builtin.bitOr (num * 2 ^ 6) n < 64 ^ (pre ++ [n]).length := by
  obtain ⟨h1, h2, h3⟩ := h
  rw [num6_snoc, ← h1]
  refine ⟨rfl, ?_⟩
  rw [or_mul 6 h2 hn.1 (by omega), List.length_append, List.length_singleton]
  have e : (64 : Int) ^ (pre.length + 1) = 64 ^ pre.length * 64 := Int.pow_succ _ _
  rw [e]
  generalize hb : (64 : Int) ^ pre.length = b
  rw [hb] at h3
  clear e hb h1
  omega
theorem num6_small {pre : List Int} {num : Int} (hl : pre.length ≤ 4) (h : num = num6 pre ∧ 0 ≤ num ∧ num < 64 ^ pre.length) : num.natAbs < 2 ^ 64 := by
  have e : ∀ l : Nat, l ≤ 4 → (64 : Int) ^ l ≤ 64 ^ 4 := by decide
  have e := e _ hl
  omega
theorem slice4_eq {fs : List Int} {q i : Nat} (hq : fs.length = 4 * q) (hi : i < q) :
    List.take (min (0 + (i : Int) * 4 + 4).toNat fs.length - (0 + (i : Int) * 4).toNat) (List.drop (0 + (i : Int) * 4).toNat fs) = (fs.drop (4 * i)).take 4 := by
  have e1 : (0 + (i : Int) * 4).toNat = 4 * i := by omega
  have e2 : (0 + (i : Int) * 4 + 4).toNat = 4 * i + 4 := by omega
  rw [e1, e2, Nat.min_eq_left (by omega)]
  congr 1
  omega
theorem slice4_len {fs : List Int} {q i : Nat} (hq : fs.length = 4 * q) (hi : i < q) : ((fs.drop (4 * i)).take 4).length = 4 := by
  rw [List.length_take, List.length_drop]
  omega
theorem slice4_64 {fs : List Int} {i : Nat} (h : F64 fs) : F64 ((fs.drop (4 * i)).take 4) := fun f hf => h f (List.mem_of_mem_drop (List.mem_of_mem_take hf))
theorem chunks_state {fs sl oN : List Int} {i q : Nat} {num : Int} (hq : fs.length = 4 * q) (hi : i < q) (hsle : (fs.drop (4 * i)).take 4 = sl) (hP : oN = chunks (fs.take (4 * i))) (e : num = num6 sl) :
    oN ++ [num.fdiv (2 ^ 16), Builtin.bitAnd (num.fdiv (2 ^ 8)) 255, Builtin.bitAnd num 255] = chunks (fs.take (4 * (i + 1))) := by
  rw [chunks_next i fs (by omega), hsle, ← hP, e]
  rfl
/-- the signs in altchars' stead -/
noncomputable def trA (a b x : Int) : Int := if x = 43 then a else if x = 47 then b else x
noncomputable def chA (a b f : Int) : Int := trA a b (b64I.getD f.toNat 0)
theorem trA_in {a b x : Int} (ha : 0 ≤ a ∧ a < 256) (hb : 0 ≤ b ∧ b < 256) (hx : 0 ≤ x ∧ x < 256) : 0 ≤ trA a b x ∧ trA a b x < 256 := by
  unfold trA
  split
  · exact ha
  · split
    · exact hb
    · exact hx
noncomputable def lineI (bits : List Int) : List Int := (figs bits).map (chA 34 39)
theorem chA_in {a b : Int} (ha : 0 ≤ a ∧ a < 256) (hb : 0 ≤ b ∧ b < 256) (f : Int) : 0 ≤ chA a b f ∧ chA a b f < 256 := trA_in ha hb (b64I_in _)
theorem lineI_in (bits : List Int) : ∀ n ∈ lineI bits, 0 ≤ n ∧ n < 256 := by
  intro n hn
  obtain ⟨f, _, rfl⟩ := List.mem_map.mp hn
  exact chA_in (by decide) (by decide) f
theorem lineI_len (bits : List Int) : (lineI bits).length = 4 + 2 * bits.length := by
  unfold lineI
  rw [List.length_map, figs_len]
theorem line_bytes {bits fN oN : List Int} (hfn : fN = figs bits) (h64 : F64 fN) (hl : fN.length % 4 = 0) (hP : oN = chunks fN) :
    (b64out (byteArr oN)).map (trA (((34 : UInt8).toNat : Nat) : Int) (((39 : UInt8).toNat : Nat) : Int)) = lineI bits := by
  rw [hP, b64out_chunks h64 hl, hfn, List.map_map]
  rfl
theorem glue_nil : (Str.ofString "").cps = #[] := by decide +kernel
theorem glued_chars (l : List Nat) : ∀ acc : Array Nat, (l.map fun c => (⟨#[c]⟩ : Str)).foldl (fun acc p => acc ++ (Str.ofString "").cps ++ p.cps) acc = acc ++ l.toArray := by
  induction l with
  | nil => intro acc; simp
  | cons c r ih =>
    intro acc
    rw [List.map_cons, List.foldl_cons, ih, glue_nil]
    simp
theorem join_chars (l : List Nat) : Txt.join "" (l.map fun c => (⟨#[c]⟩ : Str)) = ⟨l.toArray⟩ := by
  cases l with
  | nil => rfl
  | cons c r =>
    unfold Txt.join Builtin.Str.glued
    rw [List.map_cons, List.drop_succ_cons, List.drop_zero, List.headD_cons, glued_chars]
    simp
theorem join_one (x : Str) : Txt.join "" [x] = x := rfl
noncomputable def lineN (bits : List Int) : List Nat := (lineI bits).map Int.toNat
theorem join_line (bits : List Int) : Txt.join "" ((lineI bits).map fun k => (⟨#[k.toNat]⟩ : Str)) = ⟨(lineN bits).toArray⟩ := by
  have := join_chars (lineN bits)
  unfold lineN at this
  rw [List.map_map] at this
  exact this
end Mine
end
section
open PySem PySem.W PyProof.Rows
set_option maxRecDepth 100000
set_option maxHeartbeats 0
namespace Mine
/-! bytes.maketrans of two bytes, and bytes.translate by a table -/
theorem plain_mt : plainId "bytes.maketrans" = true := by decide +kernel
theorem entry_mt : entryFor table "bytes.maketrans" = some Builtin.«bytes.maketrans» := entryFor_of_tree (by kernel_rfl)
theorem check_mt (a b : Value) : checkBuiltinCall "bytes.maketrans" ⟨[a, b], []⟩ = pure () := by kernel_rfl
theorem slot_tr : Slot "bytes" "translate" "bytes.translate" :=
  .of (owner := "bytes") (n := "translate") (by rw [typeLookup_type, builtinLookup_eq_fast]; kernel_rfl) (by decide +kernel) (by decide +kernel) (by decide +kernel)
    (by first | exact .inl (by decide +kernel) | exact .inr (by decide +kernel)) (by rw [isSubtype_type]; kernel_rfl)
theorem type_tr : typeOf (.builtin "bytes.translate") = pure (.type "method_descriptor") := by show builtinType _ = _; rw [builtinType_eq_fast]; kernel_rfl
theorem entry_tr : entryFor table "bytes.translate" = some Builtin.«bytes.translate» := entryFor_of_tree (by kernel_rfl)
theorem args_tr (a b : Value) : argsOk "bytes.translate" ⟨[a, b], []⟩ := by unfold argsOk; kernel_rfl
noncomputable def tab64 (a0 a1 : UInt8) : Array UInt8 := ([(43, a0), (47, a1)] : List (UInt8 × UInt8)).foldl (fun t (f, x) => t.setIfInBounds f.toNat x) ((Array.range 256).map (·.toUInt8))
theorem tab64_size (a0 a1 : UInt8) : (tab64 a0 a1).size = 256 := by simp [tab64]
section
variable {prog : Program} {w : World} {A : Around} {E : Value → Shared → Prop} {s : Shared}
theorem meets_mt (a0 a1 : UInt8) (t u : Tok) : Meets (Builtin.«bytes.maketrans» ⟨[.bytes #[43, 47] t, .bytes #[a0, a1] u], []⟩) (fun _ R s => ∀ t' k, R (.ok (.ret (.bytes (tab64 a0 a1) t'))) { s with toks := k }) := by
  refine .of_wp fun prog w A R s h => ?_
  unfold Builtin.«bytes.maketrans» Builtin.Bytes.maketransM
  refine wpAny_bind (wpAny_of_eq (a := ()) rfl ?_)
  refine wpAny_bind (wpAny_of_eq (a := ()) (by kernel_rfl) ?_)
  refine wpAny_bind (wpAny_of_eq (KBd.like_eq (b := #[43, 47]) (t := t)) ?_)
  refine wpAny_bind (wpAny_of_eq (KBd.like_eq (b := #[a0, a1]) (t := u)) ?_)
  refine KFB.if_not rfl ?_
  refine wpAny_bind ?_
  refine wpAny_mkBytes (wpAny_pure ⟨_, rfl, h _ _⟩) ?_
  show (tab64 a0 a1).size ≤ sizeLine
  rw [tab64_size, sizeLine_eq]
  decide
theorem call_mt {a0 a1 : UInt8} {t u : Tok} {Q : Value → Shared → Prop} (h : ∀ t' k, Q (.bytes (tab64 a0 a1) t') { s with toks := k }) :
    wpAny (model prog w) A (call (.builtin "bytes.maketrans") [.bytes #[43, 47] t, .bytes #[a0, a1] u]) Q E s := by
  refine wpAny_call (codeAny_call_builtin plain_mt entry_mt ?_)
  exact wpAny_of_eq (check_mt _ _) (meets_mt a0 a1 t u prog w A (wants Q E) s h)
noncomputable def trB (a0 a1 c : UInt8) : UInt8 := (tab64 a0 a1).getD c.toNat c
theorem meets_tr (b T : Array UInt8) (hT : T.size = 256) (t u : Tok) : Meets (Builtin.«bytes.translate» ⟨[.bytes b t, .bytes T u], []⟩) (fun _ R s => b.size ≤ sizeLine ∧ ∀ t' k, R (.ok (.ret (.bytes (b.map (fun c => T.getD c.toNat c)) t'))) { s with toks := k }) := by
  refine .of_wp fun prog w A R s hS => ?_
  obtain ⟨hsz, h⟩ := hS
  unfold Builtin.«bytes.translate» Builtin.Bytes.translateM
  have e : (b.filter (fun c => !(#[] : Array UInt8).contains c)).map (fun c => T.getD c.toNat c) = b.map (fun c => T.getD c.toNat c) := by
    have : (b.filter (fun c => !(#[] : Array UInt8).contains c)) = b := by simp
    rw [this]
  dsimp only
  rw [if_neg (by simp)]
  refine KFB.if_not rfl ?_
  refine KFB.if_not rfl ?_
  refine wpAny_bind (wpAny_of_eq KBd.like_eq ?_)
  refine KFB.if_not (by rw [hT]; rfl) ?_
  refine wpAny_bind (wpAny_pure ?_)
  refine wpAny_bind (wpAny_pure ?_)
  refine wpAny_bind (wpAny_of_eq (a := b) rfl ?_)
  show wpAny _ _ (if ((b.filter (fun c => !(#[] : Array UInt8).contains c)).map (fun c => T.getD c.toNat c) == b) = true then _ else (Builtin.Bytes.Kind.bytes.new ((b.filter (fun c => !(#[] : Array UInt8).contains c)).map (fun c => T.getD c.toNat c)) >>= _)) _ _ _
  rw [e]
  by_cases hb : (b.map (fun c => T.getD c.toNat c) == b) = true
  · refine KFB.if_so hb ?_
    have e2 : b.map (fun c => T.getD c.toNat c) = b := eq_of_beq hb
    rw [e2] at h
    refine wpAny_bind (wpAny_rule ?_)
    refine wpAny_bind (wpAny_of_eq (a := .bytes b t) ?_ ?_)
    · rfl
    · exact wpAny_pure ⟨_, rfl, h _ _⟩
  · refine KFB.if_not (Bool.eq_false_iff.mpr hb) ?_
    refine wpAny_bind ?_
    refine wpAny_mkBytes (wpAny_pure ⟨_, rfl, h _ _⟩) (by rw [Array.size_map]; exact hsz)
theorem call_tr {b : Array UInt8} {a0 a1 : UInt8} {t u : Tok} {Q : Value → Shared → Prop} (hsz : b.size ≤ 16777216) (h : ∀ t' k, Q (.bytes (b.map (trB a0 a1)) t') { s with toks := k }) :
    wpAny (model prog w) A (call (.builtin "bytes.translate") [.bytes b t, .bytes (tab64 a0 a1) u]) Q E s :=
  call_meets slot_tr (typeIs_bytes _ _ _) entry_tr (args_tr _ _) (meets_tr b (tab64 a0 a1) (tab64_size a0 a1) t u) ⟨by rw [sizeLine_eq]; exact hsz, h⟩
theorem method_tr {M : Model} {b : Array UInt8} {t : Tok} {pl : Sem Bool} {Q : Value × List Value → Shared → Prop} (h : Q (.builtin "bytes.translate", [.bytes b t]) s) : wpAny M A (getMethod (.bytes b t) "translate" pl) Q E s := by
  with_reducible exact KBd.method_of (.bytes b t) (typeIs_bytes _ _ _) slot_tr type_tr KBd.noRef h
end
theorem trB_of (a0 a1 : UInt8) : ∀ n : Nat, n < 256 → trB a0 a1 n.toUInt8 = (trA (a0.toNat : Int) (a1.toNat : Int) (n : Int)).toNat.toUInt8 := by
  intro n hn
  have hc : (n.toUInt8).toNat = n := by
    show (UInt8.ofNat n).toNat = n
    rw [UInt8.toNat_ofNat']
    omega
  unfold trB trA tab64
  rw [hc]
  simp only [List.foldl_cons, List.foldl_nil]
  rw [show (43 : UInt8).toNat = 43 from rfl, show (47 : UInt8).toNat = 47 from rfl]
  by_cases h1 : n = 43
  · subst h1
    simp
  by_cases h2 : n = 47
  · subst h2
    simp
  · have i1 : ¬ ((n : Int) = 43) := by omega
    have i2 : ¬ ((n : Int) = 47) := by omega
    rw [if_neg i1, if_neg i2]
    have h1' : ¬ 43 = n := fun e => h1 e.symm
    have h2' : ¬ 47 = n := fun e => h2 e.symm
    simp [Array.getD_eq_getD_getElem?, Array.getElem?_setIfInBounds, h1', h2', hn]
theorem tr_make {a0 a1 : UInt8} {ns : List Int} (h : ∀ n ∈ ns, 0 ≤ n ∧ n < 256) : (byteArr ns).map (trB a0 a1) = byteArr (ns.map (trA (a0.toNat : Int) (a1.toNat : Int))) := by
  unfold byteArr
  rw [List.map_toArray, List.map_map, List.map_map]
  congr 1
  refine List.map_congr_left fun n hn => ?_
  have hb := h n hn
  have e := trB_of a0 a1 n.toNat (by omega)
  rw [Int.toNat_of_nonneg hb.1] at e
  exact e
theorem b64out_in (b : Array UInt8) : ∀ n ∈ b64out b, 0 ≤ n ∧ n < 256 := by
  unfold b64out b64tail
  have h := b64fold_in (List.map (fun c => ((UInt8.toNat c : Nat) : Int)) b.toList)
  split
  · exact h
  · split
    · exact in_snoc (in_snoc (in_snoc h (b64I_in _)) (by decide)) (by decide)
    · exact in_snoc (in_snoc h (b64I_in _)) (by decide)
theorem b64out_len (b : Array UInt8) : (b64out b).length ≤ 2 * b.toList.length + 3 := by
  unfold b64out b64tail
  have h := b64fold_len (List.map (fun c => ((UInt8.toNat c : Nat) : Int)) b.toList)
  rw [List.length_map] at h
  split
  · omega
  · split <;> simp only [List.length_append, List.length_cons, List.length_nil] <;> omega
end Mine
end
section
open PySem PySem.W PyProof.Rows PyProof.V PySem.Spec PySem.Calls
set_option maxRecDepth 100000
set_option maxHeartbeats 0
namespace Mine
/-! small rules for lists that stand on a ledger of unknown length -/
section
variable {prog : Program} {w : World} {A : Around} {E : Value → Shared → Prop} {s : Shared} {h₀ : Heap} {L l : Addr} {news : List (Addr × Obj)}
theorem item_lst {value slice : PySem.Expr} {vs : List Value} {ns : List Int} {n : Nat} {k : Int} {u : Tok} {Q : Value → Shared → Prop} (N : News h₀ L s.heap news) (hm : (l, listOf vs.toArray n) ∈ news) (hi : IntsAre vs ns)
    (h0 : 0 ≤ k) (h1 : k < ns.length) (hfit : ns.length < 2 ^ 63) (h : ∀ t, Q (.int (ns.getD k.toNat 0) t) s)
    (hs : subscripted slice false (.ref l) (.int k u) = operate [.ref l, .int k u] (getItem (.ref l) (.int k u)) := by with_unfolding_all rfl) :
    wpAny (model prog w) A (subscriptTail value slice (.ref l) (.int k u)) Q E s := by
  have hl : s.heap.IsList l vs.toArray := ⟨_, (N _ hm).1, rfl, n, rfl⟩
  obtain ⟨t, hx⟩ := hi.get k.toNat _ (ints_getD h0 h1)
  exact tail_any hl.typeIs slot_list_getitem.lookup (wpAny_getItem_list hl h0 (by omega) (by simpa using hx) (h t)) hs
theorem item_lstV {value slice : PySem.Expr} {vs : List Value} {ns : List Int} {n : Nat} {k v : Int} {u : Tok} {Q : Value → Shared → Prop} (N : News h₀ L s.heap news) (hm : (l, listOf vs.toArray n) ∈ news) (hi : IntsAre vs ns)
    (h0 : 0 ≤ k) (h1 : k < ns.length) (hfit : ns.length < 2 ^ 63) (hv : ns.getD k.toNat 0 = v) (h : ∀ t, Q (.int v t) s)
    (hs : subscripted slice false (.ref l) (.int k u) = operate [.ref l, .int k u] (getItem (.ref l) (.int k u)) := by with_unfolding_all rfl) :
    wpAny (model prog w) A (subscriptTail value slice (.ref l) (.int k u)) Q E s :=
  item_lst N hm hi h0 h1 hfit (fun t => by rw [hv]; exact h t) hs
theorem item_strV {value slice : PySem.Expr} {x v : Str} {t u : Tok} {n : Nat} {i : Int} {Q : Value → Shared → Prop} (hk : x.length = n) (h0 : 0 ≤ i) (h1 : i < (n : Int)) (hn : n ≤ 16777216) (hv : Txt.item x i = v) (h : ∀ t', Q (.str v t') { s with toks := s.toks + 1 })
    (hs : subscripted slice false (.str x t) (.int i u) = operate [.str x t, .int i u] (getItem (.str x t) (.int i u)) := by with_unfolding_all rfl)
    (ht : ∀ r, letTemporaryGo value (.str x t) r = pure () := by intro _; with_unfolding_all rfl) :
    wpAny (model prog w) A (subscriptTail value slice (.str x t) (.int i u)) Q E s :=
  KXi.item hk (by omega) h1 hn (fun _ => by rw [hv]; exact h _) hs ht
theorem join_lone {x : Str} {t u : Tok} {S : Addr} {c : Nat} {Q : Value → Shared → Prop} (N : News h₀ L s.heap news) (hm : (S, listOf #[.str x u] c) ∈ news) (hx : x.length ≤ 1000000) (h : Q (.str x u) s) :
    wpAny (model prog w) A (call (.builtin "str.join") [.str (Str.ofString "") t, .ref S]) Q E s := by
  have hl : s.heap.IsList S (PySem.strValues [(x, u)]).toArray := ⟨_, (N _ hm).1, rfl, c, rfl⟩
  refine call_meets PySem.F.slot_str_join (typeIs_str _ _ _) PySem.F.entry_str_join (PySem.F.args_str_join_2 _ _) (meets_str_join_list (Str.ofString "") t S [(x, u)] ?_) ⟨hl, ?_⟩
  · show Builtin.Str.tooLong (0 + x.length + (Str.ofString "").length) = false
    have z : (Str.ofString "").length = 0 := by decide
    rw [z]
    unfold Builtin.Str.tooLong
    rw [sizeLine_eq]
    exact decide_eq_false (by omega)
  · exact h
theorem ext_lst {D b : Addr} {m : Str → Option Value} {news' : List (Addr × Obj)} {vs1 ys : List Value} {n n2 : Nat} {Q : Value → Shared → Prop} (F : Fr h₀ L s.heap m) (N : News h₀ L s.heap news) (hb : (b, listOf ys.toArray n2) ∈ news) (hne : ys.length ≠ 0)
    (U : Upd D (listOf vs1.toArray n) (listOf (vs1 ++ ys).toArray (n + 1)) news news') (hz : vs1.length + ys.length ≤ 1000000)
    (h : ∀ h', Fr h₀ L h' m → News h₀ L h' news' → Q .none { s with heap := h' }) : wpAny (model prog w) A (call (.builtin "list.extend") [.ref D, .ref b]) Q E s :=
  kl_extend F N hb (by simp) (by simpa using hne) U (extend_door (by rw [List.size_toArray, List.size_toArray, sizeLine_eq]; omega)) (by rw [sizeLine_eq]; simp; omega) (by rw [List.size_toArray, List.size_toArray, sizeLine_eq]; omega) h
end
theorem news_14 {h₀ h : Heap} {L : Addr} {a b c d : Addr × Obj} {r : List (Addr × Obj)} (N : News h₀ L h (a :: b :: c :: d :: r)) : News h₀ L h (a :: d :: r) := fun p hp => N p (by
  simp only [List.mem_cons] at hp ⊢
  rcases hp with hp | hp | hp <;> simp [hp])
theorem news_dup {h₀ h : Heap} {L : Addr} {a : Addr × Obj} {r : List (Addr × Obj)} (N : News h₀ L h r) (hm : a ∈ r) : News h₀ L h (a :: r) := fun p hp => N p (by
  rcases List.mem_cons.mp hp with rfl | hp
  · exact hm
  · exact hp)
theorem rangeSize_four (q : Nat) : Builtin.Range.rangeSize 0 ((4 * q : Nat) : Int) 4 = (q : Int) := by
  unfold Builtin.Range.rangeSize
  rw [if_pos (by decide)]
  split <;> omega
theorem fits_long {i : Int} (h0 : 0 ≤ i) (h1 : i < 1000000) : Builtin.Range.rangeFitsLong i = true := by
  unfold Builtin.Range.rangeFitsLong
  rw [decide_eq_true (show -2 ^ 63 ≤ i by omega), decide_eq_true (show i < 2 ^ 63 by omega)]
  rfl
theorem small_four {q : Nat} (hq : q < 100000) : Builtin.Range.small 0 ((4 * q : Nat) : Int) 4 = true := by
  unfold Builtin.Range.small
  rw [rangeSize_four, fits_long (by omega) (by omega), fits_long (by omega) (by omega), fits_long (by omega) (by omega), fits_long (by omega) (by omega), if_pos (by decide), fits_long (by omega) (by omega), Bool.or_true]
  rfl
/-! a for over a range of any step, by a state -/
section
variable {prog : Program} {w : World} {A : Around} {E : Value → Shared → Prop} {s : Shared} {env : Env} {h₀ : Heap} {x : Str} {body : List Stmt} {Q : Flow → Shared → Prop}
theorem ksr_range {σ : Type} {r : Addr} {a₀ b₀ st : Int} {t₀ u₀ v₀ : Tok} {n : Nat} {m₀ : Str → Option Value} (Led : σ → List (Addr × Obj)) (ps : σ → List (Str × Value)) (Facts : σ → Prop) (stored : List Str) (P : Nat → σ → Prop) (c₀ : σ)
    (hh : A.handled = none) (hr : IsRange s.heap r a₀ b₀ st t₀ u₀ v₀) (hsmall : Builtin.Range.small a₀ b₀ st = true) (hn : Builtin.Range.rangeSize a₀ b₀ st = (n : Int)) (F : Fr h₀ env.locals s.heap m₀) (N : News h₀ env.locals s.heap (Led c₀)) (hf : Facts c₀) (hk : ∀ p ∈ ps c₀, m₀ p.1 = some p.2) (hp : P 0 c₀)
    (turn : ∀ (c : σ) (i : Nat) t (u : Str → Option Value) h tk own, i < n → OwnOff own ((Led c₀).map (·.1)) → Facts c → P i c →
      Fr h₀ env.locals h (fun y => if y = x then some (.int (a₀ + (i : Int) * st) t) else kstB (fun z => if stored.contains z then u z else m₀ z) (ps c) y) → News h₀ env.locals h (Led c ++ own) →
      wpAny (model prog w) A (execs body env) (InvPostN h₀ env.locals (KstS Led ps Facts x stored m₀ (fun _ => P (i + 1)) []) own ((Led c₀).map (·.1)) { s with heap := h, toks := tk } Q) E { s with heap := h, toks := tk })
    (done : ∀ (c : σ) (u : Str → Option Value) h tk, Facts c → P n c → Fr h₀ env.locals h (fun y => if y = x then u y else kstB (fun z => if stored.contains z then u z else m₀ z) (ps c) y) → News h₀ env.locals h (Led c) → Q .next { s with heap := h, toks := tk }) :
    wpAny (model prog w) A (pyIter (.ref r)) (fun it s₂ => LoopAtV prog w A h₀ env x body Q E it s₂) E s := by
  refine wpAny_pyIter_range hr hsmall ?_
  have W : Walks prog w A s.heap.objs.size [s.heap.objs.size] [s.heap.objs.size] n (fun i v => i < n ∧ ∃ t, v = .int (a₀ + i * st) t)
      (fun i h => IsRangeIter h s.heap.objs.size (a₀ + (i : Nat) * st) ((n : Int) - (i : Nat)) st) := (Walks.range hh _ a₀ st n).bound
  refine loop_invN (fun i m nx => KstS Led ps Facts x stored m₀ (fun _ => P i) [] m nx) W ?_ ?_ ?_ ?_ (by show IsRangeIter _ _ _ _ _; rw [hn]; simpa using Heap.get?_push_size _ rfl) (F.push _) (fun p hp => ⟨Heap.get?_push_of_some _ (N p hp).1, (N p hp).2⟩) ⟨c₀, rfl, hf, hk, fun _ _ _ _ => rfl, hp⟩ ?_ ?_
  · intro hm
    exact absurd F.ns.lt ((List.mem_singleton.mp hm) ▸ Nat.lt_irrefl _)
  · intro b hb
    rw [List.mem_singleton.mp hb]
    exact next_is_new F
  · intro p hp hI
    exact absurd (Heap.lt_size (N p hp).1) ((List.mem_singleton.mp hI) ▸ Nat.lt_irrefl _)
  · intro p hp hI
    exact absurd (Heap.lt_size (N p hp).1) ((List.mem_singleton.mp hI) ▸ Nat.lt_irrefl _)
  · rintro i v m₁ nx h tk own hi ⟨_, t, rfl⟩ _ hoff ⟨c, rfl, hf', h1, h2, hp'⟩ F₁ N₁
    exact turn c i t m₁ h tk own hi hoff hf' hp' (kst_fr h1 h2 F₁) N₁
  · rintro m₁ nx h tk ⟨c, rfl, hf', h1, h2, hp'⟩ F₁ N₁
    exact done c m₁ h tk hf' hp' (kst_frOut h1 h2 F₁) N₁
end
end Mine
end
section
open PySem PySem.Spec PySem.Calls PySem.W PyProof.Rows PyProof.Rows.LCg
set_option maxRecDepth 100000
set_option maxHeartbeats 0
namespace Mine
/-! a list comprehension over bytes -/
noncomputable def SrcB (prog : Program) (w : World) (A : Around) (h₀ : Heap) (L : Addr) (m : Str → Option Value) (env : Env) (elt : Expr) (x : Str) (scope : Scope) (cl : List (Str × Addr)) (Fin : Shared → List Value → List (Addr × Obj) → Prop) (xv : Value) (s₁ : Shared) : Prop :=
  ∃ b t news, xv = .bytes b t ∧ A.handled = none ∧ Fr h₀ L s₁.heap m ∧ News h₀ L s₁.heap news ∧ b.size ≤ sizeLine ∧
    ∀ g, CompRest prog w A h₀ L m env elt x scope cl { s₁ with heap := g } (fun _ => True) (fun i v => ∃ c u, b[i]? = some c ∧ v = .int ((UInt8.toNat c : Nat) : Int) u) (Fin { s₁ with heap := g }) b.size 0 [] news
section
variable {prog : Program} {w : World} {A : Around} {E : Value → Shared → Prop} {s : Shared} {h₀ : Heap} {L : Addr} {m : Str → Option Value} {env : Env}
theorem bytes_st {b : Array UInt8} {t : Tok} {I : Addr} : ∀ i (h h' : Heap) (o : Obj) (nw : List (Addr × Obj)), KBw.IsBytesIter h I b t i → h.get? I = some o → h'.get? I = some o → (∀ b o, h₀.get? b = some o → h'.get? b = some o) → News h₀ L h' nw → True → KBw.IsBytesIter h' I b t i :=
  fun i h h' o nw st e e' _ _ _ => by
    obtain ⟨o', q, r⟩ := st
    rw [e] at q
    cases q
    exact ⟨o, e', r⟩
theorem ListComp_B {elt iter : Expr} {x : Str} {px : Pos} {scope : Scope} {cl : List (Str × Addr)} {pos : Pos} {Q : Value → Shared → Prop} (_F₀ : Fr h₀ L s.heap m)
    (hclos : closureFor scope env = pure cl) (hcell : ∀ y ∈ scope.names, y.2 ≠ .cell) (hkind : scope.kind = .function)
    (hnames : ∀ y ∈ scope.names, y.2 = .local → scope.names.lookup y.1 = some .local) (hx : scope.names.lookup x = some .local)
    (h : wpAny (model prog w) A (eval iter env) (SrcB prog w A h₀ L m env elt x scope cl (fun s₂ => FinE h₀ L m s₂ Q)) E s)
    (hs : ∀ x, foldedSetIterable iter env x = pure x := by intro _; rfl) :
    wpAny (model prog w) A (eval (.ListComp elt [⟨.Name x px, iter, [], 0⟩] scope pos) env) Q E s := by
  rw [eval_ListComp]
  refine wpAny_comprehension_free (use := none) rfl hs hclos hkind hnames (wpAny_mono h (fun xv s₁ h₁ => ?_) fun _ _ e => e)
  obtain ⟨b, t, news, rfl, hh, F, N, hsz, R⟩ := h₁
  refine KBw.pyIter_bytes ?_
  have up : ∀ a o, s₁.heap.get? a = some o → (s₁.heap.push { cls := .type "bytes_iterator", data := .fields #[.bytes b t, .int 0 0] }).get? a = some o := fun a o e => Heap.get?_push_of_some _ e
  refine block_U (KBw.walks hh s₁.heap.objs.size b t) hsz (fun i h st => by obtain ⟨o, e, _⟩ := st; exact ⟨o, e⟩) bytes_st hcell hkind hx ⟨_, Heap.get?_push_size _ rfl, rfl, rfl⟩ (fun a ha => ?_)
    (F.keeps up) (N.grown up) (Nat.ne_of_lt F.ns.lt) (next_is_new F) (fun p hp => Nat.ne_of_lt (Heap.lt_size (N p hp).1)) trivial (R _) ?_
  · rw [List.mem_singleton.mp ha]
    show s₁.heap.objs.size < (s₁.heap.push _).objs.size
    rw [Heap.size_push]; exact Nat.lt_succ_self _
  · intro D C h tk m' ys news' F' N' o1 hn hC₀ hD₀ hCL hDL hCD offC fin
    refine ⟨m', hn, fun h'' hs'' => fin D h'' tk (F'.change hs'' hCL hC₀) (fun p hp => ?_) o1⟩
    refine ⟨hs''.extBut _ _ ?_ (N' p hp).1, (N' p hp).2⟩
    rcases List.mem_cons.mp hp with rfl | hp
    · exact Ne.symm hCD
    · exact offC p hp
theorem Assign_ListComp_B {elt iter : Expr} {x y : Str} {px py : Pos} {scope : Scope} {cl : List (Str × Addr)} {pos spos : Pos} {Q : Flow → Shared → Prop} (_F₀ : Fr h₀ L s.heap m) (hLe : env.locals = L)
    (hsw : swapsWith (.ListComp elt [⟨.Name x px, iter, [], 0⟩] scope pos) (some (.Name y py)) spos.line env = pure true)
    (hclos : closureFor scope env = pure cl) (hcell : ∀ z ∈ scope.names, z.2 ≠ .cell) (hkind : scope.kind = .function)
    (hnames : ∀ z ∈ scope.names, z.2 = .local → scope.names.lookup z.1 = some .local) (hx : scope.names.lookup x = some .local)
    (hy : env.kindOf y = some .local) (hp : (env.scope.kind == .class || (env.scope.kind == .module && env.locals != env.globals)) = false)
    (h : wpAny (model prog w) A (eval iter env) (SrcB prog w A h₀ L m env elt x scope cl (fun s₂ => FinA h₀ L m s₂ y Q)) E s)
    (hs : ∀ x, foldedSetIterable iter env x = pure x := by intro _; rfl) :
    wpAny (model prog w) A (exec (.Assign [.Name y py] (.ListComp elt [⟨.Name x px, iter, [], 0⟩] scope pos) spos) env) Q E s := by
  subst hLe
  rw [exec_Assign_Name_used _ _ _ _ hsw]
  refine wpAny_bind (wpAny_standAt (wpAny_bind ?_))
  show wpAny _ A (do let _ ← comprehension (.ListComp elt [⟨.Name x px, iter, [], 0⟩] scope pos) scope env _ (newList []) false (eval iter env) (some (assign (.Name y py) env))) _ _ s
  refine wpAny_bind (wpAny_mono (wpAny_comprehension_free (use := some (assign (.Name y py) env)) (Q := fun _ s' => Q .next s') rfl hs hclos hkind hnames
    (wpAny_mono h (fun xv s₁ h₁ => ?_) fun _ _ e => e)) (fun _ s' hq => wpAny_pure (wpAny_pure hq)) fun _ _ e => e)
  obtain ⟨b, t, news, rfl, hh, F, N, hsz, R⟩ := h₁
  refine KBw.pyIter_bytes ?_
  have up : ∀ a o, s₁.heap.get? a = some o → (s₁.heap.push { cls := .type "bytes_iterator", data := .fields #[.bytes b t, .int 0 0] }).get? a = some o := fun a o e => Heap.get?_push_of_some _ e
  refine block_U (KBw.walks hh s₁.heap.objs.size b t) hsz (fun i h st => by obtain ⟨o, e, _⟩ := st; exact ⟨o, e⟩) bytes_st hcell hkind hx ⟨_, Heap.get?_push_size _ rfl, rfl, rfl⟩ (fun a ha => ?_)
    (F.keeps up) (N.grown up) (Nat.ne_of_lt F.ns.lt) (next_is_new F) (fun p hp => Nat.ne_of_lt (Heap.lt_size (N p hp).1)) trivial (R _) ?_
  · rw [List.mem_singleton.mp ha]
    show s₁.heap.objs.size < (s₁.heap.push _).objs.size
    rw [Heap.size_push]; exact Nat.lt_succ_self _
  · intro D C h' tk m' ys news' F' N' o1 hn hC₀ hD₀ hCL hDL hCD offC fin
    show wpAny _ A (assign (.Name y py) env (.ref D)) _ _ _
    refine wpAny_assign_Name (wpAny_storeName_local hy F'.ns (fun h₂ hn₂ hs₂ => ?_) hp)
    have hL₀ : h₀.get? env.locals = none := Heap.get?_none_of_le F'.above
    have F₂ : Fr h₀ env.locals h₂ (fun z => if z = y then some (.ref D) else m z) := ⟨hn₂, fun b o e => hs₂.extBut b o (fun q => by rw [q, hL₀] at e; cases e) (F'.keep b o e), F'.above⟩
    refine ⟨m', hn.sameBut hs₂ hCL, fun h'' hs'' => fin D h'' _ (F₂.change hs'' hCL hC₀) (fun p hp => ?_) o1⟩
    have z : h₂.get? p.1 = some p.2 := hs₂.extBut _ _ (N' p hp).2.1 (N' p hp).1
    refine ⟨hs''.extBut _ _ ?_ z, (N' p hp).2⟩
    rcases List.mem_cons.mp hp with rfl | hp
    · exact Ne.symm hCD
    · exact offC p hp
theorem SrcB.mk {elt : Expr} {x : Str} {scope : Scope} {cl : List (Str × Addr)} {Fin : Shared → List Value → List (Addr × Obj) → Prop} {b : Array UInt8} {t : Tok} {news : List (Addr × Obj)} {s₁ : Shared} {ks : List Int} (g : Int → Str)
    (hh : A.handled = none) (F : Fr h₀ L s₁.heap m) (N : News h₀ L s₁.heap news) (hk : KBw.bInts b = ks) (hsz : ks.length ≤ 16777216)
    (turn : ∀ hp k t I oI C oC D m₂ ys h tk (E' : Value → Shared → Prop), k ∈ ks → NsObj oC m₂ → m₂ x = some (.int k t) → Fr h₀ L h m → News h₀ L h ((I, oI) :: (C, oC) :: (D, lst ys) :: news) → Off3 I C D news → ((@Ne Nat I C) ∧ (@Ne Nat I D) ∧ (@Ne Nat C D)) → KPfMark →
      wpAny (model prog w) A (eval elt (compEnvC scope cl C env)) (CompEnd h₀ L m { { s₁ with heap := hp } with heap := h, toks := tk } I oI C oC D (lst ys) (fun _ => True) (fun y news' => KCtEl news (g k) y news')) E' { { s₁ with heap := hp } with heap := h, toks := tk })
    (fin : ∀ hp ys, CarriedAll ys (ks.map fun k => PyData.str (g k)) → Fin { s₁ with heap := hp } ys news) : SrcB prog w A h₀ L m env elt x scope cl Fin (.bytes b t) s₁ := by
  have hl : ks.length = b.size := by rw [← hk, KBw.ints_length]
  refine ⟨b, t, news, rfl, hh, F, N, by rw [← hl, sizeLine_eq]; exact hsz, fun hp => ?_⟩
  refine kct_rest (ks := ks) g hl (fun i v hi hv => ?_) (turn hp) (fun ys hc _ => fin hp ys hc)
  obtain ⟨c, u, hc, rfl⟩ := hv
  refine ⟨_, u, ?_, rfl⟩
  rw [← hk]
  exact KBw.ints_get hc
theorem srcI_mk {elt : Expr} {x : Str} {scope : Scope} {cl : List (Str × Addr)} {Fin : Shared → List Value → List (Addr × Obj) → Prop} {ax : Addr} {vs : List Value} {cnt : Nat} {news : List (Addr × Obj)} {s₁ : Shared} {ns : List Int} (g : Int → Int)
    (hh : A.handled = none) (F : Fr h₀ L s₁.heap m) (N : News h₀ L s₁.heap news) (hm : (ax, W.listOf vs.toArray cnt) ∈ news) (hi : IntsAre vs ns) (hsz : ns.length ≤ 1000)
    (turn : ∀ hp k t I oI C oC D m₂ ys h tk (E' : Value → Shared → Prop), k ∈ ns → NsObj oC m₂ → m₂ x = some (.int k t) → Fr h₀ L h m → News h₀ L h ((I, oI) :: (C, oC) :: (D, lst ys) :: news) → Off3 I C D news → ((@Ne Nat I C) ∧ (@Ne Nat I D) ∧ (@Ne Nat C D)) →
      wpAny (model prog w) A (eval elt (compEnvC scope cl C env)) (CompEnd h₀ L m { { s₁ with heap := hp } with heap := h, toks := tk } I oI C oC D (lst ys) (SrcAt h₀ ax vs.toArray) (fun y news' => KCfEl news (g k) y news')) E' { { s₁ with heap := hp } with heap := h, toks := tk })
    (fin : ∀ hp ys, IntsAre ys (ns.map g) → Fin { s₁ with heap := hp } ys news) : CompSrc prog w A h₀ L m env elt x scope cl Fin (.ref ax) s₁ := by
  refine CompSrc.ledger hh F N hm (by rw [List.size_toArray, hi.length, sizeLine_eq]; omega) fun hp => ?_
  exact kcf_list g hi (fun k t I oI C oC D m₂ ys h tk E' hk hC hx F' N' off ne _ => turn hp k t I oI C oC D m₂ ys h tk E' hk hC hx F' N' off ne) (fun ys hc => fin hp ys hc)
end
/-! a comprehension over a list of texts, with a test, whose element is an int -/
section
variable {prog : Program} {w : World} {A : Around} {s : Shared} {h₀ : Heap} {L : Addr} {m : Str → Option Value} {env : Env} {ct elt : Expr} {x : Str} {scope : Scope} {cl : List (Str × Addr)} {S : List (Addr × Obj) → Prop} {P : Nat → Value → Prop} {Fin : List Value → List (Addr × Obj) → Prop} {news : List (Addr × Obj)}
noncomputable def TestAt (prog : Program) (w : World) (A : Around) (h₀ : Heap) (L : Addr) (m : Str → Option Value) (env : Env) (ct elt : Expr) (x : Str) (scope : Scope) (cl : List (Str × Addr)) (s : Shared) (S : List (Addr × Obj) → Prop) (news : List (Addr × Obj)) (us : List Str) (keep : Str → Bool) (f : Str → Int) : Prop :=
  ∀ u t I oI C oC D m₂ ys h tk (E' : Value → Shared → Prop), u ∈ us → NsObj oC m₂ → m₂ x = some (.str u t) → Fr h₀ L h m → News h₀ L h ((I, oI) :: (C, oC) :: (D, lst ys) :: news) → Off3 I C D news →
    wpAny (model prog w) A (isTrue ct (compEnvC scope cl C env) (eval ct (compEnvC scope cl C env))) (fun ok s' => if ok = true then
      wpAny (model prog w) A (eval elt (compEnvC scope cl C env)) (CompEnd h₀ L m { s with heap := h, toks := tk } I oI C oC D (lst ys) S (fun y news' => news' = news ∧ keep u = true ∧ ∃ t, y = .int (f u) t)) E' s'
      else CompEnd h₀ L m { s with heap := h, toks := tk } I oI C oC D (lst ys) S (fun _ news' => news' = news ∧ keep u = false) Value.none s') E' { s with heap := h, toks := tk }
theorem CompEnd.imp {s₁ : Shared} {I C D : Addr} {oI oC oD : Obj} {rest rest' : Value → List (Addr × Obj) → Prop} {y : Value} {s₂ : Shared} (h : CompEnd h₀ L m s₁ I oI C oC D oD S rest y s₂) (k : ∀ n, rest y n → rest' y n) : CompEnd h₀ L m s₁ I oI C oC D oD S rest' y s₂ := by
  obtain ⟨h', tk, news', e, F, N, o, hS, r⟩ := h
  exact ⟨h', tk, news', e, F, N, o, hS, k _ r⟩
theorem cmt_rest {n : Nat} {us : List Str} (keep : Str → Bool) (f : Str → Int) (hus : us.length = n) (hP : ∀ i v, i < n → P i v → ∃ u t, us[i]? = some u ∧ v = .str u t)
    (turn : TestAt prog w A h₀ L m env ct elt x scope cl s S news us keep f)
    (fin : ∀ ys, IntsAre ys ((us.filter keep).map f) → Fin ys news) : LCt.CompRestT prog w A h₀ L m env ct elt x scope cl s S P Fin n 0 [] news := by
  have key : ∀ (j i : Nat) (ys : List Value), i + j = n → IntsAre ys (((us.take i).filter keep).map f) → LCt.CompRestT prog w A h₀ L m env ct elt x scope cl s S P Fin j i ys news := by
    intro j
    induction j with
    | zero =>
      intro i ys hi hy
      have e : i = us.length := by omega
      subst e
      rw [List.take_length] at hy
      exact LCt.CompRestT.zero (fin ys hy)
    | succ j ih =>
      intro i ys hi hy
      refine LCt.CompRestT.succ ?_
      intro v I oI C oC D m₂ h tk E' hv hC hx F N off _
      obtain ⟨u, t, hu, rfl⟩ := hP i v (by omega) hv
      have et : us.take (i + 1) = us.take i ++ [u] := by rw [List.take_add_one, hu]; rfl
      refine wpAny_mono (turn u t I oI C oC D m₂ ys h tk E' (List.mem_of_getElem? hu) hC hx F N off) (fun ok s₂ hq => ?_) fun _ _ e => e
      cases ok with
      | true =>
        rw [if_pos rfl] at hq ⊢
        refine wpAny_mono hq (fun y s₃ he => ?_) fun _ _ e => e
        refine CompEnd.imp he fun nn hn => ?_
        obtain ⟨rfl, hk, t', rfl⟩ := hn
        refine ih (i + 1) _ (by omega) ?_
        rw [et, List.filter_append, List.filter_cons_of_pos hk, List.filter_nil, List.map_append]
        exact IntsAre.append hy (.cons _ _ .nil)
      | false =>
        rw [if_neg (by decide)] at hq ⊢
        refine CompEnd.imp hq fun nn hn => ?_
        obtain ⟨rfl, hk⟩ := hn
        refine ih (i + 1) _ (by omega) ?_
        rw [et, List.filter_append, List.filter_cons_of_neg (by rw [hk]; decide), List.filter_nil, List.append_nil]
        exact hy
  exact key n 0 [] (by omega) (by simpa using IntsAre.nil)
theorem srcT_mk {Fin : Shared → List Value → List (Addr × Obj) → Prop} {ax : Addr} {vs : List Value} {cnt : Nat} {s₁ : Shared} {us : List Str} (keep : Str → Bool) (f : Str → Int)
    (hh : A.handled = none) (F : Fr h₀ L s₁.heap m) (N : News h₀ L s₁.heap news) (hm : (ax, W.listOf vs.toArray cnt) ∈ news) (hi : StrsAre vs us) (hsz : us.length ≤ 1000)
    (turn : ∀ hp, TestAt prog w A h₀ L m env ct elt x scope cl { s₁ with heap := hp } (SrcAt h₀ ax vs.toArray) news us keep f)
    (fin : ∀ hp ys, IntsAre ys ((us.filter keep).map f) → Fin { s₁ with heap := hp } ys news) : LCt.CompSrcT prog w A h₀ L m env ct elt x scope cl Fin (.ref ax) s₁ := by
  refine LCt.CompSrcT.ledger hh F N hm (by rw [List.size_toArray, hi.len_eq, sizeLine_eq]; omega) fun hp => ?_
  exact cmt_rest keep f (by rw [List.size_toArray, hi.len_eq]) (fun i v _ hv => by
    obtain ⟨u, t, e, hu⟩ := hi.item i v (by simpa using hv)
    exact ⟨u, t, hu, e⟩) (turn hp) (fun ys hy => fin hp ys hy)
end
end Mine
end
section
open PySem PySem.Spec PySem.Calls PySem.W PyProof.Rows PyProof.Rows.LCg
set_option maxRecDepth 100000
set_option maxHeartbeats 0
namespace Mine
/-! a list comprehension of two clauses without tests -/
noncomputable abbrev two (elt t0 i0 t1 i1 : Expr) (scope : Scope) (pos : Pos) : Expr := .ListComp elt [⟨t0, i0, [], 0⟩, ⟨t1, i1, [], 0⟩] scope pos
theorem turn_two0 (elt t0 i0 t1 i1 : Expr) (scope : Scope) (pos : Pos) (it acc : Value) (env : Env) :
    compTurn (two elt t0 i0 t1 i1 scope pos) 0 it acc env = (standAt i0.pos >>= fun _ => pyNext it >>= fun r => match r with
      | none => pure (.done .next)
      | some v => letOwnedTupleGo t0 it v >>= fun _ => assign t0 env v >>= fun _ =>
        eval i1 env >>= fun x => standAt i1.pos >>= fun _ => foldedSetIterable i1 env x >>= fun x => holding [x] (pyIter x) >>= fun it1 => runOwn (.compStart (two elt t0 i0 t1 i1 scope pos) 1 it1 acc env) env >>= fun _ =>
          again (.compLoop (two elt t0 i0 t1 i1 scope pos) 0 it acc env)) := by
  unfold compTurn
  simp only [List.getElem?_cons_zero, List.getElem?_cons_succ, Nat.zero_add, bne_self_eq_false, Bool.false_eq_true, if_false, List.forIn_nil, if_true, pure_bind]
  rfl
theorem turn_two1 (elt t0 i0 t1 i1 : Expr) (scope : Scope) (pos : Pos) (it acc : Value) (env : Env) :
    compTurn (two elt t0 i0 t1 i1 scope pos) 1 it acc env = (standAt i1.pos >>= fun _ => pyNext it >>= fun r => match r with
      | none => pure (.done .next)
      | some v => letOwnedTupleGo t1 it v >>= fun _ => assign t1 env v >>= fun _ =>
        (eval elt env >>= fun x => call (.builtin "list.append") [acc, x] >>= fun _ => pure ()) >>= fun _ =>
          again (.compLoop (two elt t0 i0 t1 i1 scope pos) 1 it acc env)) := by rfl
section
variable {prog : Program} {w : World} {A : Around} {E : Value → Shared → Prop} {R : Result → Shared → Prop} {s : Shared} {elt t0 i0 t1 i1 : Expr} {scope : Scope} {pos : Pos} {it acc : Value} {env : Env}
theorem loop_in1 (I : Nat → Shared → Prop)
    (turn : ∀ n s, I n s → ∀ E', wpAny (model prog w) A (pyNext it) (fun r s₁ => match r with
      | none => R (.ok .next) s₁
      | some v => wpAny (model prog w) A (assign t1 env v) (fun _ s₂ => wpAny (model prog w) A (eval elt env) (fun x s₃ =>
          wpAny (model prog w) A (call (.builtin "list.append") [acc, x]) (fun _ s₄ => ∃ m, m < n ∧ I m s₄) E' s₃) E' s₂) E' s₁) E' s)
    (n : Nat) (h : I n s) (ht : ∀ v, letOwnedTupleGo t1 it v = pure ()) : codeAny (model prog w) A (.compLoop (two elt t0 i0 t1 i1 scope pos) 1 it acc env) R s := by
  refine codeAny_loop rfl I (fun n s hI => ?_) n h
  show wpAny _ _ ((compTurn (two elt t0 i0 t1 i1 scope pos) 1 it acc env).onRaise (fun x => do noteFrame x env; theTreesLotGoes x)) _ _ s
  refine wpAny_noted ?_
  rw [turn_two1]
  refine wpAny_bind (wpAny_standAt (wpAny_bind (wpAny_mono (turn n s hI _) (fun r s₁ h₁ => ?_) fun _ _ h' => h')))
  cases r with
  | none => exact wpAny_pure h₁
  | some v =>
    refine wpAny_bind (wpAny_of_eq (ht v) ?_)
    exact wpAny_bind (wpAny_mono h₁ (fun _ s₂ h₂ => wpAny_bind (wpAny_bind (wpAny_mono h₂ (fun x s₃ h₃ => wpAny_bind (wpAny_mono h₃
      (fun _ s₄ h₄ => wpAny_pure (wpAny_pure ⟨rfl, h₄⟩)) fun _ _ h' => h')) fun _ _ h' => h'))) fun _ _ h' => h')
theorem start_in1 (h0 : codeAny (model prog w) A (.compLoop (two elt t0 i0 t1 i1 scope pos) 1 it acc env) R s)
    (h : ∀ E', wpAny (model prog w) A (pyIter it) (fun it' s' => codeAny (model prog w) A (.compLoop (two elt t0 i0 t1 i1 scope pos) 1 it' acc env) R s') E' s) :
    codeAny (model prog w) A (.compStart (two elt t0 i0 t1 i1 scope pos) 1 it acc env) R s := by
  refine codeAny_of_tree ?_
  show wpAny _ _ ((compStart (two elt t0 i0 t1 i1 scope pos) 1 it acc env).onRaise (fun x => do noteFrame x env; standAt theWindowsPlace)) _ _ s
  refine wpAny_notedAt ?_
  unfold compStart
  show wpAny _ _ (ask >>= _) _ _ s
  refine wpAny_bind (wpAny_askSetting (wpAny_ite ?_))
  split
  · first
      | exact wpAny_bind (wpAny_pure (wpAny_pure (And.intro rfl h0)))
      | exact wpAny_pure (And.intro rfl h0)
  · first
      | exact wpAny_bind (wpAny_rule (wpAny_bind (wpAny_standAt (wpAny_bind (wpAny_mono (h _) (fun it' s' h' => wpAny_pure (And.intro rfl h')) fun _ _ x => x)))))
      | (refine wpAny_bind (wpAny_rule ?_); show wpAny _ _ (standAt i1.pos >>= _) _ _ s; exact wpAny_bind (wpAny_standAt (wpAny_bind (wpAny_mono (h _) (fun it' s' h' => wpAny_pure (And.intro rfl h')) fun _ _ x => x))))
theorem loop_in0 (I : Nat → Shared → Prop)
    (turn : ∀ n s, I n s → ∀ E', wpAny (model prog w) A (pyNext it) (fun r s₁ => match r with
      | none => R (.ok .next) s₁
      | some v => wpAny (model prog w) A (assign t0 env v) (fun _ s₂ => wpAny (model prog w) A (eval i1 env) (fun x s₃ =>
          wpAny (model prog w) A (pyIter x) (fun it1 s₄ => ∀ E₂ : Value → Shared → Prop, codeAny (model prog w) A (.compStart (two elt t0 i0 t1 i1 scope pos) 1 it1 acc env) (fun r s₅ => match r with | .ok _ => ∃ m, m < n ∧ I m s₅ | .error e => E₂ e s₅) s₄) E' s₃) E' s₂) E' s₁) E' s)
    (n : Nat) (h : I n s) (ht : ∀ v, letOwnedTupleGo t0 it v = pure ()) (hf : ∀ x, foldedSetIterable i1 env x = pure x) : codeAny (model prog w) A (.compLoop (two elt t0 i0 t1 i1 scope pos) 0 it acc env) R s := by
  refine codeAny_loop rfl I (fun n s hI => ?_) n h
  show wpAny _ _ ((compTurn (two elt t0 i0 t1 i1 scope pos) 0 it acc env).onRaise (fun x => do noteFrame x env; theTreesLotGoes x)) _ _ s
  refine wpAny_noted ?_
  rw [turn_two0]
  refine wpAny_bind (wpAny_standAt (wpAny_bind (wpAny_mono (turn n s hI _) (fun r s₁ h₁ => ?_) fun _ _ h' => h')))
  cases r with
  | none => exact wpAny_pure h₁
  | some v =>
    refine wpAny_bind (wpAny_of_eq (ht v) ?_)
    refine wpAny_bind (wpAny_mono h₁ (fun _ s₂ h₂ => wpAny_bind (wpAny_mono h₂ (fun x s₃ h₃ => wpAny_bind (wpAny_standAt (wpAny_bind (wpAny_of_eq (hf x) (wpAny_bind (wpAny_holding (wpAny_mono h₃
      (fun it1 s₄ h₄ => wpAny_bind (wpAny_runOwn (codeAny_mono (h₄ (fun e s' => cameBackBy (model prog w) A env (notedBy (model prog w) A env fun e s' => R (.error e) s') e s')) (fun r s₅ h₅ => ?_)))) fun _ _ h' => h'))))))) fun _ _ h' => h')) fun _ _ h' => h')
    cases r with
    | ok f => exact wpAny_pure ⟨rfl, h₅⟩
    | error e => exact h₅
end
section
variable {prog : Program} {w : World} {A : Around} {E : Value → Shared → Prop} {R : Result → Shared → Prop} {s : Shared} {h₀ : Heap} {L : Addr} {m : Str → Option Value} {env : Env} {elt i0 i1 : Expr} {x0 x1 : Str} {p0 p1 : Pos} {scope : Scope} {cl : List (Str × Addr)} {pos : Pos} {C D I1 : Addr} {rest : List (Addr × Obj)}
/-- what the element gives, in a turn of the inner loop -/
noncomputable def EltAt (prog : Program) (w : World) (A : Around) (h₀ : Heap) (L : Addr) (m : Str → Option Value) (env : Env) (elt : Expr) (x0 x1 : Str) (scope : Scope) (cl : List (Str × Addr)) (s : Shared) (C D I1 : Addr) (rest : List (Addr × Obj)) (v0 : Value) (g : Int → Int) : Prop :=
  ∀ k t o1 oC m₃ ys h tk (E' : Value → Shared → Prop), 0 ≤ k → k < 8 → NsObj oC m₃ → m₃ x0 = some v0 → m₃ x1 = some (.int k t) → Fr h₀ L h m → News h₀ L h ((I1, o1) :: (C, oC) :: (D, lst ys) :: rest) →
    wpAny (model prog w) A (eval elt (compEnvC scope cl C env)) (fun y s' => ∃ h' tk' t', s' = { s with heap := h', toks := tk' } ∧ y = .int (g k) t' ∧ Fr h₀ L h' m ∧ News h₀ L h' ((I1, o1) :: (C, oC) :: (D, lst ys) :: rest)) E' { s with heap := h, toks := tk }
theorem inner8 {v0 : Value} {g : Int → Int} {m₂ : Str → Option Value} {ys0 : List Value} {zs : List Int} {h0 : Heap} {tk0 : Nat} (hh : A.handled = none) (hkind : scope.kind = .function) (hx1 : scope.names.lookup x1 = some .local) (hne : x0 ≠ x1)
    (hIt : IsRangeIter h0 I1 0 8 1) (F : Fr h₀ L h0 m) (hn : h0.Ns C m₂) (hm : m₂ x0 = some v0) (N : News h₀ L h0 ((D, lst ys0) :: rest)) (hI : IntsAre ys0 zs) (hz : zs.length ≤ 1000)
    (hCD : C ≠ D) (hCL : C ≠ L) (hC₀ : h₀.get? C = none) (off : ∀ p ∈ rest, p.1 ≠ C ∧ p.1 ≠ D ∧ p.1 ≠ I1) (hIC : I1 ≠ C) (hID : I1 ≠ D) (hIL : I1 ≠ L) (hI₀ : h₀.get? I1 = none)
    (helt : EltAt prog w A h₀ L m env elt x0 x1 scope cl s C D I1 rest v0 g)
    (hR : ∀ h' tk' m₃ ys, Fr h₀ L h' m → h'.Ns C m₃ → News h₀ L h' ((D, lst ys) :: rest) → IntsAre ys (zs ++ (rangeKs 0 8).map g) → R (.ok .next) { s with heap := h', toks := tk' }) :
    codeAny (model prog w) A (.compLoop (two elt (.Name x0 p0) i0 (.Name x1 p1) i1 scope pos) 1 (.ref I1) (.ref D) (compEnvC scope cl C env)) R { s with heap := h0, toks := tk0 } := by
  have hD := (N (D, lst ys0) (.head _)).2
  have W := range_walks (prog := prog) (w := w) (I := I1) hh 0 8
  refine loop_in1 (fun k s' => ∃ h' tk j ys m₃, s' = { s with heap := h', toks := tk } ∧ j ≤ 8 ∧ k = 9 - j ∧ IsRangeIter h' I1 (0 + (j : Nat) * 1) (((8 : Nat) : Int) - (j : Nat)) 1 ∧ Fr h₀ L h' m ∧ h'.Ns C m₃ ∧ m₃ x0 = some v0 ∧ News h₀ L h' ((D, lst ys) :: rest) ∧ IntsAre ys (zs ++ (rangeKs 0 j).map g))
    ?_ 9 ⟨h0, tk0, 0, ys0, m₂, rfl, by decide, rfl, hIt, F, hn, hm, N, by simpa [rangeKs] using hI⟩ (fun _ => rfl)
  rintro k s' ⟨h', tk, j, ys, m₃, rfl, hj, rfl, st, F', hn', hm', N', hIA⟩ E'
  have hlen : ys.length = zs.length + j := by rw [hIA.length, List.length_append, List.length_map, rangeKs_length]
  by_cases hlt : j < 8
  · refine W.item j _ _ _ hlt st fun v h₂ tk₂ hPv st₂ hk₂ => ?_
    obtain ⟨t, rfl⟩ := hPv
    refine wpAny_assign_Name (wpAny_storeName_local (lookup_relabel_local hx1) (hn'.at' fun o e => hk₂ _ o (by simpa using Ne.symm hIC) e) (fun h₃ hn₃ hs₃ => ?_) (by simp [compEnvC, relabel, hkind]))
    have st₃ : IsRangeIter h₃ I1 (0 + ((j + 1 : Nat) : Int) * 1) (((8 : Nat) : Int) - ((j + 1 : Nat) : Int)) 1 := W.frame _ _ _ st₂ fun b hb o e => hs₃.extBut b o (fun q => hIC (by rw [← List.mem_singleton.mp hb]; exact q)) e
    obtain ⟨o1, e1⟩ : ∃ o, h₃.get? I1 = some o := ⟨_, st₃⟩
    obtain ⟨oC, eC, hoC⟩ := ns_obj hn₃
    have F₃ : Fr h₀ L h₃ m := (fr_but F' hk₂ (Ne.symm hIL) hI₀).change hs₃ hCL hC₀
    have N₂ : News h₀ L h₂ ((D, lst ys) :: rest) := news_but N' hk₂ fun p hp => by
      rcases List.mem_cons.mp hp with rfl | hp
      · exact Ne.symm hID
      · exact (off p hp).2.2
    have N₃ : News h₀ L h₃ ((I1, o1) :: (C, oC) :: (D, lst ys) :: rest) := fun p hp => by
      rcases List.mem_cons.mp hp with rfl | hp
      · exact ⟨e1, hIL, hI₀⟩
      · rcases List.mem_cons.mp hp with rfl | hp
        · exact ⟨eC, hCL, hC₀⟩
        · have z := N₂ p hp
          refine ⟨hs₃.extBut _ _ ?_ z.1, z.2⟩
          rcases List.mem_cons.mp hp with rfl | hp
          · exact Ne.symm hCD
          · exact (off p hp).1
    refine wpAny_mono (helt (0 + (j : Int)) t o1 oC _ ys h₃ _ E' (by omega) (by omega) hoC (by simp [hne, hm']) (by simp) F₃ N₃) (fun y s₄ h₄ => ?_) fun _ _ e => e
    obtain ⟨h₄, tk₄, t', rfl, rfl, F₄, N₄⟩ := h₄
    have z1 := (N₄ (I1, o1) List.mem_cons_self).1
    have zC := (N₄ (C, oC) (List.mem_cons_of_mem _ List.mem_cons_self)).1
    have zD := (N₄ (D, lst ys) (List.mem_cons_of_mem _ (List.mem_cons_of_mem _ List.mem_cons_self))).1
    refine append_at (hsz := by show ys.toArray.size ≤ sizeLine; rw [List.size_toArray, hlen, sizeLine_eq]; omega) zD fun h₅ hs₅ hD₅ => ?_
    refine ⟨9 - (j + 1), by omega, h₅, tk₄, j + 1, ys ++ [.int (g (0 + (j : Int))) t'], _, rfl, hlt, rfl, ?_, F₄.change hs₅ hD.1 hD.2, (hoC.ns zC).sameBut hs₅ hCD, by simp [hne, hm'], fun p hp => ?_, ?_⟩
    · have e : h₄.get? I1 = h₃.get? I1 := by rw [z1, e1]
      have st₄ : IsRangeIter h₄ I1 (0 + ((j + 1 : Nat) : Int) * 1) (((8 : Nat) : Int) - ((j + 1 : Nat) : Int)) 1 := by
        show h₄.get? I1 = _
        rw [e]
        exact st₃
      exact W.frame _ _ _ st₄ fun b hb o e => hs₅.extBut b o (fun q => hID (by rw [← List.mem_singleton.mp hb]; exact q)) e
    · rcases List.mem_cons.mp hp with rfl | hp
      · exact ⟨hD₅.trans (congrArg some (lst_snoc ys _)), hD⟩
      · have z := N₄ p (List.mem_cons_of_mem _ (List.mem_cons_of_mem _ (List.mem_cons_of_mem _ hp)))
        exact ⟨hs₅.extBut _ _ (off p hp).2.1 z.1, z.2⟩
    · have e : (rangeKs 0 (j + 1)).map g = (rangeKs 0 j).map g ++ [g (0 + (j : Int))] := by simp [rangeKs, List.range_succ]
      rw [e, ← List.append_assoc]
      exact IntsAre.append hIA (.cons _ _ .nil)
  · obtain rfl : j = 8 := Nat.le_antisymm hj (Nat.not_lt.mp hlt)
    refine W.done _ _ _ st fun h₂ tk₂ hk₂ => ?_
    refine hR h₂ tk₂ m₃ ys (fr_but F' hk₂ (Ne.symm hIL) hI₀) (hn'.at' fun o e => hk₂ _ o (by simpa using Ne.symm hIC) e) (news_but N' hk₂ fun p hp => ?_) hIA
    rcases List.mem_cons.mp hp with rfl | hp
    · exact Ne.symm hID
    · exact (off p hp).2.2
end
section
variable {prog : Program} {w : World} {A : Around} {E : Value → Shared → Prop} {R : Result → Shared → Prop} {s : Shared} {h₀ : Heap} {L : Addr} {m : Str → Option Value} {env : Env} {elt i0 i1 : Expr} {x0 x1 : Str} {p0 p1 : Pos} {scope : Scope} {cl : List (Str × Addr)} {pos : Pos}
noncomputable def flat8 (g : Int → Int → Int) (ns : List Int) : List Int := ns.flatMap fun n => (rangeKs 0 8).map (g n)
theorem flat8_len (g : Int → Int → Int) (ns : List Int) : (flat8 g ns).length = 8 * ns.length := by
  induction ns with
  | nil => rfl
  | cons n r ih => simp only [flat8, List.flatMap_cons, List.length_append, List.length_map, rangeKs_length, List.length_cons] at ih ⊢; omega
/-- what the second clause's source gives: a range of 8 -/
noncomputable def RngAt (prog : Program) (w : World) (A : Around) (h₀ : Heap) (L : Addr) (m : Str → Option Value) (env : Env) (i1 : Expr) (scope : Scope) (cl : List (Str × Addr)) (s : Shared) (news : List (Addr × Obj)) : Prop :=
  ∀ I oI C oC m₃ D ys h tk (E' : Value → Shared → Prop), NsObj oC m₃ → Fr h₀ L h m → News h₀ L h ((I, oI) :: (C, oC) :: (D, lst ys) :: news) →
    wpAny (model prog w) A (eval i1 (compEnvC scope cl C env)) (fun xv s' => ∃ r h' tk' t u v, s' = { s with heap := h', toks := tk' } ∧ xv = .ref r ∧ IsRange h' r 0 8 1 t u v ∧ Fr h₀ L h' m ∧ News h₀ L h' ((I, oI) :: (C, oC) :: (D, lst ys) :: news)) E' { s with heap := h, toks := tk }
noncomputable def Src2 (prog : Program) (w : World) (A : Around) (h₀ : Heap) (L : Addr) (m : Str → Option Value) (env : Env) (elt i1 : Expr) (x0 x1 : Str) (scope : Scope) (cl : List (Str × Addr)) (Fin : Shared → List Value → List (Addr × Obj) → Prop) (xv : Value) (s₁ : Shared) : Prop :=
  ∃ (g : Int → Int → Int) (ax : Addr) (vs : List Value) (ns : List Int) (cnt : Nat) (news : List (Addr × Obj)), xv = .ref ax ∧ A.handled = none ∧ Fr h₀ L s₁.heap m ∧ News h₀ L s₁.heap news ∧ (ax, listOf vs.toArray cnt) ∈ news ∧ IntsAre vs ns ∧ ns.length ≤ 100 ∧
    RngAt prog w A h₀ L m env i1 scope cl s₁ news ∧
    (∀ C D I1 I oI n t, n ∈ ns → (∀ p ∈ news, p.1 ≠ C ∧ p.1 ≠ D ∧ p.1 ≠ I1 ∧ p.1 ≠ I) → EltAt prog w A h₀ L m env elt x0 x1 scope cl s₁ C D I1 ((I, oI) :: news) (.int n t) (g n)) ∧
    (∀ h ys, IntsAre ys (flat8 g ns) → Fin { s₁ with heap := h } ys news)
theorem Assign_two {y : Str} {py : Pos} {spos : Pos} {Q : Flow → Shared → Prop} (_F₀ : Fr h₀ L s.heap m) (hLe : env.locals = L) (hne : x0 ≠ x1)
    (hsw : swapsWith (two elt (.Name x0 p0) i0 (.Name x1 p1) i1 scope pos) (some (.Name y py)) spos.line env = pure true)
    (hclos : closureFor scope env = pure cl) (hcell : ∀ z ∈ scope.names, z.2 ≠ .cell) (hkind : scope.kind = .function)
    (hnames : ∀ z ∈ scope.names, z.2 = .local → scope.names.lookup z.1 = some .local) (hx0 : scope.names.lookup x0 = some .local) (hx1 : scope.names.lookup x1 = some .local)
    (hy : env.kindOf y = some .local) (hp : (env.scope.kind == .class || (env.scope.kind == .module && env.locals != env.globals)) = false)
    (h : wpAny (model prog w) A (eval i0 env) (Src2 prog w A h₀ L m env elt i1 x0 x1 scope cl (fun s₂ => FinA h₀ L m s₂ y Q)) E s)
    (hs : ∀ x, foldedSetIterable i0 env x = pure x := by intro _; rfl) (hf : ∀ C x, foldedSetIterable i1 (compEnvC scope cl C env) x = pure x := by intro _ _; rfl) :
    wpAny (model prog w) A (exec (.Assign [.Name y py] (two elt (.Name x0 p0) i0 (.Name x1 p1) i1 scope pos) spos) env) Q E s := by
  subst hLe
  rw [exec_Assign_Name_used _ _ _ _ hsw]
  refine wpAny_bind (wpAny_standAt (wpAny_bind ?_))
  show wpAny _ A (do let _ ← comprehension (two elt (.Name x0 p0) i0 (.Name x1 p1) i1 scope pos) scope env _ (newList []) false (eval i0 env) (some (assign (.Name y py) env))) _ _ s
  refine wpAny_bind (wpAny_mono (wpAny_comprehension_free (use := some (assign (.Name y py) env)) (Q := fun _ s' => Q .next s') rfl hs hclos hkind hnames
    (wpAny_mono h (fun xv s₁ h₁ => ?_) fun _ _ e => e)) (fun _ s' hq => wpAny_pure (wpAny_pure hq)) fun _ _ e => e)
  obtain ⟨g, ax, vs, ns, cnt, news, rfl, hh, F, N, hax, hi, hnl, hrg, helt, hfin⟩ := h₁
  have hl : s₁.heap.IsList ax vs.toArray := ⟨_, (N _ hax).1, rfl, cnt, rfl⟩
  have hlt : ax < s₁.heap.objs.size := Heap.lt_size (N _ hax).1
  have hvl : vs.toArray.size = ns.length := by rw [List.size_toArray, hi.length]
  refine wpAny_pyIter_list hl ?_
  have up : ∀ b o, s₁.heap.get? b = some o → (s₁.heap.push { cls := .type "list_iterator", data := .fields #[.ref ax, .int 0 0] }).get? b = some o := fun b o e => Heap.get?_push_of_some _ e
  generalize hI : s₁.heap.objs.size = I at *
  have hIs : (s₁.heap.push { cls := .type "list_iterator", data := .fields #[.ref ax, .int 0 0] }).get? I = some { cls := .type "list_iterator", data := .fields #[.ref ax, .int 0 0] } := hI ▸ Heap.get?_push_size _ rfl
  have hIL : I ≠ env.locals := hI ▸ Nat.ne_of_gt F.ns.lt
  have hI₀ : h₀.get? I = none := hI ▸ next_is_new F
  have offI : ∀ p ∈ news, p.1 ≠ I := fun p hp => hI ▸ Nat.ne_of_lt (Heap.lt_size (N p hp).1)
  have F1 := F.keeps up
  have N1 : News h₀ env.locals _ news := N.grown up
  have hl1 := hl.push { cls := .type "list_iterator", data := .fields #[.ref ax, .int 0 0] }
  have hIsz : I < (s₁.heap.push { cls := .type "list_iterator", data := .fields #[.ref ax, .int 0 0] }).objs.size := Heap.lt_size hIs
  generalize s₁.heap.push { cls := .type "list_iterator", data := .fields #[.ref ax, .int 0 0] } = hp1 at *
  refine wpAny_newObj_type (wpAny_newFunctionEnv hcell (by intro y hy; simp at hy) (fun h₁ hns₁ hsb₁ => ?_) hkind)
  dsimp only at hns₁ hsb₁ ⊢
  generalize hH2 : hp1.push { cls := .type "list", dict := none, data := .seq ([] : List Value).toArray } = H2 at hns₁ hsb₁ ⊢
  have hC : H2.objs.size = hp1.objs.size + 1 := by rw [← hH2, Heap.size_push]
  generalize hCd : H2.objs.size = C at *
  generalize hDd : hp1.objs.size = D at *
  have hCD : C ≠ D := by rw [hC]; exact Nat.succ_ne_self _
  have below : ∀ b, b < D → b ≠ C ∧ b ≠ D := fun b hb => ⟨by rw [hC]; exact Nat.ne_of_lt (Nat.lt_succ_of_lt hb), Nat.ne_of_lt hb⟩
  have old : ∀ b o, hp1.get? b = some o → h₁.get? b = some o := fun b o e => hsb₁.extBut b o (below b (hDd ▸ Heap.lt_size e)).1 (Heap.get?_push_of_some _ (hH2 ▸ Heap.get?_push_of_some _ e))
  have hacc : h₁.get? D = some (lst []) := hsb₁.extBut _ _ (Ne.symm hCD) (by rw [← hDd]; exact Heap.get?_push_of_some _ (hH2 ▸ Heap.get?_push_size _ rfl))
  have fresh₀ : ∀ a, D ≤ a → h₀.get? a = none := fun a ha => by
    cases e : h₀.get? a with
    | none => rfl
    | some o' => exact absurd (Heap.lt_size (F1.keep a o' e)) (Nat.not_lt.mpr (hDd ▸ ha))
  have hD₀ : h₀.get? D = none := fresh₀ _ (Nat.le_refl _)
  have hC₀ : h₀.get? C = none := fresh₀ _ (by rw [hC]; exact Nat.le_succ _)
  have hLlt : env.locals < D := hDd ▸ F1.ns.lt
  have hDL : D ≠ env.locals := Ne.symm (below _ hLlt).2
  have hCL : C ≠ env.locals := Ne.symm (below _ hLlt).1
  have hIC : I ≠ C := (below I hIsz).1
  have hID : I ≠ D := (below I hIsz).2
  have offCD : ∀ p ∈ news, p.1 ≠ C ∧ p.1 ≠ D := fun p hp => below _ (hDd ▸ Heap.lt_size (N1 p hp).1)
  have W := Walks.list (prog := prog) (w := w) hh I ax (fun e => offI _ hax e) vs.toArray
  have hst₁ : h₁.IsListIter I ax 0 ∧ h₁.IsList ax vs.toArray := ⟨⟨_, old _ _ hIs, rfl, rfl⟩, hl1.at fun o e => old _ _ e⟩
  have loop : ∀ s₃ : Shared, s₃ = { s₁ with heap := h₁, toks := s₁.toks + ([] : List (Str × Value)).length } →
      codeAny (model prog w) A (.compLoop (two elt (.Name x0 p0) i0 (.Name x1 p1) i1 scope pos) 0 (.ref I) (.ref D) (compEnvC scope cl C env))
        (compPost (model prog w) A E (some (assign (.Name y py) env)) (fun _ s' => Q .next s') (.ref D) C) s₃ := by
    rintro s₃ rfl
    refine loop_in0 (fun k s' => ∃ h' tk i ys m', s' = { s₁ with heap := h', toks := tk } ∧ i ≤ ns.length ∧ k = ns.length + 1 - i ∧ (h'.IsListIter I ax i ∧ h'.IsList ax vs.toArray) ∧ Fr h₀ env.locals h' m ∧ h'.Ns C m' ∧ News h₀ env.locals h' ((D, lst ys) :: news) ∧ IntsAre ys (flat8 g (ns.take i)))
      ?_ (ns.length + 1) ⟨h₁, _, 0, [], _, rfl, Nat.zero_le _, rfl, hst₁, F1.keeps old, hns₁, fun p hp => ?_, by simpa [flat8] using IntsAre.nil⟩ (fun _ => rfl) (hf C)
    · rintro k s' ⟨h', tk, i, ys, m', rfl, hi', rfl, st, F', hn', N', hIA⟩ E'
      by_cases hlti : i < ns.length
      · refine W.item i _ _ _ (by rw [hvl]; exact hlti) st fun v h₂ tk₂ hPv st₂ hk₂ => ?_
        obtain ⟨n, t, rfl, hn1⟩ := IntsAre.at hi i v (by simpa using hPv)
        refine wpAny_assign_Name (wpAny_storeName_local (lookup_relabel_local hx0) (hn'.at' fun o e => hk₂ _ o (by simpa using Ne.symm hIC) e) (fun h₃ hn₃ hs₃ => ?_) (by simp [compEnvC, relabel, hkind]))
        have axC : ax ≠ C := (offCD _ hax).1
        have st₃ : h₃.IsListIter I ax (i + 1) ∧ h₃.IsList ax vs.toArray := W.frame _ _ _ st₂ fun b hb o e => hs₃.extBut b o (fun q => by
          rcases List.mem_cons.mp hb with h9 | hb
          · exact hIC (h9.symm.trans q)
          · rw [List.mem_singleton.mp hb] at q; exact axC q) e
        obtain ⟨oI, eI, hoI⟩ := st₃.1
        obtain ⟨oC, eC, hoC⟩ := ns_obj hn₃
        have F₃ : Fr h₀ env.locals h₃ m := (fr_but F' hk₂ (Ne.symm hIL) hI₀).change hs₃ hCL hC₀
        have N₂ : News h₀ env.locals h₂ ((D, lst ys) :: news) := news_but N' hk₂ fun p hp => by
          rcases List.mem_cons.mp hp with rfl | hp
          · exact Ne.symm hID
          · exact offI p hp
        have N₃ : News h₀ env.locals h₃ ((I, oI) :: (C, oC) :: (D, lst ys) :: news) := fun p hp => by
          rcases List.mem_cons.mp hp with rfl | hp
          · exact ⟨eI, hIL, hI₀⟩
          · rcases List.mem_cons.mp hp with rfl | hp
            · exact ⟨eC, hCL, hC₀⟩
            · have z := N₂ p hp
              refine ⟨hs₃.extBut _ _ ?_ z.1, z.2⟩
              rcases List.mem_cons.mp hp with rfl | hp
              · exact Ne.symm hCD
              · exact (offCD p hp).1
        refine wpAny_mono (hrg I oI C oC _ D ys h₃ _ E' hoC F₃ N₃) (fun xv s₄ h₄ => ?_) fun _ _ e => e
        obtain ⟨r, h₄, tk₄, t4, u4, v4, rfl, rfl, hr, F₄, N₄⟩ := h₄
        refine wpAny_pyIter_range hr (by decide) ?_
        intro E₂
        have hI1lt : ∀ b o, h₄.get? b = some o → b ≠ h₄.objs.size := fun b o e => Nat.ne_of_lt (Heap.lt_size e)
        have zC := N₄ (C, oC) (List.mem_cons_of_mem _ List.mem_cons_self)
        have zD := N₄ (D, lst ys) (List.mem_cons_of_mem _ (List.mem_cons_of_mem _ List.mem_cons_self))
        have zI := N₄ (I, oI) List.mem_cons_self
        have zr : ∀ p ∈ news, h₄.get? p.1 = some p.2 ∧ p.1 ≠ env.locals ∧ h₀.get? p.1 = none := fun p hp => N₄ p (List.mem_cons_of_mem _ (List.mem_cons_of_mem _ (List.mem_cons_of_mem _ hp)))
        have N₅ := (show News h₀ env.locals h₄ ((D, lst ys) :: (I, oI) :: news) from fun p hp => by
          rcases List.mem_cons.mp hp with rfl | hp
          · exact zD
          · rcases List.mem_cons.mp hp with rfl | hp
            · exact zI
            · exact zr p hp).grown (h' := h₄.push { cls := .type "range_iterator", data := .fields #[.int 0 0, .int (Builtin.Range.rangeSize 0 8 1) 0, .int 1 0] }) fun _ _ e => Heap.get?_push_of_some _ e
        have inner : codeAny (model prog w) A (.compLoop (two elt (.Name x0 p0) i0 (.Name x1 p1) i1 scope pos) 1 (.ref h₄.objs.size) (.ref D) (compEnvC scope cl C env)) (fun r s₅ => match r with | .ok _ => ∃ m9, m9 < ns.length + 1 - i ∧ ∃ h' tk i ys m', s₅ = { s₁ with heap := h', toks := tk } ∧ i ≤ ns.length ∧ m9 = ns.length + 1 - i ∧ (h'.IsListIter I ax i ∧ h'.IsList ax vs.toArray) ∧ Fr h₀ env.locals h' m ∧ h'.Ns C m' ∧ News h₀ env.locals h' ((D, lst ys) :: news) ∧ IntsAre ys (flat8 g (ns.take i)) | .error e => E₂ e s₅)
            { s₁ with heap := h₄.push { cls := .type "range_iterator", data := .fields #[.int 0 0, .int (Builtin.Range.rangeSize 0 8 1) 0, .int 1 0] }, toks := tk₄ } := by
          refine inner8 (g := g n) (v0 := .int n t) hh hkind hx1 hne (Heap.get?_push_size _ rfl) (F₄.keeps fun _ _ e => Heap.get?_push_of_some _ e) (hoC.ns (Heap.get?_push_of_some _ zC.1)) (by simp) N₅ hIA (by rw [flat8_len, List.length_take]; omega)
            hCD hCL hC₀ (fun p hp => ?_) (Ne.symm (hI1lt _ _ zC.1)) (Ne.symm (hI1lt _ _ zD.1)) (Nat.ne_of_gt F₄.ns.lt) (next_is_new F₄) (helt C D _ I oI n t (List.mem_of_getElem? hn1) fun p hp => ⟨(offCD p hp).1, (offCD p hp).2, hI1lt _ _ (zr p hp).1, offI p hp⟩) ?_
          · rcases List.mem_cons.mp hp with rfl | hp
            · exact ⟨hIC, hID, hI1lt _ _ zI.1⟩
            · exact ⟨(offCD p hp).1, (offCD p hp).2, hI1lt _ _ (zr p hp).1⟩
          · intro h₆ tk₆ m₆ ys₆ F₆ hn₆ N₆ hIA₆
            refine ⟨ns.length + 1 - (i + 1), by omega, h₆, tk₆, i + 1, ys₆, m₆, rfl, hlti, rfl, ⟨⟨oI, (N₆ (I, oI) (List.mem_cons_of_mem _ List.mem_cons_self)).1, hoI⟩, ⟨_, (N₆ _ (List.mem_cons_of_mem _ (List.mem_cons_of_mem _ hax))).1, rfl, cnt, rfl⟩⟩, F₆, hn₆, fun p hp => ?_, ?_⟩
            · rcases List.mem_cons.mp hp with rfl | hp
              · exact N₆ _ List.mem_cons_self
              · exact N₆ _ (List.mem_cons_of_mem _ (List.mem_cons_of_mem _ hp))
            · have e : flat8 g (ns.take (i + 1)) = flat8 g (ns.take i) ++ (rangeKs 0 8).map (g n) := by
                rw [List.take_add_one, hn1]
                simp [flat8]
              rw [e]
              exact hIA₆
        exact start_in1 inner fun E' => (range_walks hh 0 8).self 0 _ _ _ (Heap.get?_push_size _ rfl) inner
      · obtain rfl : i = ns.length := Nat.le_antisymm hi' (Nat.not_lt.mp hlti)
        refine W.done _ _ _ (by rw [hvl]; exact st) fun h₂ tk₂ hk₂ => ?_
        have F₂' := fr_but F' hk₂ (Ne.symm hIL) hI₀
        have N₂ : News h₀ env.locals h₂ ((D, lst ys) :: news) := news_but N' hk₂ fun p hp => by
          rcases List.mem_cons.mp hp with rfl | hp
          · exact Ne.symm hID
          · exact offI p hp
        have hn₂ := hn'.at' fun o e => hk₂ _ o (by simpa using Ne.symm hIC) e
        rw [List.take_length] at hIA
        show wpAny _ A (assign (.Name y py) env (.ref D)) _ _ _
        refine wpAny_assign_Name (wpAny_storeName_local hy F₂'.ns (fun h₃ hn₃ hs₃ => ?_) hp)
        have hL₀ : h₀.get? env.locals = none := Heap.get?_none_of_le F₂'.above
        have F₃ : Fr h₀ env.locals h₃ (fun z => if z = y then some (.ref D) else m z) := ⟨hn₃, fun b o e => hs₃.extBut b o (fun q => by rw [q, hL₀] at e; cases e) (F₂'.keep b o e), F₂'.above⟩
        refine ⟨m', hn₂.sameBut hs₃ hCL, fun h'' hs'' => hfin s₁.heap ys hIA D h'' _ (F₃.change hs'' hCL hC₀) (fun p hp => ?_) (Off3.one (I := I) (C := C) (Off3.of fun p hp => ⟨offI p hp, offCD p hp⟩))⟩
        have z : h₃.get? p.1 = some p.2 := hs₃.extBut _ _ (N₂ p hp).2.1 (N₂ p hp).1
        refine ⟨hs''.extBut _ _ ?_ z, (N₂ p hp).2⟩
        rcases List.mem_cons.mp hp with rfl | hp
        · exact Ne.symm hCD
        · exact (offCD p hp).1
    · rcases List.mem_cons.mp hp with rfl | hp
      · exact ⟨hacc, hDL, hD₀⟩
      · exact ⟨old _ _ (N1 p hp).1, (N1 p hp).2⟩
  exact codeAny_compStart_list (loop _ rfl) (W.self 0 _ _ _ hst₁ (loop _ rfl))
end
end Mine
end
section
open PySem PySem.W PyProof.Rows
set_option maxRecDepth 100000
namespace Mine
/-! The law of row 02 in plain Lean. -/
noncomputable def mkN (b : Int) : Nat := if b = 0 then 34 else 39
noncomputable def alN (k : Nat) : Nat := (b64I.getD k 0).toNat
noncomputable def signsN : Nat → List Int → List Nat
  | _, [] => []
  | k, b :: r => mkN b :: alN k :: signsN (k + 1) r
noncomputable def B01 (bits : List Int) : Prop := ∀ x ∈ bits, x = 0 ∨ x = 1
theorem alN_let {k : Nat} (h : k < 62) : isLet (alN k) = true := (by decide +kernel : ∀ k < 62, isLet (alN k) = true) k h
theorem signs_range : ∀ (r pre : List Int), B01 (pre ++ r) → pre.length + r.length ≤ 61 →
    ((List.range' pre.length r.length).flatMap (fun i => [62 + (pre ++ r).getD i 0, (i : Int)])).map (fun f => (chA 34 39 f).toNat) = signsN pre.length r
  | [], pre, _, _ => rfl
  | b :: r, pre, h01, hl => by
    have ih := signs_range r (pre ++ [b]) (by simpa using h01) (by simp only [List.length_append, List.length_cons, List.length_nil] at hl ⊢; omega)
    have e : (pre ++ [b]) ++ r = pre ++ b :: r := by simp
    rw [e, List.length_append, List.length_singleton] at ih
    rw [List.length_cons, List.range'_succ, List.flatMap_cons, List.map_append, ih]
    have hb : (pre ++ b :: r).getD pre.length 0 = b := by simp [List.getD_eq_getElem?_getD]
    rw [hb]
    have hk : pre.length < 61 := by simp only [List.length_cons] at hl; omega
    have h1 : (chA 34 39 (62 + b)).toNat = mkN b := by
      rcases h01 b (by simp) with rfl | rfl <;> decide +kernel
    have h2 : (chA 34 39 ((pre.length : Nat) : Int)).toNat = alN pre.length := by
      have : ∀ k < 61, (chA 34 39 ((k : Nat) : Int)).toNat = alN k := by decide +kernel
      exact this _ hk
    simp only [List.map_cons, List.map_nil, h1, h2, signsN, List.cons_append, List.nil_append]
theorem lineN_eq {bits : List Int} (h01 : B01 bits) (hn : bits.length ≤ 48) : lineN bits = 39 :: (signsN 0 bits ++ [57, 57, 57]) := by
  have h := signs_range bits [] (by simpa using h01) (by simp; omega)
  rw [List.nil_append, List.length_nil, ← List.range_eq_range'] at h
  unfold lineN lineI figs figF rangeKs
  rw [List.map_map, List.map_append, List.map_cons, List.flatMap_map]
  have e0 : (Int.toNat ∘ chA 34 39) = fun f => (chA 34 39 f).toNat := rfl
  rw [e0]
  have e1 : ((List.range bits.length).flatMap fun (i : Nat) => [62 + bits.getD ((0 : Int) + (i : Int)).toNat 0, (0 : Int) + (i : Int)]) = (List.range bits.length).flatMap fun (i : Nat) => [62 + bits.getD i 0, (i : Int)] := by
    congr 1
    funext i
    rw [Int.zero_add, Int.toNat_natCast]
  rw [e1, h]
  rfl
/-! the lexer's run over the line -/
noncomputable def stR (r : Nat) (b : Int) : Nat := if b = 0 then 2 * r % 3 else (2 * r + 1) % 3
noncomputable def kept (r : Nat) (b : Int) : Bool := (r == 0 && b == 0) || (r == 2 && b == 1)
noncomputable def wordN : Nat → Nat → List Int → List Nat
  | _, _, [] => []
  | r, k, b :: t => (if kept r b then [mkN b] else []) ++ alN k :: wordN (stR r b) (k + 1) t
noncomputable def remN (r : Nat) (bits : List Int) : Nat := bits.foldl stR r
noncomputable def modeR (r : Nat) : Mode := if r = 0 then .q1 else if r = 1 then .a else .q2
theorem stR_lt (r : Nat) (b : Int) : stR r b < 3 := by
  unfold stR
  split <;> omega
theorem let_ne {c : Nat} (h : isLet c = true) : c ≠ 39 ∧ c ≠ 34 ∧ c ≠ 92 := by
  simp only [isLet, Bool.or_eq_true, Bool.and_eq_true, decide_eq_true_eq] at h
  omega
theorem two_steps {r : Nat} {b : Int} {c : Nat} (hr : r < 3) (hb : b = 0 ∨ b = 1) (hc : isLet c = true) :
    ∃ M, stepM (modeR r) (mkN b) = (M, if kept r b then [mkN b] else []) ∧ stepM M c = (modeR (stR r b), [c]) := by
  obtain ⟨n1, n2, n3⟩ := let_ne hc
  have hr' : r = 0 ∨ r = 1 ∨ r = 2 := by omega
  rcases hr' with rfl | rfl | rfl <;> rcases hb with rfl | rfl
  · exact ⟨.q1, rfl, by simp only [stepM, if_neg n1]; rfl⟩
  · exact ⟨.a, rfl, by simp only [stepM, if_neg n1, if_neg n2, if_neg n3]; rfl⟩
  · exact ⟨.q2, rfl, by simp only [stepM, if_neg n2, if_neg n3]; rfl⟩
  · exact ⟨.q1, rfl, by simp only [stepM, if_neg n1]; rfl⟩
  · exact ⟨.a, rfl, by simp only [stepM, if_neg n1, if_neg n2, if_neg n3]; rfl⟩
  · exact ⟨.q2, rfl, by simp only [stepM, if_neg n2, if_neg n3]; rfl⟩
theorem run_signs : ∀ (bits : List Int) (k r : Nat) (tl : List Nat), r < 3 → B01 bits → k + bits.length ≤ 61 →
    runM (modeR r) (signsN k bits ++ tl) = (wordN r k bits ++ (runM (modeR (remN r bits)) tl).1, (runM (modeR (remN r bits)) tl).2)
  | [], _, _, _, _, _, _ => rfl
  | b :: bs, k, r, tl, hr, h01, hl => by
    have hk : k < 61 := by simp only [List.length_cons] at hl; omega
    obtain ⟨M, s1, s2⟩ := two_steps hr (h01 b (by simp)) (alN_let (k := k) (by omega))
    have ih := run_signs bs (k + 1) (stR r b) tl (stR_lt r b) (fun x hx => h01 x (List.mem_cons_of_mem _ hx)) (by simp only [List.length_cons] at hl; omega)
    rw [signsN, List.cons_append, List.cons_append, runM, s1]
    dsimp only
    rw [runM, s2]
    dsimp only
    rw [ih, wordN]
    simp [remN]
noncomputable def endN (r : Nat) : List Nat := if r = 0 then [92, 34, 92] else if r = 1 then [39, 34, 92] else [92, 39, 39, 39]
theorem run_end {r : Nat} (hr : r < 3) : runM (modeR r) [57, 57, 57, 92, 39, 39, 34, 92, 39] = ([57, 57, 57] ++ endN r, .a) := by
  have hr' : r = 0 ∨ r = 1 ∨ r = 2 := by omega
  rcases hr' with rfl | rfl | rfl <;> rfl
noncomputable def textN (bits : List Int) : List Nat := lineN bits ++ [92, 39, 39, 34, 92, 39]
noncomputable def outN (bits : List Int) : List Nat := wordN 0 0 bits ++ ([57, 57, 57] ++ endN (remN 0 bits))
theorem remN_lt (r : Nat) (hr : r < 3) : ∀ bits : List Int, remN r bits < 3 := by
  intro bits
  induction bits generalizing r with
  | nil => exact hr
  | cons b bs ih => exact ih _ (stR_lt r b)
theorem run_text {bits : List Int} (h01 : B01 bits) (hn : bits.length ≤ 48) : runM .w (textN bits) = (outN bits, .a) := by
  have h := run_signs bits 0 0 [57, 57, 57, 92, 39, 39, 34, 92, 39] (by decide) h01 (by omega)
  have e : textN bits = 39 :: (signsN 0 bits ++ [57, 57, 57, 92, 39, 39, 34, 92, 39]) := by
    unfold textN
    rw [lineN_eq h01 hn]
    simp
  rw [e, runM]
  show ([] ++ (runM (modeR 0) _).1, (runM (modeR 0) _).2) = _
  rw [h, run_end (remN_lt 0 (by decide) bits)]
  rfl
theorem signs_ok : ∀ (bits : List Int) (k : Nat), k + bits.length ≤ 61 → ∀ c ∈ signsN k bits, okC c
  | [], _, _, c, h => nomatch h
  | b :: bs, k, hl, c, h => by
    rw [signsN] at h
    simp only [List.length_cons] at hl
    rcases List.mem_cons.mp h with rfl | h
    · unfold mkN okC
      split
      · exact .inr (.inr (.inl rfl))
      · exact .inr (.inl rfl)
    · rcases List.mem_cons.mp h with rfl | h
      · exact .inl (alN_let (by omega))
      · exact signs_ok bs (k + 1) (by omega) c h
theorem text_ok {bits : List Int} (h01 : B01 bits) (hn : bits.length ≤ 48) : ∀ c ∈ textN bits, okC c := by
  intro c hc
  unfold textN at hc
  rw [lineN_eq h01 hn] at hc
  simp only [List.cons_append, List.mem_cons, List.mem_append, List.not_mem_nil, or_false] at hc
  have s := signs_ok bits 0 (by omega) c
  unfold okC at s ⊢
  rcases hc with h | (h | h | h | h) | h | h | h | h | h | h
  · exact .inr (.inl h)
  · exact s h
  all_goals first | exact .inr (.inl h) | exact .inr (.inr (.inl h)) | exact .inr (.inr (.inr h)) | (subst h; exact .inl rfl)
theorem text_len (bits : List Int) : (textN bits).length = 10 + 2 * bits.length := by
  unfold textN lineN
  rw [List.length_append, List.length_map, lineI_len]
  simp only [List.length_cons, List.length_nil]
  omega
theorem word_len : ∀ (bits : List Int) (r k : Nat), (wordN r k bits).length ≤ 2 * bits.length
  | [], _, _ => Nat.le_refl _
  | b :: bs, r, k => by
    have := word_len bs (stR r b) (k + 1)
    rw [wordN]
    simp only [List.length_append, List.length_cons]
    split <;> simp only [List.length_cons, List.length_nil] <;> omega
theorem out_len (bits : List Int) : (outN bits).length ≤ 7 + 2 * bits.length := by
  have := word_len bits 0 0
  have e : (endN (remN 0 bits)).length ≤ 4 := by
    unfold endN
    split
    · simp
    · split <;> simp
  unfold outN
  simp only [List.length_append, List.length_cons, List.length_nil]
  omega
theorem out_nn (bits : List Int) : outN bits ≠ [] := by
  unfold outN
  simp
theorem text_nn (bits : List Int) : textN bits ≠ [] := by
  unfold textN
  simp
/-! what is read of the word -/
theorem wordN_app : ∀ (x y : List Int) (r k : Nat), wordN r k (x ++ y) = wordN r k x ++ wordN (remN r x) (k + x.length) y
  | [], _, _, _ => rfl
  | b :: x, y, r, k => by
    rw [List.cons_append, wordN, wordN_app x y, wordN, List.length_cons]
    simp only [List.append_assoc, List.cons_append, remN, List.foldl_cons]
    congr 3
    congr 1
    omega
theorem remN_app (x y : List Int) (r : Nat) : remN r (x ++ y) = remN (remN r x) y := by simp [remN]
noncomputable def qB (r : Nat) (b : Int) : Int := if kept r b then b else if stR r b = 1 then 1 - b else b
noncomputable def thR : Nat → Int → List Int → Int
  | _, t, [] => t
  | r, t, b :: bs => thR (stR r b) (Builtin.bitOr (t * 2 ^ 1) (qB r b)) bs
theorem thR_snoc : ∀ (x : List Int) (r : Nat) (t b : Int), thR r t (x ++ [b]) = Builtin.bitOr (thR r t x * 2 ^ 1) (qB (remN r x) b)
  | [], _, _, _ => rfl
  | a :: x, r, t, b => by
    rw [List.cons_append, thR, thR_snoc x]
    rfl
noncomputable def numF (bits : List Int) : Int := bits.foldl (fun n b => n * 2 ^ 1 + b) 0
theorem numF_snoc (x : List Int) (b : Int) : numF (x ++ [b]) = numF x * 2 ^ 1 + b := by simp [numF]
theorem num_inv : ∀ (x : List Int), B01 x → 0 ≤ thR 0 0 x ∧ numF x = 3 * thR 0 0 x + (remN 0 x : Int) ∧ 0 ≤ numF x ∧ numF x < 2 ^ x.length := by
  intro x
  induction hx : x.length generalizing x with
  | zero =>
    intro _
    have : x = [] := List.eq_nil_of_length_eq_zero hx
    subst this
    exact ⟨Int.le_refl _, rfl, Int.le_refl _, by decide⟩
  | succ n ih =>
    intro h01
    obtain ⟨y, b, rfl⟩ : ∃ y b, x = y ++ [b] := ⟨x.dropLast, x.getLast (by intro e; subst e; simp at hx), (List.dropLast_concat_getLast _).symm⟩
    have hy : y.length = n := by simpa using hx
    obtain ⟨i1, i2, i3, i4⟩ := ih y hy (fun a ha => h01 a (by simp [ha]))
    have hb := h01 b (by simp)
    have hr : remN 0 y < 3 := remN_lt 0 (by decide) y
    have e2 : (2 : Int) ^ (n + 1) = 2 ^ n * 2 := Int.pow_succ _ _
    have er : remN 0 (y ++ [b]) = stR (remN 0 y) b := by rw [remN_app]; rfl
    rw [thR_snoc, numF_snoc, er, e2]
    generalize remN 0 y = r at *
    generalize thR 0 0 y = t at *
    generalize numF y = m at *
    generalize (2 : Int) ^ n = p at *
    have hq : 0 ≤ qB r b ∧ qB r b < 2 := by
      unfold qB
      rcases hb with rfl | rfl <;> split <;> first | decide | (split <;> decide)
    rw [or_mul 1 i1 hq.1 (by omega)]
    have hr' : r = 0 ∨ r = 1 ∨ r = 2 := by omega
    have hs : ((stR r b : Nat) : Int) + 3 * qB r b = 2 * (r : Int) + b := by
      rcases hb with rfl | rfl <;> rcases hr' with rfl | rfl | rfl <;> decide
    refine ⟨by omega, by omega, by omega, by omega⟩
/-- a third, and what is left -/
theorem third_is {x : List Int} (h : B01 x) : thR 0 0 x = (numF x).fdiv 3 ∧ (numF x).fmod 3 = (remN 0 x : Int) := by
  obtain ⟨h1, h2, h3, _⟩ := num_inv x h
  have hr : remN 0 x < 3 := remN_lt 0 (by decide) x
  rw [Int.fdiv_eq_ediv_of_nonneg _ (by decide), Int.fmod_eq_emod_of_nonneg _ (by decide)]
  omega
/-! the ways -/
noncomputable def wyS (c : Int × Int) (b : Int) : Int × Int := if b = 0 then (c.1, c.1 + c.2) else (c.1 + c.2, c.2)
noncomputable def wyF (bits : List Int) : Int × Int := bits.foldl wyS (0, 1)
theorem wyF_snoc (x : List Int) (b : Int) : wyF (x ++ [b]) = wyS (wyF x) b := by simp [wyF]
theorem ways_inv : ∀ (x : List Int) (r : Nat) (c : Int × Int), r < 3 → B01 x → (c.1 % 2 = if r = 0 then 0 else 1) → (c.2 % 2 = if r = 2 then 0 else 1) →
    ((x.foldl wyS c).2 % 2 = if remN r x = 2 then 0 else 1)
  | [], r, c, _, _, _, h => h
  | b :: x, r, c, hr, h01, h1, h2 => by
    rw [List.foldl_cons]
    refine ways_inv x (stR r b) (wyS c b) (stR_lt r b) (fun a ha => h01 a (List.mem_cons_of_mem _ ha)) ?_ ?_
    all_goals
      have hb := h01 b (by simp)
      have hr' : r = 0 ∨ r = 1 ∨ r = 2 := by omega
      rcases hb with rfl | rfl <;> rcases hr' with rfl | rfl | rfl <;> simp [wyS, stR] at h1 h2 ⊢ <;> omega
theorem ways_even {x : List Int} (h : B01 x) : ((wyF x).2 % 2 = 0) ↔ remN 0 x = 2 := by
  have := ways_inv x 0 (0, 1) (by decide) h rfl rfl
  unfold wyF
  rw [this]
  split <;> simp [*]
/-! the turn of _law_read -/
theorem slice_mid {W pre post : List Nat} {c : Nat} {p : Int} (hW : W = pre ++ c :: post) (hp : p = (pre.length : Int)) : Txt.slice ⟨W.toArray⟩ (some p) (some (p + 1)) = ⟨#[c]⟩ := by
  subst hW hp
  exact slice_one pre c post
noncomputable def rdP (bits : List Int) (j : Nat) (third place : Int) (within : Bool) : Prop :=
  third = thR 0 0 (bits.take j) ∧ place = ((wordN 0 0 (bits.take j)).length : Int) ∧ within = decide (remN 0 (bits.take j) ≠ 1)
theorem take_at {bits : List Int} {j : Nat} (h : j < bits.length) : bits = bits.take j ++ bits.getD j 0 :: bits.drop (j + 1) ∧ bits.take (j + 1) = bits.take j ++ [bits.getD j 0] := by
  have e : bits[j]? = some (bits.getD j 0) := by rw [List.getD_eq_getElem?_getD, List.getElem?_eq_getElem h]; rfl
  have e2 : bits.take (j + 1) = bits.take j ++ [bits.getD j 0] := by rw [List.take_add_one, e]; rfl
  refine ⟨?_, e2⟩
  have := (List.take_append_drop (j + 1) bits).symm
  rw [e2, List.append_assoc] at this
  exact this
/-- the word, cut at the turn's place -/
theorem word_cut {bits : List Int} {j : Nat} (h : j < bits.length) : outN bits = wordN 0 0 (bits.take j) ++ ((if kept (remN 0 (bits.take j)) (bits.getD j 0) then [mkN (bits.getD j 0)] else []) ++ alN j :: (wordN (stR (remN 0 (bits.take j)) (bits.getD j 0)) (j + 1) (bits.drop (j + 1)) ++ ([57, 57, 57] ++ endN (remN 0 bits)))) := by
  obtain ⟨e1, _⟩ := take_at h
  have hl : (bits.take j).length = j := by rw [List.length_take]; omega
  unfold outN
  have e3 : wordN 0 0 bits = wordN 0 0 (bits.take j) ++ wordN (remN 0 (bits.take j)) (0 + j) (bits.getD j 0 :: bits.drop (j + 1)) := by
    have := wordN_app (bits.take j) (bits.getD j 0 :: bits.drop (j + 1)) 0 0
    rw [hl, ← e1] at this
    exact this
  rw [e3, wordN, Nat.zero_add]
  simp
theorem rd_next {bits : List Int} {j : Nat} {third place : Int} {within : Bool} (h : j < bits.length) (hP : rdP bits j third place within) {b : Int} (hb : bits.getD j 0 = b) {r : Nat} (hr : remN 0 (bits.take j) = r) :
    rdP bits (j + 1) (Builtin.bitOr (third * 2 ^ 1) (qB r b)) (place + if kept r b then 2 else 1) (decide (stR r b ≠ 1)) := by
  obtain ⟨h1, h2, h3⟩ := hP
  obtain ⟨_, e2⟩ := take_at h
  unfold rdP
  rw [e2, thR_snoc, wordN_app, remN_app, hb, hr, ← h1, List.length_append, h2]
  refine ⟨rfl, ?_, rfl⟩
  simp only [wordN]
  split <;> simp <;> omega
theorem one_eq (c : Nat) : ((⟨#[c]⟩ : Str) == (⟨#[c]⟩ : Str)) = true := beq_self_eq_true _
theorem one_ne {c d : Nat} (h : c ≠ d) : ((⟨#[c]⟩ : Str) == (⟨#[d]⟩ : Str)) = false := str_one_ne rfl h
/-- the ways through a turn: the mark kept, or gone -/
theorem rd_kept {bits : List Int} {j : Nat} {place : Int} (h : j < bits.length) {b : Int} (hb : bits.getD j 0 = b) {r : Nat} (hr : remN 0 (bits.take j) = r) (hk : kept r b = true) (hp : place = ((wordN 0 0 (bits.take j)).length : Int)) :
    Txt.slice ⟨(outN bits).toArray⟩ (some place) (some (place + 1)) = ⟨#[mkN b]⟩ ∧ Txt.slice ⟨(outN bits).toArray⟩ (some (place + 1)) (some (place + 1 + 1)) = ⟨#[alN j]⟩ := by
  have hc := word_cut h
  rw [hb, hr, hk, if_pos rfl] at hc
  generalize wordN (stR r b) (j + 1) (bits.drop (j + 1)) ++ ([57, 57, 57] ++ endN (remN 0 bits)) = R at hc
  refine ⟨slice_mid (post := alN j :: R) (hc.trans (by simp)) hp, slice_mid (pre := wordN 0 0 (bits.take j) ++ [mkN b]) (post := R) (hc.trans (by simp)) (by rw [List.length_append, List.length_singleton, hp]; omega)⟩
theorem rd_gone {bits : List Int} {j : Nat} {place : Int} (h : j < bits.length) {b : Int} (hb : bits.getD j 0 = b) {r : Nat} (hr : remN 0 (bits.take j) = r) (hk : kept r b = false) (hp : place = ((wordN 0 0 (bits.take j)).length : Int)) :
    Txt.slice ⟨(outN bits).toArray⟩ (some place) (some (place + 1)) = ⟨#[alN j]⟩ := by
  have hc := word_cut h
  rw [hb, hr, hk, if_neg (by decide)] at hc
  generalize wordN (stR r b) (j + 1) (bits.drop (j + 1)) ++ ([57, 57, 57] ++ endN (remN 0 bits)) = R at hc
  exact slice_mid (post := R) (hc.trans (by simp)) hp
theorem al_ne {j : Nat} (h : j < 62) (b : Int) : alN j ≠ mkN b := by
  obtain ⟨n1, n2, _⟩ := let_ne (alN_let h)
  unfold mkN
  split
  · exact n2
  · exact n1
noncomputable def tailN (bits : List Int) : List Nat := [57, 57, 57] ++ endN (remN 0 bits)
theorem slice_end (pre post : List Nat) : Txt.slice ⟨(pre ++ post).toArray⟩ (some (pre.length : Int)) none = ⟨post.toArray⟩ := by
  have hl : (⟨(pre ++ post).toArray⟩ : Str).length = pre.length + post.length := by
    show (pre ++ post).toArray.size = _
    simp
  rw [slice_from_eq (b := ((pre.length + post.length : Nat) : Int)) (by omega) (by rw [hl]; omega) (by rw [hl])]
  have e : ((⟨(pre ++ post).toArray⟩ : Str).cps).toList = pre ++ post := rfl
  rw [e, Int.toNat_natCast, List.drop_left, List.take_of_length_le (by omega)]
theorem word_end {bits : List Int} {place : Int} (hp : place = ((wordN 0 0 bits).length : Int)) : Txt.slice ⟨(outN bits).toArray⟩ (some place) none = ⟨(tailN bits).toArray⟩ := by
  subst hp
  exact slice_end _ _
theorem alpha_len : (Str.ofString "ABCDEFGHIJKLMNOPQRSTUVWXYZabcdefghijklmnopqrstuvwxyz0123456789+/").length = 64 := by decide +kernel
theorem alpha_item {k : Int} {j : Nat} (hk : k = 0 + (j : Int)) (hj : j < 64) : Txt.item (Str.ofString "ABCDEFGHIJKLMNOPQRSTUVWXYZabcdefghijklmnopqrstuvwxyz0123456789+/") k = ⟨#[alN j]⟩ := by
  have h : ∀ j < 64, Txt.item (Str.ofString "ABCDEFGHIJKLMNOPQRSTUVWXYZabcdefghijklmnopqrstuvwxyz0123456789+/") (0 + ((j : Nat) : Int)) = ⟨#[alN j]⟩ := by decide +kernel
  rw [hk]
  exact h j hj
theorem mark_item0 : Txt.item (Str.ofString "\"'") 0 = ⟨#[34]⟩ := by decide +kernel
theorem mark_item1 : Txt.item (Str.ofString "\"'") 1 = ⟨#[39]⟩ := by decide +kernel
theorem rd_small {bits : List Int} {j : Nat} {third place : Int} {within : Bool} (h01 : B01 bits) (hn : bits.length ≤ 48) (hP : rdP bits j third place within) : third.natAbs < 2 ^ 64 := by
  obtain ⟨h1, _, _⟩ := hP
  obtain ⟨i1, i2, i3, i4⟩ := num_inv (bits.take j) (fun a ha => h01 a (List.mem_of_mem_take ha))
  have hl : (bits.take j).length ≤ 48 := by rw [List.length_take]; omega
  have e : ∀ l : Nat, l ≤ 48 → (2 : Int) ^ l ≤ 2 ^ 48 := by decide
  have e := e _ hl
  omega
theorem rd_state {bits pre : List Int} {n third place third' place' b : Int} {within within' : Bool} {r : Nat} (h : pre.length < bits.length) (hP : rdP bits pre.length third place within) (hb : bits.getD pre.length 0 = b) (hr : remN 0 (bits.take pre.length) = r)
    (h1 : third' = Builtin.bitOr (third * 2 ^ 1) (qB r b)) (h2 : place' = place + if kept r b then 2 else 1) (h3 : within' = decide (stR r b ≠ 1)) : rdP bits (pre ++ [n]).length third' place' within' := by
  rw [List.length_append, List.length_singleton, h1, h2, h3]
  exact rd_next h hP hb hr
theorem rd_kept_f {word : Str} {bits : List Int} {j : Nat} {place : Int} (hw : word = ⟨(outN bits).toArray⟩) (h : j < bits.length) {b : Int} (hb : bits.getD j 0 = b) (hb01 : b = 0 ∨ b = 1) {r : Nat} (hr : remN 0 (bits.take j) = r) (hk : kept r b = true) (hp : place = ((wordN 0 0 (bits.take j)).length : Int)) :
    (Txt.slice word (some place) (some (place + 1)) == Txt.item (Str.ofString "\"'") b) = true ∧ (Txt.slice word (some (place + 1)) (some (place + 1 + 1)) == (⟨#[alN j]⟩ : Str)) = true := by
  obtain ⟨s1, s2⟩ := rd_kept h hb hr hk hp
  rw [hw, s1, s2]
  refine ⟨?_, one_eq _⟩
  rcases hb01 with rfl | rfl
  · rw [mark_item0]; exact one_eq _
  · rw [mark_item1]; exact one_eq _
theorem rd_gone_f {word : Str} {bits : List Int} {j : Nat} {place : Int} (hw : word = ⟨(outN bits).toArray⟩) (h : j < bits.length) {b : Int} (hb : bits.getD j 0 = b) (hb01 : b = 0 ∨ b = 1) (hj : j < 62) {r : Nat} (hr : remN 0 (bits.take j) = r) (hk : kept r b = false) (hp : place = ((wordN 0 0 (bits.take j)).length : Int)) :
    (Txt.slice word (some place) (some (place + 1)) == Txt.item (Str.ofString "\"'") b) = false ∧ (Txt.slice word (some place) (some (place + 1)) == (⟨#[alN j]⟩ : Str)) = true := by
  have s1 := rd_gone h hb hr hk hp
  rw [hw, s1]
  refine ⟨?_, one_eq _⟩
  rcases hb01 with rfl | rfl
  · rw [mark_item0]; exact one_ne (al_ne hj 0)
  · rw [mark_item1]; exact one_ne (al_ne hj 1)
theorem tail_str : Str.ofString "\\''\"\\'" = ⟨([92, 39, 39, 34, 92, 39] : List Nat).toArray⟩ := by decide +kernel
theorem text_str (bits : List Int) : (⟨(lineN bits).toArray⟩ : Str) ++ Str.ofString "\\''\"\\'" = ⟨(textN bits).toArray⟩ := by
  rw [tail_str, str_mk_append]
  rfl
theorem line_fits {bits : List Int} (hn : bits.length ≤ 48) : (⟨(lineN bits).toArray⟩ : Str).length + (Str.ofString "\\''\"\\'").length ≤ sizeLine := by
  rw [tail_str]
  show (lineN bits).toArray.size + 6 ≤ _
  rw [List.size_toArray, sizeLine_eq]
  unfold lineN
  rw [List.length_map, lineI_len]
  omega
theorem num_small {bits pre post : List Int} {n : Int} (e : bits = pre ++ n :: post) (h01 : B01 bits) (hn : bits.length ≤ 48) : (numF pre).natAbs < 2 ^ 64 := by
  obtain ⟨_, _, i3, i4⟩ := num_inv pre (fun a ha => h01 a (by rw [e]; simp [ha]))
  have hl : pre.length ≤ 48 := by rw [e] at hn; simp at hn; omega
  have e : ∀ l : Nat, l ≤ 48 → (2 : Int) ^ l ≤ 2 ^ 48 := by decide
  have e := e _ hl
  omega
theorem out_fits {bits : List Int} (hn : bits.length ≤ 48) : (⟨(outN bits).toArray⟩ : Str).length ≤ 1000000 := by
  have := out_len bits
  show (outN bits).toArray.size ≤ _
  rw [List.size_toArray]
  omega
theorem tail_is (bits : List Int) : tailN bits = [57, 57, 57] ++ endN (remN 0 bits) := rfl
end Mine
end
section
open PySem PySem.W PyProof.Rows
set_option maxRecDepth 100000
namespace Mine
/-! The bits and the signs of row 02's law in plain Lean. -/
noncomputable def bitF (o k : Int) : Int := Builtin.bitAnd (o.fdiv (2 ^ (7 - k).toNat)) 1
noncomputable def bitsOf (octs : List Int) : List Int := flat8 bitF octs
theorem bits01 (octs : List Int) : B01 (bitsOf octs) := by
  intro x hx
  unfold bitsOf flat8 at hx
  obtain ⟨o, _, hx⟩ := List.mem_flatMap.mp hx
  obtain ⟨k, _, rfl⟩ := List.mem_map.mp hx
  unfold bitF
  rw [bitAnd_m1]
  omega
theorem bits_len (octs : List Int) : (bitsOf octs).length = 8 * octs.length := flat8_len bitF octs
theorem eight : rangeKs 0 8 = [0, 1, 2, 3, 4, 5, 6, 7] := rfl
theorem octet_bits (o n : Int) (h0 : 0 ≤ o) (h1 : o < 256) : ((rangeKs 0 8).map (bitF o)).foldl (fun n b => n * 2 ^ 1 + b) n = n * 256 + o := by
  rw [eight]
  have fd : ∀ k : Nat, o.fdiv (2 ^ k) = o / 2 ^ k := fun k => Int.fdiv_eq_ediv_of_nonneg _ (Int.le_of_lt (kbt_pos k))
  simp only [List.map_cons, List.map_nil, List.foldl_cons, List.foldl_nil, bitF, bitAnd_m1, fd]
  have e : ∀ k : Int, (7 - k).toNat = (7 - k).toNat := fun _ => rfl
  simp only [show ((7 : Int) - 0).toNat = 7 from rfl, show ((7 : Int) - 1).toNat = 6 from rfl, show ((7 : Int) - 2).toNat = 5 from rfl, show ((7 : Int) - 3).toNat = 4 from rfl, show ((7 : Int) - 4).toNat = 3 from rfl, show ((7 : Int) - 5).toNat = 2 from rfl, show ((7 : Int) - 6).toNat = 1 from rfl, show ((7 : Int) - 7).toNat = 0 from rfl]
  omega
theorem num_octs : ∀ (octs : List Int) (n : Int), (∀ x ∈ octs, 0 ≤ x ∧ x < 256) → ((bitsOf octs).foldl (fun n b => n * 2 ^ 1 + b) n) % 3 = (n + octs.sum) % 3
  | [], n, _ => by simp [bitsOf, flat8]
  | o :: r, n, h => by
    have ho := h o (by simp)
    have ih := num_octs r (n * 256 + o) (fun x hx => h x (List.mem_cons_of_mem _ hx))
    have e : bitsOf (o :: r) = (rangeKs 0 8).map (bitF o) ++ bitsOf r := rfl
    rw [e, List.foldl_append, octet_bits o n ho.1 ho.2, ih, List.sum_cons]
    omega
theorem num_sum {octs : List Int} (h : ∀ x ∈ octs, 0 ≤ x ∧ x < 256) : numF (bitsOf octs) % 3 = octs.sum % 3 := by
  have := num_octs octs 0 h
  rw [Int.zero_add] at this
  exact this
end Mine
end
section
open PySem PySem.W PyProof.Rows
set_option maxRecDepth 100000
namespace Mine
/-! The places of the signs that b64encode writes. -/
noncomputable def alphaS : Str := "ABCDEFGHIJKLMNOPQRSTUVWXYZabcdefghijklmnopqrstuvwxyz0123456789+/"
noncomputable def chS (n : Int) : Str := ⟨#[n.toNat]⟩
noncomputable def keepS (u : Str) : Bool := u != "="
noncomputable def findS (u : Str) : Int := Txt.find alphaS u
noncomputable def valC (n : Int) : Int := if keepS (chS n) then findS (chS n) else 0
theorem sum_us : ∀ ns : List Int, (((ns.map chS).filter keepS).map findS).sum = (ns.map valC).sum
  | [] => rfl
  | n :: r => by
    have ih := sum_us r
    rw [List.map_cons, List.map_cons, List.sum_cons, ← ih, valC]
    by_cases h : keepS (chS n) = true
    · rw [List.filter_cons_of_pos h, if_pos h, List.map_cons, List.sum_cons]
    · rw [List.filter_cons_of_neg h, if_neg h, Int.zero_add]
theorem valC_b64 : ∀ j < 64, valC (b64I.getD j 0) = (j : Int) := by decide +kernel
theorem valC_end : valC 61 = 0 := by decide +kernel
theorem valC_at {x : Int} (h0 : 0 ≤ x) (h1 : x < 64) : valC (b64I.getD x.toNat 0) = x := by
  rw [valC_b64 _ (by omega)]
  omega
noncomputable def wt (c : List Int × Int × Int) : Int := (c.1.map valC).sum + (if c.2.1 = 0 then 0 else if c.2.1 = 2 then c.2.2 % 4 else c.2.2 % 16)
theorem wt_step {c : List Int × Int × Int} {b : Int} (hl : c.2.1 = 0 ∨ c.2.1 = 2 ∨ c.2.1 = 4) (hc : 0 ≤ c.2.2) (h0 : 0 ≤ b) (h1 : b < 256) :
    0 ≤ (b64step c b).2.2 ∧ (wt (b64step c b)) % 3 = (wt c + b) % 3 := by
  obtain ⟨o, lb, lc⟩ := c
  dsimp only at hl hc
  have fd : ∀ (x : Int) (k : Nat), 0 ≤ x → x.fdiv (2 ^ k) = x / 2 ^ k := fun x k _ => Int.fdiv_eq_ediv_of_nonneg _ (Int.le_of_lt (kbt_pos k))
  have hor : Builtin.bitAnd (Builtin.bitOr (lc * 2 ^ 8) b) 65535 = (lc * 256 + b) % 65536 := by
    rw [or_mul 8 hc h0 h1, bitAnd_m16]
    rfl
  have hp : 0 ≤ (lc * 256 + b) % 65536 := by omega
  rcases hl with rfl | rfl | rfl
  · unfold b64step wt
    dsimp only
    rw [if_pos rfl, hor, bitAnd_m6, fd _ _ hp]
    simp only [List.map_append, List.sum_append, List.map_cons, List.map_nil, List.sum_cons, List.sum_nil, if_neg (show ¬ (2 : Int) = 0 by decide), if_pos]
    have e1 : (lc * 256 + b) % 65536 / 2 ^ 2 % 64 = b / 4 := by omega
    have e2 : (lc * 256 + b) % 65536 % 4 = b % 4 := by omega
    rw [e1, e2, valC_at (by omega) (by omega)]
    refine ⟨hp, ?_⟩
    omega
  · unfold b64step wt
    dsimp only
    rw [if_neg (by decide), if_pos rfl, hor, bitAnd_m6, fd _ _ hp]
    simp only [List.map_append, List.sum_append, List.map_cons, List.map_nil, List.sum_cons, List.sum_nil, if_neg (show ¬ (4 : Int) = 0 by decide), if_neg (show ¬ (4 : Int) = 2 by decide), if_neg (show ¬ (2 : Int) = 0 by decide), if_pos]
    have e1 : (lc * 256 + b) % 65536 / 2 ^ 4 % 64 = lc % 4 * 16 + b / 16 := by omega
    have e2 : (lc * 256 + b) % 65536 % 16 = b % 16 := by omega
    rw [e1, e2, valC_at (by omega) (by omega)]
    refine ⟨hp, ?_⟩
    omega
  · unfold b64step wt
    dsimp only
    rw [if_neg (by decide), if_neg (by decide), hor, bitAnd_m6, bitAnd_m6, fd _ _ hp, fd _ _ hp]
    simp only [List.map_append, List.sum_append, List.map_cons, List.map_nil, List.sum_cons, List.sum_nil, if_neg (show ¬ (4 : Int) = 0 by decide), if_neg (show ¬ (4 : Int) = 2 by decide), if_pos]
    have e1 : (lc * 256 + b) % 65536 / 2 ^ 6 % 64 = lc % 16 * 4 + b / 64 := by omega
    have e2 : (lc * 256 + b) % 65536 / 2 ^ 0 % 64 = b % 64 := by omega
    rw [e1, e2, valC_at (by omega) (by omega), valC_at (by omega) (by omega)]
    refine ⟨hp, ?_⟩
    omega
theorem wt_fold : ∀ (bs : List Int) (c : List Int × Int × Int), (c.2.1 = 0 ∨ c.2.1 = 2 ∨ c.2.1 = 4) → 0 ≤ c.2.2 → (∀ b ∈ bs, 0 ≤ b ∧ b < 256) →
    0 ≤ (bs.foldl b64step c).2.2 ∧ wt (bs.foldl b64step c) % 3 = (wt c + bs.sum) % 3
  | [], c, _, hc, _ => ⟨hc, by simp⟩
  | b :: r, c, hl, hc, h => by
    have hb := h b (by simp)
    obtain ⟨k1, k2⟩ := wt_step hl hc hb.1 hb.2
    obtain ⟨i1, i2⟩ := wt_fold r (b64step c b) (b64step_lb c b) k1 (fun x hx => h x (List.mem_cons_of_mem _ hx))
    refine ⟨i1, ?_⟩
    rw [List.foldl_cons, i2, List.sum_cons]
    omega
theorem wt_tail {c : List Int × Int × Int} (hl : c.2.1 = 0 ∨ c.2.1 = 2 ∨ c.2.1 = 4) : ((b64tail c).map valC).sum % 3 = wt c % 3 := by
  obtain ⟨o, lb, lc⟩ := c
  dsimp only at hl
  rcases hl with rfl | rfl | rfl
  · unfold b64tail wt
    dsimp only
    rw [if_pos rfl, if_pos rfl, Int.add_zero]
  · unfold b64tail wt
    dsimp only
    rw [if_neg (by decide), if_pos rfl, if_neg (by decide), if_pos rfl, bitAnd_m2]
    simp only [List.map_append, List.sum_append, List.map_cons, List.map_nil, List.sum_cons, List.sum_nil, valC_end]
    rw [valC_at (by omega) (by omega)]
    omega
  · unfold b64tail wt
    dsimp only
    rw [if_neg (by decide), if_neg (by decide), if_neg (by decide), if_neg (by decide), bitAnd_m4]
    simp only [List.map_append, List.sum_append, List.map_cons, List.map_nil, List.sum_cons, List.sum_nil, valC_end]
    rw [valC_at (by omega) (by omega)]
    omega
theorem places_sum {octs : List Int} (h : ∀ x ∈ octs, 0 ≤ x ∧ x < 256) : (((((b64out (byteArr octs)).map chS).filter keepS).map findS).sum) % 3 = numF (bitsOf octs) % 3 := by
  rw [sum_us, b64out_make h, wt_tail (b64fold_lb _), num_sum h]
  have := (wt_fold octs ([], 0, 0) (.inl rfl) (by decide) h).2
  unfold b64fold
  rw [this]
  simp [wt]
theorem fmod3 (x : Int) : Int.fmod x 3 = x % 3 := Int.fmod_eq_emod_of_nonneg _ (by decide)
theorem fmod2 (x : Int) : Int.fmod x 2 = x % 2 := Int.fmod_eq_emod_of_nonneg _ (by decide)
theorem ways_no {x : Int} {r : Nat} (hw : x % 2 = 0 ↔ r = 2) (h : ((x.fmod 2 == 0) != decide ([(r : Int)] = [2])) = true) : False := by
  rw [fmod2] at h
  by_cases e : r = 2
  · subst e
    rw [hw.mpr rfl] at h
    exact absurd h (by decide)
  · have hx : ¬ x % 2 = 0 := fun q => e (hw.mp q)
    have hr : ¬ ([(r : Int)] = [2]) := fun q => e (by
      have := (List.cons.inj q).1
      omega)
    rw [decide_eq_false hr, beq_eq_false_iff_ne.mpr hx] at h
    exact absurd h (by decide)
theorem signs_len (octs : List Int) (h : octs.length ≤ 6) : (b64out (byteArr octs)).length ≤ 15 := by
  have := b64out_len (byteArr octs)
  have e : (byteArr octs).toList.length = octs.length := by rw [Array.length_toList, byteArr_size]
  omega
end Mine
end
section
open PySem PySem.W PyProof.Rows
set_option Elab.async false
set_option maxRecDepth 100000
set_option maxHeartbeats 0
namespace Mine
/-! A head of my own: the whole top by one evaluation over tree heaps. -/
noncomputable def topR (tb : String → Option Builtin) (p : Program) (w : World) (n₀ : Nat) (ann : Option Value) (n : Nat) : SharedT → Thread → Option SharedT :=
  @Nat.rec (fun _ => SharedT → Thread → Option SharedT) (fun _ _ => none) (fun _ ih s t =>
    @Bool.rec (fun _ => Option SharedT) (@Bool.rec (fun _ => Option SharedT) none (@Option.rec (SharedT × Thread) (fun _ => Option SharedT) none (fun r => @Prod.rec SharedT Thread (fun _ => Option SharedT) (fun s' t' => ih s' t') r) (stepT (denote tb) p w s t)) (stepOk n₀ ann t)) (some s) (through t)) n
theorem topR_succ {tb : String → Option Builtin} {p : Program} {w : World} {n₀ : Nat} {ann : Option Value} {n : Nat} {s : SharedT} {t : Thread} : topR tb p w n₀ ann (n + 1) s t =
    @Bool.rec (fun _ => Option SharedT) (@Bool.rec (fun _ => Option SharedT) none (@Option.rec (SharedT × Thread) (fun _ => Option SharedT) none (fun r => @Prod.rec SharedT Thread (fun _ => Option SharedT) (fun s' t' => topR tb p w n₀ ann n s' t') r) (stepT (denote tb) p w s t)) (stepOk n₀ ann t)) (some s) (through t) := rfl
theorem topR_of {tb : String → Option Builtin} {p : Program} {w : World} {n₀ : Nat} {ann : Option Value} : ∀ {n : Nat} {s s' : SharedT} {t : Thread}, topR tb p w n₀ ann n s t = some s' → topRun tb p w n₀ ann n s.abs t = some s'.abs
  | 0, _, _, _, h => by cases h
  | n + 1, s, s', t, h => by
    rw [topR_succ] at h
    unfold topRun
    cases he : through t with
    | true => rw [he] at h; cases h; rfl
    | false =>
      rw [he] at h
      cases hk : stepOk n₀ ann t with
      | false => rw [hk] at h; cases h
      | true =>
        rw [hk] at h
        cases hs : stepT (denote tb) p w s t with
        | none => rw [hs] at h; cases h
        | some r => obtain ⟨s₂, t₂⟩ := r; rw [hs] at h; rw [stepT_spec hs]; exact topR_of h

noncomputable def impR (tb : String → Option Builtin) (p : Program) (w : World) (n : Nat) : SharedT → Thread → Option SharedT :=
  @Nat.rec (fun _ => SharedT → Thread → Option SharedT) (fun _ _ => none) (fun _ ih s t =>
    @Option.rec (List Value) (fun _ => Option SharedT) (@Option.rec (SharedT × Thread) (fun _ => Option SharedT) none (fun r => @Prod.rec SharedT Thread (fun _ => Option SharedT) (fun s' t' => ih s' t') r) (stepT (denote tb) p w s t))
      (fun l => @List.rec Value (fun _ => Option SharedT) (some s) (fun _ _ _ => none) l) t.atExitBegin) n
theorem impR_succ {tb : String → Option Builtin} {p : Program} {w : World} {n : Nat} {s : SharedT} {t : Thread} : impR tb p w (n + 1) s t =
    @Option.rec (List Value) (fun _ => Option SharedT) (@Option.rec (SharedT × Thread) (fun _ => Option SharedT) none (fun r => @Prod.rec SharedT Thread (fun _ => Option SharedT) (fun s' t' => impR tb p w n s' t') r) (stepT (denote tb) p w s t))
      (fun l => @List.rec Value (fun _ => Option SharedT) (some s) (fun _ _ _ => none) l) t.atExitBegin := rfl
theorem impR_of {tb : String → Option Builtin} {p : Program} {w : World} : ∀ {n : Nat} {s s' : SharedT} {t : Thread}, impR tb p w n s t = some s' → importEnds tb p w n s.abs t = some s'.abs
  | 0, _, _, _, h => by cases h
  | n + 1, s, s', t, h => by
    rw [impR_succ] at h
    unfold importEnds
    cases he : t.atExitBegin with
    | some l =>
      rw [he] at h
      cases l with
      | nil => cases h; rfl
      | cons => cases h
    | none =>
      rw [he] at h
      cases hs : stepT (denote tb) p w s t with
      | none => rw [hs] at h; cases h
      | some r => obtain ⟨s₂, t₂⟩ := r; rw [hs] at h; rw [stepT_spec hs]; exact impR_of h

noncomputable def startR (p : Program) : SharedT := ⟨.nil, 0, (start p).1.heap.life, (start p).1.gens, (start p).1.drawn, (start p).1.toks, (start p).1.os⟩
theorem startR_abs (p : Program) : (startR p).abs = (start p).1 := rfl

/-- a heap as a tree -/
noncomputable def layR (l : List Obj) : BT → Nat → Option (BT × Nat) :=
  @List.rec Obj (fun _ => BT → Nat → Option (BT × Nat)) (fun T n => some (T, n)) (fun o _ ih T n => @Bool.rec (fun _ => Option (BT × Nat)) none (ih (T.ins n o) (n + 1)) ((T.ins n o).get n).isSome) l
theorem layR_of {life : Life} : ∀ {l : List Obj} {T T' : BT} {n n' : Nat}, layR l T n = some (T', n') → absHeap T' n' life = ⟨(absHeap T n life).objs ++ l.toArray, life⟩
  | [], T, T', n, n', h => by cases h; simp [absHeap]
  | o :: l, T, T', n, n', h => by
    have h' : @Bool.rec (fun _ => Option (BT × Nat)) none (layR l (T.ins n o) (n + 1)) ((T.ins n o).get n).isSome = some (T', n') := h
    cases hb : ((T.ins n o).get n).isSome with
    | false => rw [hb] at h'; cases h'
    | true =>
      rw [hb] at h'
      rw [layR_of (life := life) h', absHeap_ins hb]
      simp [Heap.push]
noncomputable def toR (s : Shared) : Option SharedT := (layR s.heap.objs.toList .nil 0).map fun r => ⟨r.1, r.2, s.heap.life, s.gens, s.drawn, s.toks, s.os⟩
theorem toR_abs {s : Shared} {r : SharedT} (h : toR s = some r) : r.abs = s := by
  unfold toR at h
  obtain ⟨⟨T, n⟩, h1, h2⟩ := Option.map_eq_some_iff.mp h
  subst h2
  have e := layR_of (life := s.heap.life) h1
  show (⟨absHeap T n s.heap.life, s.gens, s.drawn, s.toks, s.os⟩ : Shared) = s
  rw [e]
  obtain ⟨⟨objs, life⟩, gens, drawn, toks, os⟩ := s
  simp [absHeap, BT.list]

noncomputable def getsR (as : List Addr) (r : SharedT) : List (Option Obj) := as.map fun a => @Bool.rec (fun _ => Option Obj) none ((r.tree.get a).bind alive) (Nat.blt a r.n)
theorem getsR_of {r : SharedT} : ∀ {as : List Addr} {l : List Obj}, getsR as r = l.map some → as.map r.abs.heap.get? = l.map some
  | [], [], _ => rfl
  | [], _ :: _, h => by cases h
  | _ :: _, [], h => by cases h
  | a :: as, o :: l, h => by
    have h' : (@Bool.rec (fun _ => Option Obj) none ((r.tree.get a).bind alive) (Nat.blt a r.n)) :: getsR as r = some o :: l.map some := h
    obtain ⟨h1, h2⟩ := List.cons.inj h'
    have e := getsR_of h2
    rw [List.map_cons, List.map_cons, e]
    congr 1
    cases hb : Nat.blt a r.n with
    | false => rw [hb] at h1; cases h1
    | true =>
      rw [hb] at h1
      have lt : a < r.n := Nat.le_of_ble_eq_true hb
      obtain ⟨o', g, al⟩ := Option.bind_eq_some_iff.mp h1
      show (absHeap r.tree r.n r.life).get? a = some o
      rw [abs_get lt g, al]

noncomputable def leftR (p q : Program) (loose : List Str) (Xt : Shared → Bool) (as : List Addr) (N : Nat) (w : World) :=
  (impR treeTable (opening p) w N (startR (opening p)) (start (opening p)).2).bind fun s => (fenceModules? p s.abs).bind fun s₀ => (toR s₀).bind fun r₀ =>
    (topR treeTable p w s₀.heap.objs.size (s₀.heap.nsMap mainGlobals "__annotations__") N r₀ (topStub p)).map fun r =>
      ((s₀.heap.isNs mainGlobals && s₀.gens.size == 0, staticsOk (importedModules p.main.body) s₀.heap r.abs.heap && namesBound p r.abs.heap && gensDone r.abs && laidKept s₀.heap r.abs.heap), openSeen q loose (importedModules p.main.body) Xt true r.abs, getsR as r)
theorem left_of {p q : Program} {loose : List Str} {Xt : Shared → Bool} {K : Params → Frag} {as : List Addr} {N : Nat}
    (h : ∀ w, leftR p q loose Xt as N w = some ((true, true), openGood q loose, (K w.params).map fun x => some x.2)) : LeftO p q loose Xt (fun s => as.map s.heap.get?) (fun w => (K w.params).map fun x => some x.2) N := fun w => by
  have e := h w
  unfold leftR at e
  obtain ⟨s, h1, e⟩ := Option.bind_eq_some_iff.mp e
  obtain ⟨s₀, h2, e⟩ := Option.bind_eq_some_iff.mp e
  obtain ⟨r₀, h3, e⟩ := Option.bind_eq_some_iff.mp e
  obtain ⟨r, h4, e⟩ := Option.map_eq_some_iff.mp e
  obtain ⟨⟨z1, z2⟩, z3, z4⟩ : (_ ∧ _) ∧ _ ∧ _ := by simpa only [Prod.mk.injEq] using e
  have z5 : as.map r.abs.heap.get? = (K w.params).map fun x => some x.2 := by
    have e' : ((K w.params).map fun x => some x.2) = ((K w.params).map (·.2)).map some := by rw [List.map_map]; rfl
    rw [e'] at z4 ⊢
    exact getsR_of z4
  have i := impR_of h1
  rw [startR_abs] at i
  have t := topR_of h4
  rw [toR_abs h3] at t
  have tf : topFrom treeTable p w N s₀ = some r.abs := by
    unfold topFrom
    rw [z1, t]
    show (match staticsOk (importedModules p.main.body) s₀.heap r.abs.heap && namesBound p r.abs.heap && gensDone r.abs && laidKept s₀.heap r.abs.heap with | true => _ | false => _) = _
    rw [z2]
  unfold openEnds fencedOpening
  rw [i]
  show ((fenceModules? p s.abs).bind (topFrom treeTable p w N)).map _ = _
  rw [h2]
  show (topFrom treeTable p w N s₀).map _ = _
  rw [tf]
  exact congrArg some (Prod.ext z3 z5)

theorem and2 {a b : Bool} (ha : a = true) (hb : b = true) : (a && b) = true := by rw [ha, hb]; rfl
theorem said02 : Challenge.rw_op0202_02.wellSaid = true := by
  unfold OpenLaw.wellSaid
  unfold OpenRow.wellSaid OpenRow.partSaid looksOpen
  repeat' (with_reducible refine and2 ?_ ?_)
  all_goals decide +kernel
noncomputable def goodR (q : Program) (loose : List Str) := openGood q loose
lay_quick Mine.leftR Mine.goodR
noncomputable def Q02 : Program := view Challenge.pw_op0202_02 [0, 1, 3, 4, 5, 6, 7, 8, 9, 10, 12, 13, 14, 15, 16, 17, 19, 22, 23, 24, 29, 30, 31, 32, 33, 34, 35, 36, 37, 39, 40, 41, 42, 43]
noncomputable abbrev loose02 : List Str := ["UnsupportedOperation", "IOBase", "BufferedIOBase", "TextIOBase", "BytesIO", "StringIO", "shlex", "split", "b2a_base64", "b64encode"]
local macro_rules | `(tactic| o_law) => `(tactic| refine holds_law said02 fun said => ?_)
set_option hygiene false in
local macro_rules | `(tactic| o_head $H) => `(tactic| (
  refine holds_open (q := Q02) (loose := loose02) (Xt := fun s => xlAt Q02 [] s && recOk [] s) (XP := XL Q02 []) (Yf := Hook.obs $H) (Ya := Hook.val $H) (YP := Hook.says $H) (N := 6000) ?hl (Hook.of $H) (Hook.keeps $H) (fun s e => xl_of s (Bool.and_eq_true_iff.mp e).1) XL.keeps (by rfl) (by rfl) (by rfl) (fun s e => recFacts_of (Bool.and_eq_true_iff.mp e).2) (by rfl) (by first | assumption | decide +kernel) (by decide +kernel) ⟨rfl, rfl, rfl, rfl, rfl, by decide +kernel⟩ ?hw ?hc
  case hl =>
    refine left_of (p := Challenge.pw_op0202_02) ?_
    intro w
    show leftR Challenge.pw_op0202_02 Q02 loose02 _ _ 6000 w = some ((true, true), goodR Q02 loose02, _)
    rw [PySem.W.Fast.te11439460737713216136, PySem.W.Fast.te6507052236452232414]
    kernel_rfl))
open_top hd02 for PySem.Challenge.rw_op0202_02
theorem execs_one {M : Model} {A : Around} {E : Value → Shared → Prop} {s : Shared} {env : Env} {st : Stmt} {Q : Flow → Shared → Prop} (h : wpAny M A (exec st env) Q E s) : wpAny M A (execs [st] env) Q E s :=
  wpAny_execs_cons (wpAny_mono h (fun f s' hq => by cases f <;> first | exact wpAny_execs_nil hq | exact hq) fun _ _ e => e)
end Mine
end
section
open PySem PySem.W PyProof.Rows
set_option Elab.async false
set_option maxRecDepth 100000
set_option maxHeartbeats 0
namespace Mine
local macro_rules | `(tactic| k_room) => `(tactic| ktr_room)
local macro_rules | `(tactic| k_units) => `(tactic| ktr_units)
local macro_rules | `(tactic| k_all) => `(tactic| assumption)
local macro_rules | `(tactic| k_mem) => `(tactic| assumption)
local macro_rules | `(tactic| walk_at "execs cons") => `(tactic| (k_here; with_reducible refine execs_one ?_))
local macro_rules | `(tactic| walk_at "exec If") => `(tactic| refine wpAny_If ?_)
local macro_rules | `(tactic| walk_at "getAttr ref") => `(tactic| (k_here; k_dflt (refine' get_own ?k1 ?k2 ?k3 ?k4 ?k5 ?k6 ?k7 ?k8 ?k9 ?_; (case k1 => k_asm); (case k2 => k_asm); (case k3 => k_inst); (case k4 => k_is); (case k5 => k_is); (case k6 => k_is); (case k7 => k_is); (case k8 => k_get); (case k9 => k_handed); k_whole)))
local macro_rules | `(tactic| walk_at "eval Name") => `(tactic| (k_here; k_dflt (refine' ld ?k1 ?k2 ?_; (case k1 => k_asm); (case k2 => exact rfl); k_whole)))
local macro_rules | `(tactic| walk_at "ite") => `(tactic| first | with_reducible refine ite_tt ?_ | with_reducible refine ite_ff ?_)
section
theorem off_IO : True := by
  w_top off
  trivial
noncomputable def ioD (h1 h2 h3 : Int) (t1 t2 t3 t4 t5 t6 : Tok) (nl buf : Str) (pos : Int) : List DictEntry :=
  [⟨h1, .str "_StringIO__newline" t1, .str nl t2⟩, ⟨h2, .str "_StringIO__buf" t3, .str buf t4⟩, ⟨h3, .str "_StringIO__pos" t5, .int pos t6⟩]

theorem c_read (w : World) (rest : List (Addr × Obj)) (io dio : Addr) (h1 h2 h3 : Int) (t1 t2 t3 t4 t5 t6 t7 : Tok) (nl : Str) (pre post : List Nat) (c : Nat)
   (m1 : (io, instObj 587 dio) ∈ rest) (hne : ∀ p ∈ rest, p.1 ≠ dio) (hsz : pre.length + post.length < 1000) (buf : Str) (hbuf : buf = ⟨(pre ++ c :: post).toArray⟩) (pos : Int) (hpos : pos = (pre.length : Int))
   (news : List (Addr × Obj)) (hnews : news = (dio, dictOf (ioD h1 h2 h3 t1 t2 t3 t4 t5 t6 nl buf pos) 3) :: rest) :
  ∀ (p : Program) (loose : List Str) (mean : ExcName → Option Value) (mg mb : Str → Option Value) (dp un : Nat) (gd : Option (List Code)) (cn : Str) (cs : Scope) (a : Addr) (ccd : Value) (cl : List (Str × Addr)) (outer : List Env) (A₀ : Around) (base h₀ : Heap) (L : Addr) (m : Str → Option Value) (s : Shared) (Q E : Value → Shared → Prop),
    Below A₀ base outer h₀ → Fr h₀ L s.heap m → (hd02.heap_1 w.params).In h₀ → News h₀ L s.heap news → Top p loose mean mg mb h₀ → cs.kind = .function → dp + 5 < recursionLimit → un + 40 < cLine →
    (∀ t t' h' tk', Fr h₀ L h' m → News h₀ L h' ((dio, dictOf (ioD h1 h2 h3 t1 t2 t3 t4 t5 t' nl buf (pos + 1)) 3) :: rest) → Q (.str ⟨#[c]⟩ t) { s with heap := h', toks := tk' }) →
    wpAny (model Challenge.rw_op0202_02.row.prog w) (ktrTop dp un gd cn cs L a ccd cl outer) (call (.ref 533) [.ref io, .int 1 t7]) Q E s := by
  subst hnews
  have hlen : buf.length = pre.length + 1 + post.length := by
    subst hbuf
    show (pre ++ c :: post).toArray.size = _
    simp; omega
  have hsl : Txt.slice buf (some pos) (some (pos + 1)) = ⟨#[c]⟩ := by subst hbuf hpos; exact slice_one pre c post
  have hp0 : 0 ≤ pos := by omega
  have hp1 : pos < buf.length := by omega
  have hs1 : buf.length ≤ 1000 := by omega
  clear hbuf hpos hlen hsz
  k_fill
  intros
  rename_i hret
  (refine wpAny_call ?_; k_dflt (refine' code_def ?k1 ?k2 ?k3 ?k4 ?k5 ?kA ?kF ?kK ?k6 ?k7 ?k8 ?k9 ?kB ?_ ?c2 ?c3 ?c4 ?c5; (case kA => exact rfl); (case kF => exact rfl); (case kK => assumption); (case k1 => k_asm); (case k2 => k_asm); (case k3 => k_asm); (case k4 => k_asm); (case k5 => k_asm); (case k6 => k_is); (case k7 => k_is); (case k8 => ktr_room); (case k9 => first | exact BindsTo.of_eq rfl | exact binds_K (by k_in) rfl (by k_is) rfl rfl rfl); (case c5 => decide); (case kB => exact locs rfl); (case c2 => exact rfl); (case c3 => exact rfl); (case c4 => exact rfl); k_whole; intro g' L' h' FG' F' N' B' X' T'; (try dsimp only); (try k_lift B'); (try k_fold)))
  k_steps
  · rw [hsl]
    exact hret _ _ _ _ (by k_asm) (by k_asm)
  · have e : (buf.length : Int) = pos + 1 := by simp only [decide_eq_false_iff_not] at *; omega
    rename News _ _ _ _ => N
    rw [e] at N
    rw [e, hsl]
    exact hret _ _ _ _ (by k_asm) N

theorem c_read_end (w : World) (news : List (Addr × Obj)) (io dio : Addr) (h1 h2 h3 : Int) (t1 t2 t3 t4 t5 t6 t7 : Tok) (nl buf : Str) (pos : Int)
   (m1 : (io, instObj 587 dio) ∈ news) (m2 : (dio, dictOf (ioD h1 h2 h3 t1 t2 t3 t4 t5 t6 nl buf pos) 3) ∈ news) (hp1 : buf.length ≤ pos) (hs1 : buf.length ≤ 1000) :
  ∀ (p : Program) (loose : List Str) (mean : ExcName → Option Value) (mg mb : Str → Option Value) (dp un : Nat) (gd : Option (List Code)) (cn : Str) (cs : Scope) (a : Addr) (ccd : Value) (cl : List (Str × Addr)) (outer : List Env) (A₀ : Around) (base h₀ : Heap) (L : Addr) (m : Str → Option Value) (s : Shared) (Q E : Value → Shared → Prop),
    Below A₀ base outer h₀ → Fr h₀ L s.heap m → (hd02.heap_1 w.params).In h₀ → News h₀ L s.heap news → Top p loose mean mg mb h₀ → cs.kind = .function → dp + 5 < recursionLimit → un + 40 < cLine →
    (∀ t h' tk', Fr h₀ L h' m → News h₀ L h' news → Q (.str "" t) { s with heap := h', toks := tk' }) →
    wpAny (model Challenge.rw_op0202_02.row.prog w) (ktrTop dp un gd cn cs L a ccd cl outer) (call (.ref 533) [.ref io, .int 1 t7]) Q E s := by
  k_fill
  intros
  rename_i hret
  (refine wpAny_call ?_; k_dflt (refine' code_def ?k1 ?k2 ?k3 ?k4 ?k5 ?kA ?kF ?kK ?k6 ?k7 ?k8 ?k9 ?kB ?_ ?c2 ?c3 ?c4 ?c5; (case kA => exact rfl); (case kF => exact rfl); (case kK => assumption); (case k1 => k_asm); (case k2 => k_asm); (case k3 => k_asm); (case k4 => k_asm); (case k5 => k_asm); (case k6 => k_is); (case k7 => k_is); (case k8 => ktr_room); (case k9 => first | exact BindsTo.of_eq rfl | exact binds_K (by k_in) rfl (by k_is) rfl rfl rfl); (case c5 => decide); (case kB => exact locs rfl); (case c2 => exact rfl); (case c3 => exact rfl); (case c4 => exact rfl); k_whole; intro g' L' h' FG' F' N' B' X' T'; (try dsimp only); (try k_lift B'); (try k_fold)))
  k_steps
  exact hret _ _ _ (by k_asm) (by k_asm)
end
section
local macro_rules | `(tactic| walk_at "none OP 0") => `(tactic| fail)

theorem off_OP : True := by
  w_top off
  trivial
theorem c_add (w : World) (news : List (Addr × Obj)) (x y : Int) (tx ty : Tok) :
  ∀ (p : Program) (loose : List Str) (mean : ExcName → Option Value) (mg mb : Str → Option Value) (dp un : Nat) (gd : Option (List Code)) (cn : Str) (cs : Scope) (a : Addr) (ccd : Value) (cl : List (Str × Addr)) (outer : List Env) (A₀ : Around) (base h₀ : Heap) (L : Addr) (m : Str → Option Value) (s : Shared) (Q E : Value → Shared → Prop),
    Below A₀ base outer h₀ → Fr h₀ L s.heap m → (hd02.heap_1 w.params).In h₀ → News h₀ L s.heap news → Top p loose mean mg mb h₀ → cs.kind = .function → dp + 1 < recursionLimit → un + 8 < cLine →
    (∀ t h' tk', Fr h₀ L h' m → News h₀ L h' news → Q (.int (x + y) t) { s with heap := h', toks := tk' }) →
    wpAny (model Challenge.rw_op0202_02.row.prog w) (ktrTop dp un gd cn cs L a ccd cl outer) (call (.ref 771) [.int x tx, .int y ty]) Q E s := by
  k_fill
  intros
  rename_i hret
  (refine wpAny_call ?_; k_dflt (refine' code_def ?k1 ?k2 ?k3 ?k4 ?k5 ?kA ?kF ?kK ?k6 ?k7 ?k8 ?k9 ?kB ?_ ?c2 ?c3 ?c4 ?c5; (case kA => exact rfl); (case kF => exact rfl); (case kK => assumption); (case k1 => k_asm); (case k2 => k_asm); (case k3 => k_asm); (case k4 => k_asm); (case k5 => k_asm); (case k6 => k_is); (case k7 => k_is); (case k8 => ktr_room); (case k9 => first | exact BindsTo.of_eq rfl | exact binds_K (by k_in) rfl (by k_is) rfl rfl rfl); (case c5 => decide); (case kB => exact locs rfl); (case c2 => exact rfl); (case c3 => exact rfl); (case c4 => exact rfl); k_whole; intro g' L' h' FG' F' N' B' X' T'; (try dsimp only); (try k_lift B'); (try k_fold)))
  k_steps
  exact hret _ _ _ (by k_asm) (by k_asm)
theorem c_and_ (w : World) (news : List (Addr × Obj)) (x y : Int) (tx ty : Tok) :
  ∀ (p : Program) (loose : List Str) (mean : ExcName → Option Value) (mg mb : Str → Option Value) (dp un : Nat) (gd : Option (List Code)) (cn : Str) (cs : Scope) (a : Addr) (ccd : Value) (cl : List (Str × Addr)) (outer : List Env) (A₀ : Around) (base h₀ : Heap) (L : Addr) (m : Str → Option Value) (s : Shared) (Q E : Value → Shared → Prop),
    Below A₀ base outer h₀ → Fr h₀ L s.heap m → (hd02.heap_1 w.params).In h₀ → News h₀ L s.heap news → Top p loose mean mg mb h₀ → cs.kind = .function → dp + 1 < recursionLimit → un + 8 < cLine →
    (∀ t h' tk', Fr h₀ L h' m → News h₀ L h' news → Q (.int (Builtin.bitAnd x y) t) { s with heap := h', toks := tk' }) →
    wpAny (model Challenge.rw_op0202_02.row.prog w) (ktrTop dp un gd cn cs L a ccd cl outer) (call (.ref 778) [.int x tx, .int y ty]) Q E s := by
  k_fill
  intros
  rename_i hret
  (refine wpAny_call ?_; k_dflt (refine' code_def ?k1 ?k2 ?k3 ?k4 ?k5 ?kA ?kF ?kK ?k6 ?k7 ?k8 ?k9 ?kB ?_ ?c2 ?c3 ?c4 ?c5; (case kA => exact rfl); (case kF => exact rfl); (case kK => assumption); (case k1 => k_asm); (case k2 => k_asm); (case k3 => k_asm); (case k4 => k_asm); (case k5 => k_asm); (case k6 => k_is); (case k7 => k_is); (case k8 => ktr_room); (case k9 => first | exact BindsTo.of_eq rfl | exact binds_K (by k_in) rfl (by k_is) rfl rfl rfl); (case c5 => decide); (case kB => exact locs rfl); (case c2 => exact rfl); (case c3 => exact rfl); (case c4 => exact rfl); k_whole; intro g' L' h' FG' F' N' B' X' T'; (try dsimp only); (try k_lift B'); (try k_fold)))
  k_steps
  exact hret _ _ _ (by k_asm) (by k_asm)
theorem c_floordiv (w : World) (news : List (Addr × Obj)) (x : Int) (tx ty : Tok) :
  ∀ (p : Program) (loose : List Str) (mean : ExcName → Option Value) (mg mb : Str → Option Value) (dp un : Nat) (gd : Option (List Code)) (cn : Str) (cs : Scope) (a : Addr) (ccd : Value) (cl : List (Str × Addr)) (outer : List Env) (A₀ : Around) (base h₀ : Heap) (L : Addr) (m : Str → Option Value) (s : Shared) (Q E : Value → Shared → Prop),
    Below A₀ base outer h₀ → Fr h₀ L s.heap m → (hd02.heap_1 w.params).In h₀ → News h₀ L s.heap news → Top p loose mean mg mb h₀ → cs.kind = .function → dp + 1 < recursionLimit → un + 8 < cLine →
    (∀ t h' tk', Fr h₀ L h' m → News h₀ L h' news → Q (.int (x.fdiv 3) t) { s with heap := h', toks := tk' }) →
    wpAny (model Challenge.rw_op0202_02.row.prog w) (ktrTop dp un gd cn cs L a ccd cl outer) (call (.ref 785) [.int x tx, .int 3 ty]) Q E s := by
  k_fill
  intros
  rename_i hret
  (refine wpAny_call ?_; k_dflt (refine' code_def ?k1 ?k2 ?k3 ?k4 ?k5 ?kA ?kF ?kK ?k6 ?k7 ?k8 ?k9 ?kB ?_ ?c2 ?c3 ?c4 ?c5; (case kA => exact rfl); (case kF => exact rfl); (case kK => assumption); (case k1 => k_asm); (case k2 => k_asm); (case k3 => k_asm); (case k4 => k_asm); (case k5 => k_asm); (case k6 => k_is); (case k7 => k_is); (case k8 => ktr_room); (case k9 => first | exact BindsTo.of_eq rfl | exact binds_K (by k_in) rfl (by k_is) rfl rfl rfl); (case c5 => decide); (case kB => exact locs rfl); (case c2 => exact rfl); (case c3 => exact rfl); (case c4 => exact rfl); k_whole; intro g' L' h' FG' F' N' B' X' T'; (try dsimp only); (try k_lift B'); (try k_fold)))
  k_steps
  exact hret _ _ _ (by k_asm) (by k_asm)
theorem c_lshift (w : World) (news : List (Addr × Obj)) (x y : Int) (tx ty : Tok) (hy : 0 ≤ y) (hy2 : y ≤ 1000000) (ha : x.natAbs < 2 ^ 64) :
  ∀ (p : Program) (loose : List Str) (mean : ExcName → Option Value) (mg mb : Str → Option Value) (dp un : Nat) (gd : Option (List Code)) (cn : Str) (cs : Scope) (a : Addr) (ccd : Value) (cl : List (Str × Addr)) (outer : List Env) (A₀ : Around) (base h₀ : Heap) (L : Addr) (m : Str → Option Value) (s : Shared) (Q E : Value → Shared → Prop),
    Below A₀ base outer h₀ → Fr h₀ L s.heap m → (hd02.heap_1 w.params).In h₀ → News h₀ L s.heap news → Top p loose mean mg mb h₀ → cs.kind = .function → dp + 1 < recursionLimit → un + 8 < cLine →
    (∀ t h' tk', Fr h₀ L h' m → News h₀ L h' news → Q (.int (x * 2 ^ y.toNat) t) { s with heap := h', toks := tk' }) →
    wpAny (model Challenge.rw_op0202_02.row.prog w) (ktrTop dp un gd cn cs L a ccd cl outer) (call (.ref 792) [.int x tx, .int y ty]) Q E s := by
  k_fill
  intros
  rename_i hret
  (refine wpAny_call ?_; k_dflt (refine' code_def ?k1 ?k2 ?k3 ?k4 ?k5 ?kA ?kF ?kK ?k6 ?k7 ?k8 ?k9 ?kB ?_ ?c2 ?c3 ?c4 ?c5; (case kA => exact rfl); (case kF => exact rfl); (case kK => assumption); (case k1 => k_asm); (case k2 => k_asm); (case k3 => k_asm); (case k4 => k_asm); (case k5 => k_asm); (case k6 => k_is); (case k7 => k_is); (case k8 => ktr_room); (case k9 => first | exact BindsTo.of_eq rfl | exact binds_K (by k_in) rfl (by k_is) rfl rfl rfl); (case c5 => decide); (case kB => exact locs rfl); (case c2 => exact rfl); (case c3 => exact rfl); (case c4 => exact rfl); k_whole; intro g' L' h' FG' F' N' B' X' T'; (try dsimp only); (try k_lift B'); (try k_fold)))
  k_steps
  exact hret _ _ _ (by k_asm) (by k_asm)
theorem c_mod (w : World) (news : List (Addr × Obj)) (x y : Int) (tx ty : Tok) (hy : 0 < y) :
  ∀ (p : Program) (loose : List Str) (mean : ExcName → Option Value) (mg mb : Str → Option Value) (dp un : Nat) (gd : Option (List Code)) (cn : Str) (cs : Scope) (a : Addr) (ccd : Value) (cl : List (Str × Addr)) (outer : List Env) (A₀ : Around) (base h₀ : Heap) (L : Addr) (m : Str → Option Value) (s : Shared) (Q E : Value → Shared → Prop),
    Below A₀ base outer h₀ → Fr h₀ L s.heap m → (hd02.heap_1 w.params).In h₀ → News h₀ L s.heap news → Top p loose mean mg mb h₀ → cs.kind = .function → dp + 1 < recursionLimit → un + 8 < cLine →
    (∀ t h' tk', Fr h₀ L h' m → News h₀ L h' news → Q (.int (x.fmod y) t) { s with heap := h', toks := tk' }) →
    wpAny (model Challenge.rw_op0202_02.row.prog w) (ktrTop dp un gd cn cs L a ccd cl outer) (call (.ref 799) [.int x tx, .int y ty]) Q E s := by
  k_fill
  intros
  rename_i hret
  (refine wpAny_call ?_; k_dflt (refine' code_def ?k1 ?k2 ?k3 ?k4 ?k5 ?kA ?kF ?kK ?k6 ?k7 ?k8 ?k9 ?kB ?_ ?c2 ?c3 ?c4 ?c5; (case kA => exact rfl); (case kF => exact rfl); (case kK => assumption); (case k1 => k_asm); (case k2 => k_asm); (case k3 => k_asm); (case k4 => k_asm); (case k5 => k_asm); (case k6 => k_is); (case k7 => k_is); (case k8 => ktr_room); (case k9 => first | exact BindsTo.of_eq rfl | exact binds_K (by k_in) rfl (by k_is) rfl rfl rfl); (case c5 => decide); (case kB => exact locs rfl); (case c2 => exact rfl); (case c3 => exact rfl); (case c4 => exact rfl); k_whole; intro g' L' h' FG' F' N' B' X' T'; (try dsimp only); (try k_lift B'); (try k_fold)))
  k_steps
  exact hret _ _ _ (by k_asm) (by k_asm)
theorem c_neg (w : World) (news : List (Addr × Obj)) (x : Int) (tx : Tok) :
  ∀ (p : Program) (loose : List Str) (mean : ExcName → Option Value) (mg mb : Str → Option Value) (dp un : Nat) (gd : Option (List Code)) (cn : Str) (cs : Scope) (a : Addr) (ccd : Value) (cl : List (Str × Addr)) (outer : List Env) (A₀ : Around) (base h₀ : Heap) (L : Addr) (m : Str → Option Value) (s : Shared) (Q E : Value → Shared → Prop),
    Below A₀ base outer h₀ → Fr h₀ L s.heap m → (hd02.heap_1 w.params).In h₀ → News h₀ L s.heap news → Top p loose mean mg mb h₀ → cs.kind = .function → dp + 1 < recursionLimit → un + 8 < cLine →
    (∀ t h' tk', Fr h₀ L h' m → News h₀ L h' news → Q (.int (-x) t) { s with heap := h', toks := tk' }) →
    wpAny (model Challenge.rw_op0202_02.row.prog w) (ktrTop dp un gd cn cs L a ccd cl outer) (call (.ref 806) [.int x tx]) Q E s := by
  k_fill
  intros
  rename_i hret
  (refine wpAny_call ?_; k_dflt (refine' code_def ?k1 ?k2 ?k3 ?k4 ?k5 ?kA ?kF ?kK ?k6 ?k7 ?k8 ?k9 ?kB ?_ ?c2 ?c3 ?c4 ?c5; (case kA => exact rfl); (case kF => exact rfl); (case kK => assumption); (case k1 => k_asm); (case k2 => k_asm); (case k3 => k_asm); (case k4 => k_asm); (case k5 => k_asm); (case k6 => k_is); (case k7 => k_is); (case k8 => ktr_room); (case k9 => first | exact BindsTo.of_eq rfl | exact binds_K (by k_in) rfl (by k_is) rfl rfl rfl); (case c5 => decide); (case kB => exact locs rfl); (case c2 => exact rfl); (case c3 => exact rfl); (case c4 => exact rfl); k_whole; intro g' L' h' FG' F' N' B' X' T'; (try dsimp only); (try k_lift B'); (try k_fold)))
  k_steps
  exact hret _ _ _ (by k_asm) (by k_asm)
theorem c_or_ (w : World) (news : List (Addr × Obj)) (x y : Int) (tx ty : Tok) :
  ∀ (p : Program) (loose : List Str) (mean : ExcName → Option Value) (mg mb : Str → Option Value) (dp un : Nat) (gd : Option (List Code)) (cn : Str) (cs : Scope) (a : Addr) (ccd : Value) (cl : List (Str × Addr)) (outer : List Env) (A₀ : Around) (base h₀ : Heap) (L : Addr) (m : Str → Option Value) (s : Shared) (Q E : Value → Shared → Prop),
    Below A₀ base outer h₀ → Fr h₀ L s.heap m → (hd02.heap_1 w.params).In h₀ → News h₀ L s.heap news → Top p loose mean mg mb h₀ → cs.kind = .function → dp + 1 < recursionLimit → un + 8 < cLine →
    (∀ t h' tk', Fr h₀ L h' m → News h₀ L h' news → Q (.int (Builtin.bitOr x y) t) { s with heap := h', toks := tk' }) →
    wpAny (model Challenge.rw_op0202_02.row.prog w) (ktrTop dp un gd cn cs L a ccd cl outer) (call (.ref 813) [.int x tx, .int y ty]) Q E s := by
  k_fill
  intros
  rename_i hret
  (refine wpAny_call ?_; k_dflt (refine' code_def ?k1 ?k2 ?k3 ?k4 ?k5 ?kA ?kF ?kK ?k6 ?k7 ?k8 ?k9 ?kB ?_ ?c2 ?c3 ?c4 ?c5; (case kA => exact rfl); (case kF => exact rfl); (case kK => assumption); (case k1 => k_asm); (case k2 => k_asm); (case k3 => k_asm); (case k4 => k_asm); (case k5 => k_asm); (case k6 => k_is); (case k7 => k_is); (case k8 => ktr_room); (case k9 => first | exact BindsTo.of_eq rfl | exact binds_K (by k_in) rfl (by k_is) rfl rfl rfl); (case c5 => decide); (case kB => exact locs rfl); (case c2 => exact rfl); (case c3 => exact rfl); (case c4 => exact rfl); k_whole; intro g' L' h' FG' F' N' B' X' T'; (try dsimp only); (try k_lift B'); (try k_fold)))
  k_steps
  exact hret _ _ _ (by k_asm) (by k_asm)
theorem c_rshift (w : World) (news : List (Addr × Obj)) (x y : Int) (tx ty : Tok) (hy : 0 ≤ y) :
  ∀ (p : Program) (loose : List Str) (mean : ExcName → Option Value) (mg mb : Str → Option Value) (dp un : Nat) (gd : Option (List Code)) (cn : Str) (cs : Scope) (a : Addr) (ccd : Value) (cl : List (Str × Addr)) (outer : List Env) (A₀ : Around) (base h₀ : Heap) (L : Addr) (m : Str → Option Value) (s : Shared) (Q E : Value → Shared → Prop),
    Below A₀ base outer h₀ → Fr h₀ L s.heap m → (hd02.heap_1 w.params).In h₀ → News h₀ L s.heap news → Top p loose mean mg mb h₀ → cs.kind = .function → dp + 1 < recursionLimit → un + 8 < cLine →
    (∀ t h' tk', Fr h₀ L h' m → News h₀ L h' news → Q (.int (x.fdiv (2 ^ y.toNat)) t) { s with heap := h', toks := tk' }) →
    wpAny (model Challenge.rw_op0202_02.row.prog w) (ktrTop dp un gd cn cs L a ccd cl outer) (call (.ref 820) [.int x tx, .int y ty]) Q E s := by
  k_fill
  intros
  rename_i hret
  (refine wpAny_call ?_; k_dflt (refine' code_def ?k1 ?k2 ?k3 ?k4 ?k5 ?kA ?kF ?kK ?k6 ?k7 ?k8 ?k9 ?kB ?_ ?c2 ?c3 ?c4 ?c5; (case kA => exact rfl); (case kF => exact rfl); (case kK => assumption); (case k1 => k_asm); (case k2 => k_asm); (case k3 => k_asm); (case k4 => k_asm); (case k5 => k_asm); (case k6 => k_is); (case k7 => k_is); (case k8 => ktr_room); (case k9 => first | exact BindsTo.of_eq rfl | exact binds_K (by k_in) rfl (by k_is) rfl rfl rfl); (case c5 => decide); (case kB => exact locs rfl); (case c2 => exact rfl); (case c3 => exact rfl); (case c4 => exact rfl); k_whole; intro g' L' h' FG' F' N' B' X' T'; (try dsimp only); (try k_lift B'); (try k_fold)))
  k_steps
  exact hret _ _ _ (by k_asm) (by k_asm)
theorem c_sub (w : World) (news : List (Addr × Obj)) (x y : Int) (tx ty : Tok) :
  ∀ (p : Program) (loose : List Str) (mean : ExcName → Option Value) (mg mb : Str → Option Value) (dp un : Nat) (gd : Option (List Code)) (cn : Str) (cs : Scope) (a : Addr) (ccd : Value) (cl : List (Str × Addr)) (outer : List Env) (A₀ : Around) (base h₀ : Heap) (L : Addr) (m : Str → Option Value) (s : Shared) (Q E : Value → Shared → Prop),
    Below A₀ base outer h₀ → Fr h₀ L s.heap m → (hd02.heap_1 w.params).In h₀ → News h₀ L s.heap news → Top p loose mean mg mb h₀ → cs.kind = .function → dp + 1 < recursionLimit → un + 8 < cLine →
    (∀ t h' tk', Fr h₀ L h' m → News h₀ L h' news → Q (.int (x - y) t) { s with heap := h', toks := tk' }) →
    wpAny (model Challenge.rw_op0202_02.row.prog w) (ktrTop dp un gd cn cs L a ccd cl outer) (call (.ref 827) [.int x tx, .int y ty]) Q E s := by
  k_fill
  intros
  rename_i hret
  (refine wpAny_call ?_; k_dflt (refine' code_def ?k1 ?k2 ?k3 ?k4 ?k5 ?kA ?kF ?kK ?k6 ?k7 ?k8 ?k9 ?kB ?_ ?c2 ?c3 ?c4 ?c5; (case kA => exact rfl); (case kF => exact rfl); (case kK => assumption); (case k1 => k_asm); (case k2 => k_asm); (case k3 => k_asm); (case k4 => k_asm); (case k5 => k_asm); (case k6 => k_is); (case k7 => k_is); (case k8 => ktr_room); (case k9 => first | exact BindsTo.of_eq rfl | exact binds_K (by k_in) rfl (by k_is) rfl rfl rfl); (case c5 => decide); (case kB => exact locs rfl); (case c2 => exact rfl); (case c3 => exact rfl); (case c4 => exact rfl); k_whole; intro g' L' h' FG' F' N' B' X' T'; (try dsimp only); (try k_lift B'); (try k_fold)))
  k_steps
  exact hret _ _ _ (by k_asm) (by k_asm)
end
section
local macro_rules | `(tactic| walk_at "none B6 0") => `(tactic| fail)

local macro_rules | `(tactic| walk_at "call type:type") => `(tactic| ((with_reducible show wpAny _ _ (call _ [Value.bytes _ _]) _ _ _); refine call_type_of (Tx := "bytes") rfl (by decide +kernel) ?_))
theorem off_B6 : True := by
  w_top off
  trivial
theorem c_buffer (w : World) (news : List (Addr × Obj)) (b : Array UInt8) (tb : Tok) :
  ∀ (p : Program) (loose : List Str) (mean : ExcName → Option Value) (mg mb : Str → Option Value) (dp un : Nat) (gd : Option (List Code)) (cn : Str) (cs : Scope) (a : Addr) (ccd : Value) (cl : List (Str × Addr)) (outer : List Env) (A₀ : Around) (base h₀ : Heap) (L : Addr) (m : Str → Option Value) (s : Shared) (Q E : Value → Shared → Prop),
    Below A₀ base outer h₀ → Fr h₀ L s.heap m → (hd02.heap_1 w.params).In h₀ → News h₀ L s.heap news → Top p loose mean mg mb h₀ → cs.kind = .function → dp + 2 < recursionLimit → un + 16 < cLine →
    (∀ h' tk', Fr h₀ L h' m → News h₀ L h' news → Q (.bytes b tb) { s with heap := h', toks := tk' }) →
    wpAny (model Challenge.rw_op0202_02.row.prog w) (ktrTop dp un gd cn cs L a ccd cl outer) (call (.ref 741) [.bytes b tb]) Q E s := by
  k_fill
  intros
  rename_i hret
  (refine wpAny_call ?_; k_dflt (refine' code_def ?k1 ?k2 ?k3 ?k4 ?k5 ?kA ?kF ?kK ?k6 ?k7 ?k8 ?k9 ?kB ?_ ?c2 ?c3 ?c4 ?c5; (case kA => exact rfl); (case kF => exact rfl); (case kK => assumption); (case k1 => k_asm); (case k2 => k_asm); (case k3 => k_asm); (case k4 => k_asm); (case k5 => k_asm); (case k6 => k_is); (case k7 => k_is); (case k8 => ktr_room); (case k9 => first | exact BindsTo.of_eq rfl | exact binds_K (by k_in) rfl (by k_is) rfl rfl rfl); (case c5 => decide); (case kB => exact locs rfl); (case c2 => exact rfl); (case c3 => exact rfl); (case c4 => exact rfl); k_whole; intro g' L' h' FG' F' N' B' X' T'; (try dsimp only); (try k_lift B'); (try k_fold)))
  k_steps
  exact hret _ _ (by k_asm) (by k_asm)
theorem c_truth (w : World) (news : List (Addr × Obj)) :
  ∀ (p : Program) (loose : List Str) (mean : ExcName → Option Value) (mg mb : Str → Option Value) (dp un : Nat) (gd : Option (List Code)) (cn : Str) (cs : Scope) (a : Addr) (ccd : Value) (cl : List (Str × Addr)) (outer : List Env) (A₀ : Around) (base h₀ : Heap) (L : Addr) (m : Str → Option Value) (s : Shared) (Q E : Value → Shared → Prop),
    Below A₀ base outer h₀ → Fr h₀ L s.heap m → (hd02.heap_1 w.params).In h₀ → News h₀ L s.heap news → Top p loose mean mg mb h₀ → cs.kind = .function → dp + 2 < recursionLimit → un + 16 < cLine →
    (∀ h' tk', Fr h₀ L h' m → News h₀ L h' news → Q (.bool false) { s with heap := h', toks := tk' }) →
    wpAny (model Challenge.rw_op0202_02.row.prog w) (ktrTop dp un gd cn cs L a ccd cl outer) (call (.ref 748) [.bool false]) Q E s := by
  k_fill
  intros
  rename_i hret
  (refine wpAny_call ?_; k_dflt (refine' code_def ?k1 ?k2 ?k3 ?k4 ?k5 ?kA ?kF ?kK ?k6 ?k7 ?k8 ?k9 ?kB ?_ ?c2 ?c3 ?c4 ?c5; (case kA => exact rfl); (case kF => exact rfl); (case kK => assumption); (case k1 => k_asm); (case k2 => k_asm); (case k3 => k_asm); (case k4 => k_asm); (case k5 => k_asm); (case k6 => k_is); (case k7 => k_is); (case k8 => ktr_room); (case k9 => first | exact BindsTo.of_eq rfl | exact binds_K (by k_in) rfl (by k_is) rfl rfl rfl); (case c5 => decide); (case kB => exact locs rfl); (case c2 => exact rfl); (case c3 => exact rfl); (case c4 => exact rfl); k_whole; intro g' L' h' FG' F' N' B' X' T'; (try dsimp only); (try k_lift B'); (try k_fold)))
  k_steps
  exact hret _ _ (by k_asm) (by k_asm)
local macro_rules | `(tactic| walk_at "binaryOp LShift int int") => `(tactic| (refine lshift_int_small (by decide) (by decide) (by first | exact nat_and3 _ | exact nat_and15 _ | omega) ?_))
local macro_rules | `(tactic| walk_at "subscriptTail") => `(tactic| ((with_reducible show wpAny _ _ (subscriptTail _ _ (Value.bytes _ _) (Value.int _ _)) _ _ _); refine KBw.item_K (ks := b64I) (by decide +kernel) (by decide) (by first | exact (idx63 _).1 | exact (idx3 _).1 | exact (idx15 _).1) (by first | exact (idx63 _).2 | exact (idx3 _).2 | exact (idx15 _).2) ?_; intro t9 k9 _ _; (try dsimp only)))
local macro_rules | `(tactic| walk_at "call ref") => `(tactic| k_extra "m call")
local macro_rules | `(tactic| walk_at "call type:bytes") => `(tactic| (k_here; (try simp only [List.push_toArray] at *); (with_reducible show wpAny _ _ (call (Value.type "bytes") [Value.ref _]) _ _ _); k_dflt (refine' KBa.make_K ?kbaF ?kbaN ?kbah ?kbal ?kbai ?kbar ?kban ?_; (case kbaF => k_asm); (case kbaN => k_asm); (case kbah => rfl); (case kbal => kba_isList); (case kbai => first | exact ints_snoc (ints_snoc (ints_snoc (by assumption))) | exact ints_snoc (ints_snoc (by assumption)) | kba_listInts); (case kbar => first | assumption | exact in_snoc (in_snoc (in_snoc (by assumption) (b64I_in _)) (by decide)) (by decide) | exact in_snoc (in_snoc (by assumption) (b64I_in _)) (by decide)); (case kban => kba_size)); intro _ _ _ F' N' _))
local macro_rules | `(tactic| kst_facts) => `(tactic| exact IntsAre.nil)
local macro_rules | `(tactic| kst_all) => `(tactic| ((try dsimp only); refine List.forall_mem_cons.mpr ⟨by exact rfl, List.forall_mem_cons.mpr ⟨by exact rfl, ?_⟩⟩; exact List.forall_mem_nil _))
local macro_rules | `(tactic| kst_p) => `(tactic| exact rfl)
theorem c_b2a (w : World) (news : List (Addr × Obj)) (b : Array UInt8) (tb : Tok) (hbs : b.toList.length < 2000) :
  ∀ (p : Program) (loose : List Str) (mean : ExcName → Option Value) (mg mb : Str → Option Value) (dp un : Nat) (gd : Option (List Code)) (cn : Str) (cs : Scope) (a : Addr) (ccd : Value) (cl : List (Str × Addr)) (outer : List Env) (A₀ : Around) (base h₀ : Heap) (L : Addr) (m : Str → Option Value) (s : Shared) (Q E : Value → Shared → Prop),
    Below A₀ base outer h₀ → Fr h₀ L s.heap m → (hd02.heap_1 w.params).In h₀ → News h₀ L s.heap news → Top p loose mean mg mb h₀ → cs.kind = .function → dp + 3 < recursionLimit → un + 24 < cLine →
    (∀ t h' tk', Fr h₀ L h' m → News h₀ L h' news → Q (.bytes (byteArr (b64out b)) t) { s with heap := h', toks := tk' }) →
    wpAny (model Challenge.rw_op0202_02.row.prog w) (ktrTop dp un gd cn cs L a ccd cl outer) (call (.ref 756) [.bytes b tb] [("newline", .bool false)]) Q E s := by
  k_fill
  intros
  rename_i hret
  k_with_none
  k_with "m call" =>
    first
    | ((with_reducible show wpAny _ _ (call (Value.ref 741) _) _ _ _); k_dflt (refine' c_buffer w _ _ _ _ _ _ _ _ _ _ _ _ _ _ _ _ _ _ _ _ _ _ _ _ _ ?k1 ?k2 ?k3 ?k4 ?k5 ?k6 ?k8 ?k9 ?_))
    | ((with_reducible show wpAny _ _ (call (Value.ref 748) _) _ _ _); k_dflt (refine' c_truth w _ _ _ _ _ _ _ _ _ _ _ _ _ _ _ _ _ _ _ _ _ _ _ ?k1 ?k2 ?k3 ?k4 ?k5 ?k6 ?k8 ?k9 ?_))
    (case k1 => k_asm)
    (case k2 => k_asm)
    (case k3 => k_asm)
    (case k4 => k_asm)
    (case k5 => k_asm)
    (case k6 => exact rfl)
    (case k8 => ktr_room)
    (case k9 => ktr_units)
    k_whole
    intro h9 tk9 F9 N9
    (try dsimp only)
    (try k_fold)
  (refine wpAny_call ?_; k_dflt (refine' code_def ?k1 ?k2 ?k3 ?k4 ?k5 ?kA ?kF ?kK ?k6 ?k7 ?k8 ?k9 ?kB ?_ ?c2 ?c3 ?c4 ?c5; (case kA => exact rfl); (case kF => exact rfl); (case kK => assumption); (case k1 => k_asm); (case k2 => k_asm); (case k3 => k_asm); (case k4 => k_asm); (case k5 => k_asm); (case k6 => k_is); (case k7 => k_is); (case k8 => ktr_room); (case k9 => first | exact BindsTo.of_eq rfl | exact binds_K (by k_in) rfl (by k_is) rfl rfl rfl); (case c5 => decide); (case kB => exact locs rfl); (case c2 => exact rfl); (case c3 => exact rfl); (case c4 => exact rfl); k_whole; intro g' L' h' FG' F' N' B' X' T'; (try dsimp only); (try k_lift B'); (try k_fold)))
  k_steps
  k_state (fun pre out lb lc => b64fold pre = (out, lb, lc)) "out" "leftbits" "leftchar"
  · have hlb := b64fold_lb kPre
    have hlc := b64fold_lc kPre
    have hln := b64fold_len kPre
    rw [kInv] at hlb hlc hln
    dsimp only at hlb hlc hln
    obtain ⟨hlc1, hlc2⟩ := hlc
    k_with "state" => (rw [b64fold_snoc, kInv]; exact rfl)
    rcases hlb with rfl | rfl | rfl
    all_goals k_steps
  · have hlb := b64fold_lb (List.map (fun c => ((UInt8.toNat c : Nat) : Int)) b.toList)
    have hlc := b64fold_lc (List.map (fun c => ((UInt8.toNat c : Nat) : Int)) b.toList)
    have hln := b64fold_len (List.map (fun c => ((UInt8.toNat c : Nat) : Int)) b.toList)
    have hin := b64fold_in (List.map (fun c => ((UInt8.toNat c : Nat) : Int)) b.toList)
    have hou : b64out b = b64tail (b64fold (List.map (fun c => ((UInt8.toNat c : Nat) : Int)) b.toList)) := rfl
    rw [kInv] at hlb hlc hln hin hou
    dsimp only at hlb hlc hln hin
    rw [List.length_map] at hln
    obtain ⟨hlc1, hlc2⟩ := hlc
    rcases hlb with rfl | rfl | rfl
    · k_steps
      rename News _ _ _ _ => kN9
      rename Fr _ _ _ _ => kF9
      rw [hou] at hret
      exact hret _ _ _ kF9 (fun p hp => kN9 p (.tail _ hp))
    · k_steps
      rename News _ _ _ _ => kN9
      rename Fr _ _ _ _ => kF9
      rw [hou] at hret
      exact hret _ _ _ kF9 (fun p hp => kN9 p (.tail _ hp))
    · k_steps
      rename News _ _ _ _ => kN9
      rename Fr _ _ _ _ => kF9
      rw [hou] at hret
      exact hret _ _ _ kF9 (fun p hp => kN9 p (.tail _ hp))
end
section
local macro_rules | `(tactic| walk_at "none B7 0") => `(tactic| fail)
local macro_rules | `(tactic| walk_at "none B7 1") => `(tactic| fail)
local macro_rules | `(tactic| walk_at "none B7 2") => `(tactic| fail)
local macro_rules | `(tactic| walk_at "none B7 3") => `(tactic| fail)
local macro_rules | `(tactic| walk_at "none B7 4") => `(tactic| fail)
local macro_rules | `(tactic| walk_at "none B7 5") => `(tactic| fail)

local macro_rules | `(tactic| walk_at "call ref") => `(tactic| k_extra "m call")
theorem off_B7 : True := by
  w_top off
  trivial
theorem c_b64p (w : World) (news : List (Addr × Obj)) (b : Array UInt8) (tb : Tok) (hbs : b.toList.length < 2000) :
  ∀ (p : Program) (loose : List Str) (mean : ExcName → Option Value) (mg mb : Str → Option Value) (dp un : Nat) (gd : Option (List Code)) (cn : Str) (cs : Scope) (a : Addr) (ccd : Value) (cl : List (Str × Addr)) (outer : List Env) (A₀ : Around) (base h₀ : Heap) (L : Addr) (m : Str → Option Value) (s : Shared) (Q E : Value → Shared → Prop),
    Below A₀ base outer h₀ → Fr h₀ L s.heap m → (hd02.heap_1 w.params).In h₀ → News h₀ L s.heap news → Top p loose mean mg mb h₀ → cs.kind = .function → dp + 5 < recursionLimit → un + 40 < cLine →
    (∀ t h' tk', Fr h₀ L h' m → News h₀ L h' news → Q (.bytes (byteArr (b64out b)) t) { s with heap := h', toks := tk' }) →
    wpAny (model Challenge.rw_op0202_02.row.prog w) (ktrTop dp un gd cn cs L a ccd cl outer) (call (.ref 764) [.bytes b tb]) Q E s := by
  k_fill
  intros
  rename_i hret
  k_with_none
  k_with "m call" =>
    first
    | ((with_reducible show wpAny _ _ (call (Value.ref 756) _ _) _ _ _); k_dflt (refine' c_b2a w _ b _ hbs _ _ _ _ _ _ _ _ _ _ _ _ _ _ _ _ _ _ _ _ _ _ ?k1 ?k2 ?k3 ?k4 ?k5 ?k6 ?k8 ?k9 ?_; (case k1 => k_asm); (case k2 => k_asm); (case k3 => k_asm); (case k4 => k_asm); (case k5 => k_asm); (case k6 => exact rfl); (case k8 => ktr_room); (case k9 => ktr_units); k_whole); intro t9 h9 tk9 F9 N9; (try dsimp only); (try k_fold))
  (refine wpAny_call ?_; k_dflt (refine' code_def ?k1 ?k2 ?k3 ?k4 ?k5 ?kA ?kF ?kK ?k6 ?k7 ?k8 ?k9 ?kB ?_ ?c2 ?c3 ?c4 ?c5; (case kA => exact rfl); (case kF => exact rfl); (case kK => assumption); (case k1 => k_asm); (case k2 => k_asm); (case k3 => k_asm); (case k4 => k_asm); (case k5 => k_asm); (case k6 => k_is); (case k7 => k_is); (case k8 => ktr_room); (case k9 => first | exact BindsTo.of_eq rfl | exact binds_K (by k_in) rfl (by k_is) rfl rfl rfl); (case c5 => decide); (case kB => exact locs rfl); (case c2 => exact rfl); (case c3 => exact rfl); (case c4 => exact rfl); k_whole; intro g' L' h' FG' F' N' B' X' T'; (try dsimp only); (try k_lift B'); (try k_fold)))
  k_steps
  exact hret _ _ _ (by k_asm) (by k_asm)
theorem bytes_no (a0 a1 : UInt8) (h : ((#[a0, a1] : Array UInt8).size : Int) ≠ 2) : False := h rfl
local macro_rules | `(tactic| walk_at "getMethod bytes") => `(tactic| (k_here; (with_reducible refine method_tr ?_)))
local macro_rules | `(tactic| walk_at "getMethod type:bytes") => `(tactic| (k_here; refine' method_type ?F ?X ?m (by decide +kernel) ?e ?h ?_; (case F => k_asm); (case X => k_asm); (case m => kernel_rfl); (case e => k_dflt k_is); (case h => k_handed)))
local macro_rules | `(tactic| walk_at "call builtin:bytes.maketrans") => `(tactic| (k_here; refine call_mt ?_; intro t8 k8))
theorem c_b64a (w : World) (news : List (Addr × Obj)) (b : Array UInt8) (tb ta : Tok) (a0 a1 : UInt8) (hbs : b.toList.length < 2000) :
  ∀ (p : Program) (loose : List Str) (mean : ExcName → Option Value) (mg mb : Str → Option Value) (dp un : Nat) (gd : Option (List Code)) (cn : Str) (cs : Scope) (a : Addr) (ccd : Value) (cl : List (Str × Addr)) (outer : List Env) (A₀ : Around) (base h₀ : Heap) (L : Addr) (m : Str → Option Value) (s : Shared) (Q E : Value → Shared → Prop),
    Below A₀ base outer h₀ → Fr h₀ L s.heap m → (hd02.heap_1 w.params).In h₀ → News h₀ L s.heap news → Top p loose mean mg mb h₀ → cs.kind = .function → dp + 5 < recursionLimit → un + 40 < cLine →
    (∀ t h' tk', Fr h₀ L h' m → News h₀ L h' news → Q (.bytes (byteArr ((b64out b).map (trA (a0.toNat : Int) (a1.toNat : Int)))) t) { s with heap := h', toks := tk' }) →
    wpAny (model Challenge.rw_op0202_02.row.prog w) (ktrTop dp un gd cn cs L a ccd cl outer) (call (.ref 764) [.bytes b tb, .bytes #[a0, a1] ta]) Q E s := by
  k_fill
  intros
  rename_i hret
  k_with_none
  k_with "m call" =>
    first
    | ((with_reducible show wpAny _ _ (call (Value.ref 756) _ _) _ _ _); k_dflt (refine' c_b2a w _ b _ hbs _ _ _ _ _ _ _ _ _ _ _ _ _ _ _ _ _ _ _ _ _ _ ?k1 ?k2 ?k3 ?k4 ?k5 ?k6 ?k8 ?k9 ?_; (case k1 => k_asm); (case k2 => k_asm); (case k3 => k_asm); (case k4 => k_asm); (case k5 => k_asm); (case k6 => exact rfl); (case k8 => ktr_room); (case k9 => ktr_units); k_whole); intro t9 h9 tk9 F9 N9; (try dsimp only); (try k_fold))
  (refine wpAny_call ?_; k_dflt (refine' code_def ?k1 ?k2 ?k3 ?k4 ?k5 ?kA ?kF ?kK ?k6 ?k7 ?k8 ?k9 ?kB ?_ ?c2 ?c3 ?c4 ?c5; (case kA => exact rfl); (case kF => exact rfl); (case kK => assumption); (case k1 => k_asm); (case k2 => k_asm); (case k3 => k_asm); (case k4 => k_asm); (case k5 => k_asm); (case k6 => k_is); (case k7 => k_is); (case k8 => ktr_room); (case k9 => first | exact BindsTo.of_eq rfl | exact binds_K (by k_in) rfl (by k_is) rfl rfl rfl); (case c5 => decide); (case kB => exact locs rfl); (case c2 => exact rfl); (case c3 => exact rfl); (case c4 => exact rfl); k_whole; intro g' L' h' FG' F' N' B' X' T'; (try dsimp only); (try k_lift B'); (try k_fold)))
  k_steps
  · k_dflt (refine' call_tr ?sz ?_; (case sz => rw [byteArr_size]; have := b64out_len b; omega); k_whole)
    intro t7 k7
    rw [tr_make (b64out_in _)]
    k_steps
    exact hret _ _ _ (by k_asm) (by k_asm)
  · exact (bytes_no _ _ (by assumption)).elim
end
section
local macro_rules | `(tactic| walk_at "call ref") => `(tactic| k_extra "m call")
local macro_rules | `(tactic| walk_at "call builtin:len") => `(tactic| (k_here; (with_reducible show wpAny _ _ (call (Value.builtin "len") [Value.ref _]) _ _ _); k_dflt (refine' kst_len ?k1 ?k2 ?k3 ?k4 ?_; (case k1 => k_asm); (case k2 => first | exact List.Mem.head _ | kst_mem); (case k3 => exact IntsAre.length (by assumption)); (case k4 => omega)); k_whole))
local macro_rules | `(tactic| walk_at "subscriptTail") => `(tactic| (k_here; (with_reducible show wpAny _ _ (subscriptTail _ _ (Value.ref _) (Value.int _ _)) _ _ _); k_dflt (refine' item_lst ?k1 ?k2 ?k3 ?k4 ?k5 ?k6 ?_; (case k1 => k_asm); (case k2 => first | exact List.Mem.head _ | kst_mem); (case k3 => assumption); (case k4 => omega); (case k5 => omega); (case k6 => omega)); k_whole; intro t6; (try dsimp only)))
local macro_rules | `(tactic| walk_at "call builtin:list.extend") => `(tactic| (k_here; (with_reducible show wpAny _ _ (call (Value.builtin _) [Value.ref _, Value.ref _]) _ _ _); k_dflt (refine' ext_lst ?F ?N ?b ?ne ?U ?z ?_; (case F => k_asm); (case N => k_asm); (case b => exact List.Mem.head _); (case ne => exact Nat.succ_ne_zero _); (case U => k_upd); (case z => first | ((show _ + 3 ≤ _); omega) | ((simp only [List.length_cons, List.length_nil]); omega))); kl_rest))
local macro_rules | `(tactic| kst_facts) => `(tactic| (try dsimp only) <;> first | exact IntsAre.nil | exact .cons _ _ .nil | exact ints_snoc2 (by assumption) | exact ints_snoc3 (by assumption) | trace_state)
local macro_rules | `(tactic| walk_at "exec For Name Subscript cons nil") => `(tactic| (k_here; (rename Fr _ _ _ _ => lF'); (with_unfolding_all refine' For_invVF lF' ?k1 ?k2 ?_; (case k1 => exact rfl); (case k2 => exact rfl); k_whole)))
local macro_rules | `(tactic| walk_at "eval ListComp") => `(tactic| (k_here; (with_reducible show wpAny _ _ (eval (PySem.Expr.ListComp _ [⟨_, PySem.Expr.Call (PySem.Expr.Name (Str.ofString "b64encode") _) _ _ _, _, _⟩] _ _) _) _ _ _); k_dflt (refine ListComp_B (_F₀ := by k_asm) (by with_unfolding_all rfl) (by decide) (by rfl) (by decide) (by rfl) ?_)))
theorem off_LN : True := by
  w_top off
  trivial
theorem c_mod3 (w : World) (news : List (Addr × Obj)) (l : Nat) (tx ty : Tok) (hl : l % 4 = 1) :
  ∀ (p : Program) (loose : List Str) (mean : ExcName → Option Value) (mg mb : Str → Option Value) (dp un : Nat) (gd : Option (List Code)) (cn : Str) (cs : Scope) (a : Addr) (ccd : Value) (cl : List (Str × Addr)) (outer : List Env) (A₀ : Around) (base h₀ : Heap) (L : Addr) (m : Str → Option Value) (s : Shared) (Q E : Value → Shared → Prop),
    Below A₀ base outer h₀ → Fr h₀ L s.heap m → (hd02.heap_1 w.params).In h₀ → News h₀ L s.heap news → Top p loose mean mg mb h₀ → cs.kind = .function → dp + 1 < recursionLimit → un + 8 < cLine →
    (∀ t h' tk', Fr h₀ L h' m → News h₀ L h' news → Q (.int 3 t) { s with heap := h', toks := tk' }) →
    wpAny (model Challenge.rw_op0202_02.row.prog w) (ktrTop dp un gd cn cs L a ccd cl outer) (call (.ref 799) [.int (-(l : Int)) tx, .int 4 ty]) Q E s := by
  have e : (-(l : Int)).fmod 4 = 3 := by rw [Int.fmod_eq_emod_of_nonneg _ (by decide)]; omega
  have := c_mod w news (-(l : Int)) 4 tx ty (by decide)
  rw [e] at this
  exact this
theorem c_line (w : World) (news : List (Addr × Obj)) (bl : Addr) (vs : List Value) (nb : Nat) (bits : List Int) (hbl : (bl, listOf vs.toArray nb) ∈ news) (hi : IntsAre vs bits) (h01 : ∀ x ∈ bits, x = 0 ∨ x = 1) (hn : bits.length ≤ 48) (hm8 : bits.length % 8 = 0) :
  ∀ (p : Program) (loose : List Str) (mean : ExcName → Option Value) (mg mb : Str → Option Value) (dp un : Nat) (gd : Option (List Code)) (cn : Str) (cs : Scope) (a : Addr) (ccd : Value) (cl : List (Str × Addr)) (outer : List Env) (A₀ : Around) (base h₀ : Heap) (L : Addr) (m : Str → Option Value) (s : Shared) (Q E : Value → Shared → Prop),
    Below A₀ base outer h₀ → Fr h₀ L s.heap m → (hd02.heap_1 w.params).In h₀ → News h₀ L s.heap news → Top p loose mean mg mb h₀ → cs.kind = .function → dp + 7 < recursionLimit → un + 56 < cLine →
    (∀ t h' tk', Fr h₀ L h' m → News h₀ L h' news → Q (.str ⟨(lineN bits).toArray⟩ t) { s with heap := h', toks := tk' }) →
    wpAny (model Challenge.rw_op0202_02.row.prog w) (ktrTop dp un gd cn cs L a ccd cl outer) (call (.ref 839) [.ref bl]) Q E s := by
  k_fill
  intros
  rename_i hret
  k_with_none
  k_with "m call" =>
    first
    | ((with_reducible show wpAny _ _ (call (Value.ref 771) _) _ _ _); k_dflt (refine' c_add w _ _ _ _ _ _ _ _ _ _ _ _ _ _ _ _ _ _ _ _ _ _ _ _ _ _ _ ?k1 ?k2 ?k3 ?k4 ?k5 ?k6 ?k8 ?k9 ?_; (case k1 => k_asm); (case k2 => k_asm); (case k3 => k_asm); (case k4 => k_asm); (case k5 => k_asm); (case k6 => exact rfl); (case k8 => ktr_room); (case k9 => ktr_units); k_whole); intro t9 h9 tk9 F9 N9; (try dsimp only); (try k_fold))
    | ((with_reducible show wpAny _ _ (call (Value.ref 806) _) _ _ _); k_dflt (refine' c_neg w _ _ _ _ _ _ _ _ _ _ _ _ _ _ _ _ _ _ _ _ _ _ _ _ _ ?k1 ?k2 ?k3 ?k4 ?k5 ?k6 ?k8 ?k9 ?_; (case k1 => k_asm); (case k2 => k_asm); (case k3 => k_asm); (case k4 => k_asm); (case k5 => k_asm); (case k6 => exact rfl); (case k8 => ktr_room); (case k9 => ktr_units); k_whole); intro t9 h9 tk9 F9 N9; (try dsimp only); (try k_fold))
    | ((with_reducible show wpAny _ _ (call (Value.ref 799) _) _ _ _); k_dflt (refine' c_mod3 w _ _ _ _ (by omega) _ _ _ _ _ _ _ _ _ _ _ _ _ _ _ _ _ _ _ _ _ _ ?k1 ?k2 ?k3 ?k4 ?k5 ?k6 ?k8 ?k9 ?_; (case k1 => k_asm); (case k2 => k_asm); (case k3 => k_asm); (case k4 => k_asm); (case k5 => k_asm); (case k6 => exact rfl); (case k8 => ktr_room); (case k9 => ktr_units); k_whole); intro t9 h9 tk9 F9 N9; (try dsimp only); (try k_fold))
    | ((with_reducible show wpAny _ _ (call (Value.ref 820) _) _ _ _); k_dflt (refine' c_rshift w _ _ _ _ _ (by decide) _ _ _ _ _ _ _ _ _ _ _ _ _ _ _ _ _ _ _ _ _ _ ?k1 ?k2 ?k3 ?k4 ?k5 ?k6 ?k8 ?k9 ?_; (case k1 => k_asm); (case k2 => k_asm); (case k3 => k_asm); (case k4 => k_asm); (case k5 => k_asm); (case k6 => exact rfl); (case k8 => ktr_room); (case k9 => ktr_units); k_whole); intro t9 h9 tk9 F9 N9; (try dsimp only); (try k_fold))
    | ((with_reducible show wpAny _ _ (call (Value.ref 778) _) _ _ _); k_dflt (refine' c_and_ w _ _ _ _ _ _ _ _ _ _ _ _ _ _ _ _ _ _ _ _ _ _ _ _ _ _ _ ?k1 ?k2 ?k3 ?k4 ?k5 ?k6 ?k8 ?k9 ?_; (case k1 => k_asm); (case k2 => k_asm); (case k3 => k_asm); (case k4 => k_asm); (case k5 => k_asm); (case k6 => exact rfl); (case k8 => ktr_room); (case k9 => ktr_units); k_whole); intro t9 h9 tk9 F9 N9; (try dsimp only); (try k_fold))
    | ((with_reducible show wpAny _ _ (call (Value.ref 792) _) _ _ _); k_dflt (refine' c_lshift w _ _ _ _ _ (by decide) (by decide) (by assumption) _ _ _ _ _ _ _ _ _ _ _ _ _ _ _ _ _ _ _ _ _ _ ?k1 ?k2 ?k3 ?k4 ?k5 ?k6 ?k8 ?k9 ?_; (case k1 => k_asm); (case k2 => k_asm); (case k3 => k_asm); (case k4 => k_asm); (case k5 => k_asm); (case k6 => exact rfl); (case k8 => ktr_room); (case k9 => ktr_units); k_whole); intro t9 h9 tk9 F9 N9; (try dsimp only); (try k_fold))
    | ((with_reducible show wpAny _ _ (call (Value.ref 764) _) _ _ _); k_dflt (refine' c_b64a w _ _ _ _ 34 39 (by rw [Array.length_toList, byteArr_size]; omega) _ _ _ _ _ _ _ _ _ _ _ _ _ _ _ _ _ _ _ _ _ _ ?k1 ?k2 ?k3 ?k4 ?k5 ?k6 ?k8 ?k9 ?_; (case k1 => k_asm); (case k2 => k_asm); (case k3 => k_asm); (case k4 => k_asm); (case k5 => k_asm); (case k6 => exact rfl); (case k8 => ktr_room); (case k9 => ktr_units); k_whole); intro t9 h9 tk9 F9 N9; (try dsimp only); (try k_fold))
    | ((with_reducible show wpAny _ _ (call (Value.ref 813) _) _ _ _); k_dflt (refine' c_or_ w _ _ _ _ _ _ _ _ _ _ _ _ _ _ _ _ _ _ _ _ _ _ _ _ _ _ _ ?k1 ?k2 ?k3 ?k4 ?k5 ?k6 ?k8 ?k9 ?_; (case k1 => k_asm); (case k2 => k_asm); (case k3 => k_asm); (case k4 => k_asm); (case k5 => k_asm); (case k6 => exact rfl); (case k8 => ktr_room); (case k9 => ktr_units); k_whole); intro t9 h9 tk9 F9 N9; (try dsimp only); (try k_fold))
  (refine wpAny_call ?_; k_dflt (refine' code_def ?k1 ?k2 ?k3 ?k4 ?k5 ?kA ?kF ?kK ?k6 ?k7 ?k8 ?k9 ?kB ?_ ?c2 ?c3 ?c4 ?c5; (case kA => exact rfl); (case kF => exact rfl); (case kK => assumption); (case k1 => k_asm); (case k2 => k_asm); (case k3 => k_asm); (case k4 => k_asm); (case k5 => k_asm); (case k6 => k_is); (case k7 => k_is); (case k8 => ktr_room); (case k9 => first | exact BindsTo.of_eq rfl | exact binds_K (by k_in) rfl (by k_is) rfl rfl rfl); (case c5 => decide); (case kB => exact locs rfl); (case c2 => exact rfl); (case c3 => exact rfl); (case c4 => exact rfl); k_whole; intro g' L' h' FG' F' N' B' X' T'; (try dsimp only); (try k_lift B'); (try k_fold)))
  repeat' ((fail_if_success (with_reducible show wpAny _ _ (pyIter _) _ _ _)); first | (k_unfold; (try dsimp only)) | (k_end; wrow_close) | walk1 | (dsimp only; walk1) | (leave1; walk_say "STEP leave1"; try dsimp only) | fail "no step")
  k_state (fun pre fs => fs = figF bits pre) "figures"
  · have hlp := figF_len bits kPre
    rw [← kInv] at hlp
    k_with "state" => first | exact rfl | (rw [figF_snoc, ← kInv])
    k_steps
  · have hlp := figF_len bits (rangeKs 0 ((bits.length : Int) - 0).toNat)
    rw [← kInv, rangeKs_length] at hlp
    clear hbl
    rename_i tk1 lf g1 l1 g2 F1 N1 g3 tk2 t1 u1 v1 rg a1 fV0 fN0 n0 kl0
    repeat' ((fail_if_success (with_reducible show wpAny _ _ (exec (Stmt.Assign _ _ _) _) _ _ _)); first | (k_unfold; (try dsimp only)) | (k_end; wrow_close) | walk1 | (dsimp only; walk1) | (leave1; walk_say "STEP leave1"; try dsimp only) | fail "no step")
    have hI := IntsAre.append kFacts (by assumption : IntsAre (List.replicate (Int.toNat 3) _).flatten _)
    have hfn : fN0 ++ (List.replicate (Int.toNat 3) [(61 : Int)]).flatten = figs bits := by rw [kInv]; exact figs_of bits
    have h64 := figs_64 h01 hn
    have hfl := figs_len bits
    rw [← hfn] at h64 hfl
    generalize hfv : fV0 ++ (List.replicate (Int.toNat 3) [Value.int 61 kTk]).flatten = fV at *
    generalize fN0 ++ (List.replicate (Int.toNat 3) [(61 : Int)]).flatten = fN at *
    clear kFacts kInv hfv
    repeat' ((fail_if_success (with_reducible show wpAny _ _ (pyIter _) _ _ _)); first | (k_unfold; (try dsimp only)) | (k_end; wrow_close) | walk1 | (dsimp only; walk1) | (leave1; walk_say "STEP leave1"; try dsimp only) | fail "no step")
    obtain ⟨q, hq⟩ : ∃ q : Nat, fN.length = 4 * q := ⟨1 + bits.length / 2, by omega⟩
    rename Fr _ _ _ _ => lF
    rename News _ _ _ _ => lN
    rename IsRange _ _ _ _ _ _ _ _ => lR
    rename_i lO h1 l2 h2 F2 N2 h3 tk3 t3 u3 v3 a3
    rw [hq] at lR
    have hq2 : q < 1000 := by omega
    have lN' := news_14 lN
    with_unfolding_all refine' ksr_range (σ := List Value × List Int × Nat) (fun c => (lO, listOf c.1.toArray c.2.2) :: (lf, listOf fV.toArray (n0 + 1)) :: news) (fun _ => []) (fun c => IntsAre c.1 c.2.1) ["number", "figure"] (fun i c => c.2.1 = chunks (fN.take (4 * i))) ([], [], 0) rfl lR (small_four (by omega)) (rangeSize_four q) lF lN' IntsAre.nil ?kk rfl ?turn ?done
    case kk => exact fun p hp => nomatch hp
    case turn =>
      clear lF lN lN' lR
      rintro ⟨oV, oN, on⟩ i t u h tk own hi hoff hF hP F N
      dsimp only at hF hP
      dsimp only [kstB, List.cons_append] at F N
      repeat' ((fail_if_success (with_reducible show wpAny _ _ (pyIter _) _ _ _)); first | (k_unfold; (try dsimp only)) | (k_end; wrow_close) | walk1 | (dsimp only; walk1) | (leave1; walk_say "STEP leave1"; try dsimp only) | fail "no step")
      rename IntsAre _ _ => hI5
      rw [slice4_eq hq hi] at hI5
      have hol : oN.length ≤ 4 * i := by
        rw [hP]
        exact Nat.le_trans (chunks_len _) (by rw [List.length_take]; omega)
      have hsl := slice4_len hq hi
      have hs64 := slice4_64 (i := i) h64
      generalize hsle : (fN.drop (4 * i)).take 4 = sl at hI5 hsl hs64
      k_state (fun pre num => num = num6 pre ∧ 0 ≤ num ∧ num < 64 ^ pre.length) "number"
      · rename_i num ntk kl e1 e2 e3 q1 q2 q3 q4
        have hkn := hs64 kN (by rw [kEq]; simp)
        have hsm := num6_small (pre := kPre) (by omega) ⟨e1, e2, e3⟩
        k_with "state" => exact num6_word hkn ⟨e1, e2, e3⟩
        k_steps
      · rename_i num ntk e1 e2 e3 q1 q2 q3 q4
        k_with "state" => exact chunks_state hq hi hsle hP e1
        k_steps
    case done =>
      rintro ⟨oV, oN, on⟩ u h tk hF hP F N
      dsimp only at hF hP
      dsimp only [kstB] at F N
      clear lF lN lN' lR
      have hP2 : oN = chunks fN := by rw [hP, ← hq, List.take_length]
      have hin : ∀ n ∈ oN, 0 ≤ n ∧ n < 256 := by rw [hP2]; exact chunks_in fN h64
      have hol : oN.length ≤ 1000 := by rw [hP2]; exact Nat.le_trans (chunks_len _) (by omega)
      clear hP
      k_steps
      rw [line_bytes hfn h64 (by omega) hP2]
      have hll := lineI_len bits
      k_dflt (refine' SrcB.mk (fun k => ⟨#[k.toNat]⟩) rfl ?k1 ?k2 (KBa.ints_make (lineI_in bits)) ?sz ?turn ?fin)
      case k1 => k_asm
      case k2 => k_asm
      case sz => omega
      case turn =>
        intro hp k t I oI C oC D m₂ ys h tk E' hk hC hx F' N' off ne mk
        have hkr := lineI_in bits k hk
        k_steps
        exact LCg.CompEnd.intro F' N' _ (fun p hp => hp) off trivial ⟨rfl, _, rfl⟩
      case fin =>
        intro hp ys hc D h tk F' N' off
        k_whole
        k_steps
        rename News _ _ _ _ => kN9
        rename Fr _ _ _ _ => kF9
        have hj := join_line bits
        rw [← hj] at hret
        exact hret _ _ _ kF9 (fun p hp => kN9 p (.tail _ (.tail _ (.tail _ hp))))
end
section
local macro_rules | `(tactic| walk_at "call ref") => `(tactic| k_extra "m call")
theorem off_WY : True := by
  w_top off
  trivial
theorem c_ways (w : World) (news : List (Addr × Obj)) (bl : Addr) (vs : List Value) (nb : Nat) (bits : List Int) (hbl : (bl, listOf vs.toArray nb) ∈ news) (hi : IntsAre vs bits) (h01 : B01 bits) (hn : bits.length ≤ 48) :
  ∀ (p : Program) (loose : List Str) (mean : ExcName → Option Value) (mg mb : Str → Option Value) (dp un : Nat) (gd : Option (List Code)) (cn : Str) (cs : Scope) (a : Addr) (ccd : Value) (cl : List (Str × Addr)) (outer : List Env) (A₀ : Around) (base h₀ : Heap) (L : Addr) (m : Str → Option Value) (s : Shared) (Q E : Value → Shared → Prop),
    Below A₀ base outer h₀ → Fr h₀ L s.heap m → (hd02.heap_1 w.params).In h₀ → News h₀ L s.heap news → Top p loose mean mg mb h₀ → cs.kind = .function → dp + 2 < recursionLimit → un + 16 < cLine →
    (∀ t h' tk', Fr h₀ L h' m → News h₀ L h' news → Q (.int (wyF bits).2 t) { s with heap := h', toks := tk' }) →
    wpAny (model Challenge.rw_op0202_02.row.prog w) (ktrTop dp un gd cn cs L a ccd cl outer) (call (.ref 853) [.ref bl]) Q E s := by
  k_fill
  intros
  rename_i hret
  rename News _ _ _ _ => N0
  have N1 := news_dup N0 hbl
  clear N0 hbl
  k_with_none
  k_with "m call" =>
    first
    | ((with_reducible show wpAny _ _ (call (Value.ref 771) _) _ _ _); k_dflt (refine' c_add w _ _ _ _ _ _ _ _ _ _ _ _ _ _ _ _ _ _ _ _ _ _ _ _ _ _ _ ?k1 ?k2 ?k3 ?k4 ?k5 ?k6 ?k8 ?k9 ?_; (case k1 => k_asm); (case k2 => k_asm); (case k3 => k_asm); (case k4 => k_asm); (case k5 => k_asm); (case k6 => exact rfl); (case k8 => ktr_room); (case k9 => ktr_units); k_whole); intro t9 h9 tk9 F9 N9; (try dsimp only); (try k_fold))
  (refine wpAny_call ?_; k_dflt (refine' code_def ?k1 ?k2 ?k3 ?k4 ?k5 ?kA ?kF ?kK ?k6 ?k7 ?k8 ?k9 ?kB ?_ ?c2 ?c3 ?c4 ?c5; (case kA => exact rfl); (case kF => exact rfl); (case kK => assumption); (case k1 => k_asm); (case k2 => k_asm); (case k3 => k_asm); (case k4 => k_asm); (case k5 => k_asm); (case k6 => k_is); (case k7 => k_is); (case k8 => ktr_room); (case k9 => first | exact BindsTo.of_eq rfl | exact binds_K (by k_in) rfl (by k_is) rfl rfl rfl); (case c5 => decide); (case kB => exact locs rfl); (case c2 => exact rfl); (case c3 => exact rfl); (case c4 => exact rfl); k_whole; intro g' L' h' FG' F' N' B' X' T'; (try dsimp only); (try k_lift B'); (try k_fold)))
  repeat' ((fail_if_success (with_reducible show wpAny _ _ (pyIter _) _ _ _)); first | (k_unfold; (try dsimp only)) | (k_end; wrow_close) | walk1 | (dsimp only; walk1) | (leave1; walk_say "STEP leave1"; try dsimp only) | fail "no step")
  k_state (fun pre less ways => wyF pre = (less, ways)) "less" "ways"
  · have hb := h01 kN (by rw [kEq]; simp)
    k_with "state" => (rw [wyF_snoc, kInv]; exact rfl)
    rcases hb with rfl | rfl
    all_goals k_steps
  · k_steps
    rename News _ _ _ _ => kN9
    rename Fr _ _ _ _ => kF9
    rw [kInv] at hret
    exact hret _ _ _ kF9 (fun p hp => kN9 p (.tail _ (.tail _ hp)))
end
section
local macro_rules | `(tactic| walk_at "compareOp In str str") => `(tactic| first
  | (refine in_one false (by with_reducible assumption) ?_; (try dsimp only))
  | (refine in_one true (by with_reducible assumption) ?_; (try dsimp only))
  | (refine in_by false (by decide +kernel) ?_; (try dsimp only))
  | (refine in_by true (by decide +kernel) ?_; (try dsimp only)))
local macro_rules | `(tactic| walk_at "compareOp NotIn str str") => `(tactic| first
  | (refine notIn_one false (by with_reducible assumption) ?_; (try dsimp only [Bool.not_false, Bool.not_true]))
  | (refine notIn_one true (by with_reducible assumption) ?_; (try dsimp only [Bool.not_false, Bool.not_true]))
  | (refine notIn_by false (by decide +kernel) ?_; (try dsimp only))
  | (refine notIn_by true (by decide +kernel) ?_; (try dsimp only)))
local macro_rules | `(tactic| walk_at "compareOp Eq str str") => `(tactic| first
  | (refine eq_by false (by with_reducible assumption) ?_; (try dsimp only))
  | (refine eq_by true (by with_reducible assumption) ?_; (try dsimp only))
  | (refine eq_by false (by decide +kernel) ?_; (try dsimp only))
  | (refine eq_by true (by decide +kernel) ?_; (try dsimp only)))
local macro_rules | `(tactic| walk_at "compareOp NotEq str str") => `(tactic| first
  | (refine ne_by false (by with_reducible assumption) ?_; (try dsimp only [Bool.not_false, Bool.not_true]))
  | (refine ne_by true (by with_reducible assumption) ?_; (try dsimp only [Bool.not_false, Bool.not_true]))
  | (refine ne_by false (by decide +kernel) ?_; (try dsimp only [Bool.not_false, Bool.not_true]))
  | (refine ne_by true (by decide +kernel) ?_; (try dsimp only [Bool.not_false, Bool.not_true])))
local macro_rules | `(tactic| walk_at "inplaceOp Add str str") => `(tactic| (refine iadd_by (by with_reducible assumption) (by first | exact one_len _ | decide +kernel) ?_; intro tA tB))
local macro_rules | `(tactic| walk_at "truthy str") => `(tactic| ((with_reducible refine truthy_one ?_); (try dsimp only)))
section
structure LexK where
  io : Addr
  dq1 : Addr
  dq2 : Addr
  wc : Str
  (h0 h1 h2 h3 h4 h5 h6 h7 h8 h9 h10 h11 h12 h13 h14 h15 h16 h17 h18 : Int)
  (t0 t1 t2 t3 t4 t5 t6 t7 t8 t9 t10 t11 t12 t13 t14 t15 t16 t17 t18 : Tok)
  (u4 u5 u6 u8 u9 u10 u13 u14 u18 : Tok)
theorem off_RT : True := by
  w_top off
  trivial
noncomputable def lexD (k : LexK) (st tv : Value) : List DictEntry :=
  [⟨k.h0, .str "instream" k.t0, .ref k.io⟩,
   ⟨k.h1, .str "infile" k.t1, .none⟩,
   ⟨k.h2, .str "posix" k.t2, .bool true⟩,
   ⟨k.h3, .str "eof" k.t3, .none⟩,
   ⟨k.h4, .str "commenters" k.t4, .str "" k.u4⟩,
   ⟨k.h5, .str "wordchars" k.t5, .str k.wc k.u5⟩,
   ⟨k.h6, .str "whitespace" k.t6, .str " \t\r\n" k.u6⟩,
   ⟨k.h7, .str "whitespace_split" k.t7, .bool true⟩,
   ⟨k.h8, .str "quotes" k.t8, .str "'\"" k.u8⟩,
   ⟨k.h9, .str "escape" k.t9, .str "\\" k.u9⟩,
   ⟨k.h10, .str "escapedquotes" k.t10, .str "\"" k.u10⟩,
   ⟨k.h11, .str "state" k.t11, st⟩,
   ⟨k.h12, .str "pushback" k.t12, .ref k.dq1⟩,
   ⟨k.h13, .str "lineno" k.t13, .int 1 k.u13⟩,
   ⟨k.h14, .str "debug" k.t14, .int 0 k.u14⟩,
   ⟨k.h15, .str "token" k.t15, tv⟩,
   ⟨k.h16, .str "filestack" k.t16, .ref k.dq2⟩,
   ⟨k.h17, .str "source" k.t17, .none⟩,
   ⟨k.h18, .str "_punctuation_chars" k.t18, .str "" k.u18⟩]

theorem lx_any {c : Nat} (hc : okC c) : decide (c ∈ (Str.ofString " \t\r\n").cps.toList) = false ∧ decide (c ∈ (Str.ofString "").cps.toList) = false := by
  have hb : c ≠ 32 ∧ c ≠ 9 ∧ c ≠ 13 ∧ c ≠ 10 := by
    rcases hc with h | h | h | h
    · simp only [isLet, Bool.or_eq_true, Bool.and_eq_true, decide_eq_true_eq] at h
      omega
    all_goals omega
  exact ⟨not_mem_of (l := [32, 9, 13, 10]) (by decide +kernel) (by simp; exact hb), not_mem_of (l := []) (by decide +kernel) (by simp)⟩
noncomputable def lxLed (k : LexK) (dlex dio : Addr) (rest : List (Addr × Obj)) (h1 h2 h3 : Int) (t1 t2 t3 t4 t5 : Tok) (nl buf : Str) (c : LxS) : List (Addr × Obj) :=
  (dlex, dictOf (lexD k (.str c.md.st c.t1) (.str c.x c.t2)) 19) :: (dio, dictOf (ioD h1 h2 h3 t1 t2 t3 t4 t5 c.t3 nl buf c.pos) 3) :: rest
theorem sub0 {l : List (Addr × Obj)} : ∀ p ∈ l, p ∈ l := fun _ h => h
theorem sub1 {x : Addr × Obj} {l : List (Addr × Obj)} : ∀ p ∈ l, p ∈ x :: l := fun _ h => .tail _ h
theorem news_swap {h₀ h : Heap} {L : Addr} {x y : Addr × Obj} {rest : List (Addr × Obj)} (N : News h₀ L h (x :: y :: rest)) : News h₀ L h (y :: x :: rest) := fun p hp => N p (by
  rcases List.mem_cons.mp hp with rfl | hp
  · exact .tail _ (.head _)
  · rcases List.mem_cons.mp hp with rfl | hp
    · exact .head _
    · exact .tail _ (.tail _ hp))
theorem c_read2 {w : World} {D : Addr × Obj} {rest : List (Addr × Obj)} {io dio : Addr} {h1 h2 h3 : Int} {t1 t2 t3 t4 t5 t6 t7 : Tok} {nl : Str} {pre post : List Nat} {c : Nat} {buf : Str} {pos : Int}
   {p : Program} {loose : List Str} {mean : ExcName → Option Value} {mg mb : Str → Option Value} {dp un : Nat} {gd : Option (List Code)} {cn : Str} {cs : Scope} {a : Addr} {ccd : Value} {cl : List (Str × Addr)} {outer : List Env} {A₀ : Around} {base h₀ : Heap} {L : Addr} {m : Str → Option Value} {s : Shared} {Q E : Value → Shared → Prop}
   (B : Below A₀ base outer h₀) (F : Fr h₀ L s.heap m) (X : (hd02.heap_1 w.params).In h₀) (N : News h₀ L s.heap (D :: (dio, dictOf (ioD h1 h2 h3 t1 t2 t3 t4 t5 t6 nl buf pos) 3) :: rest)) (T : Top p loose mean mg mb h₀) (hk : cs.kind = .function)
   (m1 : (io, instObj 587 dio) ∈ rest) (hne : ∀ p ∈ rest, p.1 ≠ dio) (hne1 : D.1 ≠ dio) (hsz : pre.length + post.length < 1000) (hbuf : buf = ⟨(pre ++ c :: post).toArray⟩) (hpos : pos = (pre.length : Int))
   (hd : dp + 5 < recursionLimit) (hu : un + 40 < cLine)
   (ret : ∀ t t' h' tk', Fr h₀ L h' m → News h₀ L h' (D :: (dio, dictOf (ioD h1 h2 h3 t1 t2 t3 t4 t5 t' nl buf (pos + 1)) 3) :: rest) → Q (.str ⟨#[c]⟩ t) { s with heap := h', toks := tk' }) :
   wpAny (model Challenge.rw_op0202_02.row.prog w) (ktrTop dp un gd cn cs L a ccd cl outer) (call (.ref 533) [.ref io, .int 1 t7]) Q E s :=
  c_read w (D :: rest) io dio h1 h2 h3 t1 t2 t3 t4 t5 t6 t7 nl pre post c (.tail _ m1) (by intro p hp; rcases List.mem_cons.mp hp with rfl | hp; exact hne1; exact hne p hp) hsz buf hbuf pos hpos _ rfl
    p loose mean mg mb dp un gd cn cs a ccd cl outer A₀ base h₀ L m s Q E B F X (news_swap N) T hk hd hu (fun t t' h' tk' F' N' => ret t t' h' tk' F' (news_swap N'))

local macro_rules | `(tactic| walk_at "call ref") => `(tactic| k_extra "m call")
theorem c_read_token (w : World) (rest : List (Addr × Obj)) (k : LexK) (lex dlex dio : Addr) (h1 h2 h3 : Int) (t1 t2 t3 t4 t5 t6 t7 t8 : Tok) (nl buf : Str) (text out : List Nat)
   (m0 : (lex, instObj 722 dlex) ∈ rest) (m1 : (k.io, instObj 587 dio) ∈ rest) (hne1 : ∀ p ∈ rest, p.1 ≠ dio) (hne2 : ∀ p ∈ rest, p.1 ≠ dlex) (hne3 : dio ≠ dlex)
   (hsz : text.length < 900) (hbuf : buf = ⟨text.toArray⟩) (hrun : runM .w text = (out, .a)) (hout : out ≠ []) (hnn : text ≠ []) (hol : out.length < 2000)
   (hws : ∀ c ∈ text, okC c) (hwc : WcOk k.wc)
   (news : List (Addr × Obj)) (hnews : news = (dlex, dictOf (lexD k (.str " " t7) (.str "" t8)) 19) :: (dio, dictOf (ioD h1 h2 h3 t1 t2 t3 t4 t5 t6 nl buf 0) 3) :: rest) :
  ∀ (p : Program) (loose : List Str) (mean : ExcName → Option Value) (mg mb : Str → Option Value) (dp un : Nat) (gd : Option (List Code)) (cn : Str) (cs : Scope) (a : Addr) (ccd : Value) (cl : List (Str × Addr)) (outer : List Env) (A₀ : Around) (base h₀ : Heap) (L : Addr) (m : Str → Option Value) (s : Shared) (Q E : Value → Shared → Prop),
    Below A₀ base outer h₀ → Fr h₀ L s.heap m → (hd02.heap_1 w.params).In h₀ → News h₀ L s.heap news → Top p loose mean mg mb h₀ → cs.kind = .function → dp + 7 < recursionLimit → un + 56 < cLine →
    (∀ t t' t'' h' tk', Fr h₀ L h' m → News h₀ L h' ((dlex, dictOf (lexD k .none (.str "" t')) 19) :: (dio, dictOf (ioD h1 h2 h3 t1 t2 t3 t4 t5 t'' nl buf text.length) 3) :: rest) → Q (.str ⟨out.toArray⟩ t) { s with heap := h', toks := tk' }) →
    wpAny (model Challenge.rw_op0202_02.row.prog w) (ktrTop dp un gd cn cs L a ccd cl outer) (call (.ref 690) [.ref lex]) Q E s := by
  subst hnews
  k_fill
  intros
  rename_i hret
  (refine wpAny_call ?_; k_dflt (refine' code_def ?k1 ?k2 ?k3 ?k4 ?k5 ?kA ?kF ?kK ?k6 ?k7 ?k8 ?k9 ?kB ?_ ?c2 ?c3 ?c4 ?c5; (case kA => exact rfl); (case kF => exact rfl); (case kK => assumption); (case k1 => k_asm); (case k2 => k_asm); (case k3 => k_asm); (case k4 => k_asm); (case k5 => k_asm); (case k6 => k_is); (case k7 => k_is); (case k8 => ktr_room); (case k9 => first | exact BindsTo.of_eq rfl | exact binds_K (by k_in) rfl (by k_is) rfl rfl rfl); (case c5 => decide); (case kB => exact locs rfl); (case c2 => exact rfl); (case c3 => exact rfl); (case c4 => exact rfl); k_whole; intro g' L' h' FG' F' N' B' X' T'; (try dsimp only); (try k_lift B'); (try k_fold)))
  walk1; walk1; walk1; walk1; walk1; walk1; walk1; walk1; walk1
  dsimp only
  walk1; walk1
  have hP0 : ∀ t9, lxP text out ⟨.w, "", text, 0, false, " ", t7, t8, t6, t9⟩ := by
    intro t9
    refine ⟨⟨[], rfl, rfl⟩, ?_, ?_, ?_, ?_, ?_⟩
    · rw [hrun]; exact Str.empty_append _
    · rw [hrun]
    · intro _; exact ⟨rfl, hnn⟩
    · intro h; cases h
    · intro h; cases h
  rename Fr _ _ _ _ => lF
  rename News _ _ _ _ => lN
  with_unfolding_all refine' ksw_while (σ := LxS) (lxLed k dlex dio rest h1 h2 h3 t1 t2 t3 t4 t5 nl buf) lxPs (fun _ => True) ["nextchar"] (lxP text out) (fun c => c.post.length) ⟨.w, "", text, 0, false, " ", t7, t8, t6, _⟩ ?kf ?kn trivial ?kk (hP0 _) ?turn
  case kf => exact lF
  case kn => exact lN
  case kk =>
    intro p hp
    rcases List.mem_cons.mp hp with rfl | hp
    · rfl
    rcases List.mem_cons.mp hp with rfl | hp
    · rfl
    cases hp
  case turn =>
  clear lF lN hP0 hrun hnn
  rintro ⟨md, x, post, pos, qd, es, u1, u2, u3, u4⟩ u h tk _ ⟨⟨pre, htext, hpos⟩, hx, hm, hw, he0, he2⟩ F N
  dsimp only at htext hpos hx hm hw he0 he2
  dsimp only [lxLed, lxPs, kstB] at F N
  have hxl : x.length ≤ 5000 := Nat.le_trans (lx_xlen hx hol) (by decide)
  cases post with
  | nil => 
    obtain rfl : md = .a := hm
    obtain rfl : x = ⟨out.toArray⟩ := (Str.append_empty x).symm.trans hx
    have hps : pos = (text.length : Int) := by rw [hpos, htext]; simp
    have hp1 : (buf.length : Int) ≤ pos := by rw [hps, hbuf]; show ((text.toArray.size : Nat) : Int) ≤ _; simp
    have hs1 : buf.length ≤ 1000 := by rw [hbuf]; show text.toArray.size ≤ _; simp; omega
    have fx := out_ne hout
    clear hbuf hsz hpos
    k_with_none
    k_with "m call" =>
      (with_reducible show wpAny _ _ (call (Value.ref 533) _) _ _ _)
      k_dflt (refine' c_read_end w _ k.io dio h1 h2 h3 t1 t2 t3 t4 t5 u3 _ nl buf pos (.tail _ (.tail _ m1)) (.tail _ (.head _)) hp1 hs1 _ _ _ _ _ _ _ _ _ _ _ _ _ _ _ _ _ _ _ _ _ _ ?k1 ?k2 ?k3 ?k4 ?k5 ?k6 ?k8 ?k9 ?_)
      (case k1 => k_asm)
      (case k2 => k_asm)
      (case k3 => k_asm)
      (case k4 => k_asm)
      (case k5 => k_asm)
      (case k6 => exact rfl)
      (case k8 => ktr_room)
      (case k9 => ktr_units)
      k_whole
      intro t9 h9 tk9 F9 N9
      (try dsimp only)
      (try k_fold)
    cases qd with
    | true =>
      k_steps
      rename News _ _ _ _ => nE
      rw [hps] at nE
      exact hret _ _ _ _ _ (by k_asm) (fun p hp => nE p (.tail _ hp))
    | false =>
      k_steps
      rename News _ _ _ _ => nE
      rw [hps] at nE
      exact hret _ _ _ _ _ (by k_asm) (fun p hp => nE p (.tail _ hp))
  | cons c post =>
  have hsz' : pre.length + post.length < 1000 := by rw [htext] at hsz; simp at hsz; omega
  have hbuf' : buf = ⟨(pre ++ c :: post).toArray⟩ := by rw [hbuf, htext]
  have hc : okC c := hws c (by rw [htext]; simp)
  have fnl := nl_free hc
  k_with_none
  k_with "m call" =>
    (with_reducible show wpAny _ _ (call (Value.ref 533) _) _ _ _)
    k_dflt (refine' c_read2 (pre := pre) (post := post) ?k1 ?k2 ?k3 ?k4 ?k5 ?k6 m1 hne1 ?k7 hsz' hbuf' hpos ?k8 ?k9 ?_)
    (case k1 => k_asm)
    (case k2 => k_asm)
    (case k3 => k_asm)
    (case k4 => k_asm)
    (case k5 => k_asm)
    (case k6 => exact rfl)
    (case k7 => exact Ne.symm hne3)
    (case k8 => ktr_room)
    (case k9 => ktr_units)
    k_whole
    intro t9 t9' h9 tk9 F9 N9
    (try dsimp only)
    (try k_fold)
  repeat' ((fail_if_success (with_reducible show wpAny _ _ (exec (Stmt.If (Expr.Compare (Expr.Attribute _ (Str.ofString "state") _) [CmpOp.Eq] _ _) _ _ _) _) _ _ _)); first | (k_unfold; (try dsimp only)) | (k_end; wrow_close) | walk1 | (dsimp only; walk1) | (leave1; walk_say "STEP leave1"; try dsimp only) | fail "no step")
  clear hbuf hbuf' hsz hsz' fnl
  obtain ⟨fa1, fa2⟩ := lx_any hc
  cases md with
  | w =>
    obtain ⟨rfl, -⟩ := hw rfl
    repeat' ((fail_if_success (with_reducible show wpAny _ _ (exec (Stmt.If (Expr.BoolOp _ _ _) _ _ _) _) _ _ _)); first | (k_unfold; (try dsimp only)) | (k_end; wrow_close) | walk1 | (dsimp only; walk1) | (leave1; walk_say "STEP leave1"; try dsimp only) | fail "no step")
    by_cases h39 : c = 39
    · subst h39
      have wq := hwc.2.1
      k_steps
      rename News _ _ _ _ => nE
      refine ksw_end ⟨.q1, "", post, pos + 1, qd, es, _, u2, _, u4⟩ (by assumption) nE sub0 trivial (by kst_all) ((by intro z h2 h3; have z1 : z ≠ "quoted" := h2 (_, _) (List.Mem.head _); have z2 : z ≠ "escapedstate" := h2 (_, _) (List.Mem.tail _ (List.Mem.head _)); have z3 : z ≠ "nextchar" := (by simpa using h3); simp only [kstB, z1, z2, z3, h3, if_false, Bool.false_eq_true, reduceIte])) ?_ (by simp)
      exact lx_next [] htext hpos hx hm rfl (app_nil _) (by decide) (by intro h; cases h) (by intro h; cases h)
    by_cases h34 : c = 34
    · subst h34
      have wq := hwc.2.2.1
      k_steps
      rename News _ _ _ _ => nE
      refine ksw_end ⟨.q2, "", post, pos + 1, qd, es, _, u2, _, u4⟩ (by assumption) nE sub0 trivial (by kst_all) ((by intro z h2 h3; have z1 : z ≠ "quoted" := h2 (_, _) (List.Mem.head _); have z2 : z ≠ "escapedstate" := h2 (_, _) (List.Mem.tail _ (List.Mem.head _)); have z3 : z ≠ "nextchar" := (by simpa using h3); simp only [kstB, z1, z2, z3, h3, if_false, Bool.false_eq_true, reduceIte])) ?_ (by simp)
      exact lx_next [] htext hpos hx hm rfl (app_nil _) (by decide) (by intro h; cases h) (by intro h; cases h)
    by_cases h92 : c = 92
    · subst h92
      have wq := hwc.2.2.2
      k_steps
      rename News _ _ _ _ => nE
      refine ksw_end ⟨.e0, "", post, pos + 1, qd, "a", _, u2, _, _⟩ (by assumption) nE sub0 trivial (by kst_all) ((by intro z h2 h3; have z1 : z ≠ "quoted" := h2 (_, _) (List.Mem.head _); have z2 : z ≠ "escapedstate" := h2 (_, _) (List.Mem.tail _ (List.Mem.head _)); have z3 : z ≠ "nextchar" := (by simpa using h3); simp only [kstB, z1, z2, z3, h3, if_false, Bool.false_eq_true, reduceIte])) ?_ (by simp)
      exact lx_next [] htext hpos hx hm rfl (app_nil _) (by decide) (fun _ => rfl) (by intro h; cases h)
    obtain ⟨f1, f2, f3, f4, f5⟩ := lx_let hc h39 h34 h92 hwc
    k_steps
    rename News _ _ _ _ => nE
    refine ksw_end ⟨.a, ⟨#[c]⟩, post, pos + 1, qd, es, _, _, _, u4⟩ (by assumption) nE sub0 trivial (by kst_all) ((by intro z h2 h3; have z1 : z ≠ "quoted" := h2 (_, _) (List.Mem.head _); have z2 : z ≠ "escapedstate" := h2 (_, _) (List.Mem.tail _ (List.Mem.head _)); have z3 : z ≠ "nextchar" := (by simpa using h3); simp only [kstB, z1, z2, z3, h3, if_false, Bool.false_eq_true, reduceIte])) ?_ (by simp)
    exact lx_next [c] htext hpos hx hm (by simp [stepM, h39, h34, h92]) (empty_one c) (by decide) (by intro h; cases h) (by intro h; cases h)
  | a =>
    repeat' ((fail_if_success (with_reducible show wpAny _ _ (exec (Stmt.If (Expr.BoolOp _ _ _) _ _ _) _) _ _ _)); first | (k_unfold; (try dsimp only)) | (k_end; wrow_close) | walk1 | (dsimp only; walk1) | (leave1; walk_say "STEP leave1"; try dsimp only) | fail "no step")
    by_cases h39 : c = 39
    · subst h39
      have wq := hwc.2.1
      k_steps
      rename News _ _ _ _ => nE
      refine ksw_end ⟨.q1, x, post, pos + 1, qd, es, _, u2, _, u4⟩ (by assumption) nE sub1 trivial (by kst_all) ((by intro z h2 h3; have z1 : z ≠ "quoted" := h2 (_, _) (List.Mem.head _); have z2 : z ≠ "escapedstate" := h2 (_, _) (List.Mem.tail _ (List.Mem.head _)); have z3 : z ≠ "nextchar" := (by simpa using h3); simp only [kstB, z1, z2, z3, h3, if_false, Bool.false_eq_true, reduceIte])) ?_ (by simp)
      exact lx_next [] htext hpos hx hm rfl (app_nil _) (by decide) (by intro h; cases h) (by intro h; cases h)
    by_cases h34 : c = 34
    · subst h34
      have wq := hwc.2.2.1
      k_steps
      rename News _ _ _ _ => nE
      refine ksw_end ⟨.q2, x, post, pos + 1, qd, es, _, u2, _, u4⟩ (by assumption) nE sub1 trivial (by kst_all) ((by intro z h2 h3; have z1 : z ≠ "quoted" := h2 (_, _) (List.Mem.head _); have z2 : z ≠ "escapedstate" := h2 (_, _) (List.Mem.tail _ (List.Mem.head _)); have z3 : z ≠ "nextchar" := (by simpa using h3); simp only [kstB, z1, z2, z3, h3, if_false, Bool.false_eq_true, reduceIte])) ?_ (by simp)
      exact lx_next [] htext hpos hx hm rfl (app_nil _) (by decide) (by intro h; cases h) (by intro h; cases h)
    by_cases h92 : c = 92
    · subst h92
      have wq := hwc.2.2.2
      k_steps
      rename News _ _ _ _ => nE
      refine ksw_end ⟨.e0, x, post, pos + 1, qd, "a", _, u2, _, _⟩ (by assumption) nE sub1 trivial (by kst_all) ((by intro z h2 h3; have z1 : z ≠ "quoted" := h2 (_, _) (List.Mem.head _); have z2 : z ≠ "escapedstate" := h2 (_, _) (List.Mem.tail _ (List.Mem.head _)); have z3 : z ≠ "nextchar" := (by simpa using h3); simp only [kstB, z1, z2, z3, h3, if_false, Bool.false_eq_true, reduceIte])) ?_ (by simp)
      exact lx_next [] htext hpos hx hm rfl (app_nil _) (by decide) (fun _ => rfl) (by intro h; cases h)
    obtain ⟨f1, f2, f3, f4, f5⟩ := lx_let hc h39 h34 h92 hwc
    k_steps
    rename News _ _ _ _ => nE
    refine ksw_end ⟨.a, x ++ ⟨#[c]⟩, post, pos + 1, qd, es, _, _, _, u4⟩ (by assumption) nE sub1 trivial (by kst_all) ((by intro z h2 h3; have z1 : z ≠ "quoted" := h2 (_, _) (List.Mem.head _); have z2 : z ≠ "escapedstate" := h2 (_, _) (List.Mem.tail _ (List.Mem.head _)); have z3 : z ≠ "nextchar" := (by simpa using h3); simp only [kstB, z1, z2, z3, h3, if_false, Bool.false_eq_true, reduceIte])) ?_ (by simp)
    exact lx_next [c] htext hpos hx hm (by simp [stepM, h39, h34, h92]) rfl (by decide) (by intro h; cases h) (by intro h; cases h)
  | q1 =>
    repeat' ((fail_if_success (with_reducible show wpAny _ _ (exec (Stmt.If (Expr.Compare (Expr.Name (Str.ofString "nextchar") _) [CmpOp.Eq] _ _) _ _ _) _) _ _ _)); first | (k_unfold; (try dsimp only)) | (k_end; wrow_close) | walk1 | (dsimp only; walk1) | (leave1; walk_say "STEP leave1"; try dsimp only) | fail "no step")
    by_cases h39 : c = 39
    · subst h39
      have wq := hwc.2.1
      k_steps
      rename News _ _ _ _ => nE
      refine ksw_end ⟨.a, x, post, pos + 1, true, es, _, u2, _, u4⟩ (by assumption) nE sub0 trivial (by kst_all) ((by intro z h2 h3; have z1 : z ≠ "quoted" := h2 (_, _) (List.Mem.head _); have z2 : z ≠ "escapedstate" := h2 (_, _) (List.Mem.tail _ (List.Mem.head _)); have z3 : z ≠ "nextchar" := (by simpa using h3); simp only [kstB, z1, z2, z3, h3, if_false, Bool.false_eq_true, reduceIte])) ?_ (by simp)
      exact lx_next [] htext hpos hx hm rfl (app_nil _) (by decide) (by intro h; cases h) (by intro h; cases h)
    by_cases h92 : c = 92
    · subst h92
      have wq := hwc.2.2.2
      k_steps
      rename News _ _ _ _ => nE
      refine ksw_end ⟨.q1, x ++ "\\", post, pos + 1, true, es, _, _, _, u4⟩ (by assumption) nE sub0 trivial (by kst_all) ((by intro z h2 h3; have z1 : z ≠ "quoted" := h2 (_, _) (List.Mem.head _); have z2 : z ≠ "escapedstate" := h2 (_, _) (List.Mem.tail _ (List.Mem.head _)); have z3 : z ≠ "nextchar" := (by simpa using h3); simp only [kstB, z1, z2, z3, h3, if_false, Bool.false_eq_true, reduceIte])) ?_ (by simp)
      exact lx_next [92] htext hpos hx hm rfl (app_bs _) (by decide) (by intro h; cases h) (by intro h; cases h)
    obtain ⟨f1, f2⟩ := lx_g1 (c := c) h39 h92
    k_steps
    rename News _ _ _ _ => nE
    refine ksw_end ⟨.q1, x ++ ⟨#[c]⟩, post, pos + 1, true, es, _, _, _, u4⟩ (by assumption) nE sub0 trivial (by kst_all) ((by intro z h2 h3; have z1 : z ≠ "quoted" := h2 (_, _) (List.Mem.head _); have z2 : z ≠ "escapedstate" := h2 (_, _) (List.Mem.tail _ (List.Mem.head _)); have z3 : z ≠ "nextchar" := (by simpa using h3); simp only [kstB, z1, z2, z3, h3, if_false, Bool.false_eq_true, reduceIte])) ?_ (by simp)
    exact lx_next [c] htext hpos hx hm (by simp [stepM, h39]) rfl (by decide) (by intro h; cases h) (by intro h; cases h)
  | q2 =>
    repeat' ((fail_if_success (with_reducible show wpAny _ _ (exec (Stmt.If (Expr.Compare (Expr.Name (Str.ofString "nextchar") _) [CmpOp.Eq] _ _) _ _ _) _) _ _ _)); first | (k_unfold; (try dsimp only)) | (k_end; wrow_close) | walk1 | (dsimp only; walk1) | (leave1; walk_say "STEP leave1"; try dsimp only) | fail "no step")
    by_cases h34 : c = 34
    · subst h34
      have wq := hwc.2.2.1
      k_steps
      rename News _ _ _ _ => nE
      refine ksw_end ⟨.a, x, post, pos + 1, true, es, _, u2, _, u4⟩ (by assumption) nE sub0 trivial (by kst_all) ((by intro z h2 h3; have z1 : z ≠ "quoted" := h2 (_, _) (List.Mem.head _); have z2 : z ≠ "escapedstate" := h2 (_, _) (List.Mem.tail _ (List.Mem.head _)); have z3 : z ≠ "nextchar" := (by simpa using h3); simp only [kstB, z1, z2, z3, h3, if_false, Bool.false_eq_true, reduceIte])) ?_ (by simp)
      exact lx_next [] htext hpos hx hm rfl (app_nil _) (by decide) (by intro h; cases h) (by intro h; cases h)
    by_cases h92 : c = 92
    · subst h92
      have wq := hwc.2.2.2
      k_steps
      rename News _ _ _ _ => nE
      refine ksw_end ⟨.e2, x, post, pos + 1, true, "\"", _, u2, _, _⟩ (by assumption) nE sub0 trivial (by kst_all) ((by intro z h2 h3; have z1 : z ≠ "quoted" := h2 (_, _) (List.Mem.head _); have z2 : z ≠ "escapedstate" := h2 (_, _) (List.Mem.tail _ (List.Mem.head _)); have z3 : z ≠ "nextchar" := (by simpa using h3); simp only [kstB, z1, z2, z3, h3, if_false, Bool.false_eq_true, reduceIte])) ?_ (by simp)
      exact lx_next [] htext hpos hx hm rfl (app_nil _) (by decide) (by intro h; cases h) (fun _ => rfl)
    obtain ⟨f1, f2⟩ := lx_g2 (c := c) h34 h92
    k_steps
    rename News _ _ _ _ => nE
    refine ksw_end ⟨.q2, x ++ ⟨#[c]⟩, post, pos + 1, true, es, _, _, _, u4⟩ (by assumption) nE sub0 trivial (by kst_all) ((by intro z h2 h3; have z1 : z ≠ "quoted" := h2 (_, _) (List.Mem.head _); have z2 : z ≠ "escapedstate" := h2 (_, _) (List.Mem.tail _ (List.Mem.head _)); have z3 : z ≠ "nextchar" := (by simpa using h3); simp only [kstB, z1, z2, z3, h3, if_false, Bool.false_eq_true, reduceIte])) ?_ (by simp)
    exact lx_next [c] htext hpos hx hm (by simp [stepM, h34, h92]) rfl (by decide) (by intro h; cases h) (by intro h; cases h)
  | e0 =>
    obtain rfl := he0 rfl
    k_steps
    rename News _ _ _ _ => nE
    refine ksw_end ⟨.a, x ++ ⟨#[c]⟩, post, pos + 1, qd, "a", _, _, _, u4⟩ (by assumption) nE sub0 trivial (by kst_all) ((by intro z h2 h3; have z1 : z ≠ "quoted" := h2 (_, _) (List.Mem.head _); have z2 : z ≠ "escapedstate" := h2 (_, _) (List.Mem.tail _ (List.Mem.head _)); have z3 : z ≠ "nextchar" := (by simpa using h3); simp only [kstB, z1, z2, z3, h3, if_false, Bool.false_eq_true, reduceIte])) ?_ (by simp)
    exact lx_next [c] htext hpos hx hm rfl rfl (by decide) (by intro h; cases h) (by intro h; cases h)
  | e2 =>
    obtain rfl := he2 rfl
    have hxl2 : (x ++ Mode.e2.st).length ≤ 5000 := two_len (lx_xlen hx hol)
    repeat' ((fail_if_success (with_reducible show wpAny _ _ (exec (Stmt.If (Expr.BoolOp _ _ _) _ _ _) _) _ _ _)); first | (k_unfold; (try dsimp only)) | (k_end; wrow_close) | walk1 | (dsimp only; walk1) | (leave1; walk_say "STEP leave1"; try dsimp only) | fail "no step")
    by_cases h92 : c = 92
    · subst h92
      have wq := hwc.2.2.2
      k_steps
      rename News _ _ _ _ => nE
      refine ksw_end ⟨.q2, x ++ "\\", post, pos + 1, qd, "\"", _, _, _, u4⟩ (by assumption) nE sub0 trivial (by kst_all) ((by intro z h2 h3; have z1 : z ≠ "quoted" := h2 (_, _) (List.Mem.head _); have z2 : z ≠ "escapedstate" := h2 (_, _) (List.Mem.tail _ (List.Mem.head _)); have z3 : z ≠ "nextchar" := (by simpa using h3); simp only [kstB, z1, z2, z3, h3, if_false, Bool.false_eq_true, reduceIte])) ?_ (by simp)
      exact lx_next [92] htext hpos hx hm rfl (app_bs _) (by decide) (by intro h; cases h) (by intro h; cases h)
    by_cases h34 : c = 34
    · subst h34
      have wq := hwc.2.2.1
      k_steps
      rename News _ _ _ _ => nE
      refine ksw_end ⟨.q2, x ++ "\"", post, pos + 1, qd, "\"", _, _, _, u4⟩ (by assumption) nE sub0 trivial (by kst_all) ((by intro z h2 h3; have z1 : z ≠ "quoted" := h2 (_, _) (List.Mem.head _); have z2 : z ≠ "escapedstate" := h2 (_, _) (List.Mem.tail _ (List.Mem.head _)); have z3 : z ≠ "nextchar" := (by simpa using h3); simp only [kstB, z1, z2, z3, h3, if_false, Bool.false_eq_true, reduceIte])) ?_ (by simp)
      exact lx_next [34] htext hpos hx hm rfl (app_dq _) (by decide) (by intro h; cases h) (by intro h; cases h)
    obtain ⟨f1, f2⟩ := lx_g3 (c := c) h34 h92
    k_steps
    rename News _ _ _ _ => nE
    refine ksw_end ⟨.q2, (x ++ Mode.e2.st) ++ ⟨#[c]⟩, post, pos + 1, qd, "\"", _, _, _, u4⟩ (by assumption) nE sub0 trivial (by kst_all) ((by intro z h2 h3; have z1 : z ≠ "quoted" := h2 (_, _) (List.Mem.head _); have z2 : z ≠ "escapedstate" := h2 (_, _) (List.Mem.tail _ (List.Mem.head _)); have z3 : z ≠ "nextchar" := (by simpa using h3); simp only [kstB, z1, z2, z3, h3, if_false, Bool.false_eq_true, reduceIte])) ?_ (by simp)
    exact lx_next [92, c] htext hpos hx hm (by simp [stepM, h34, h92]) (app_two _ _) (by decide) (by intro h; cases h) (by intro h; cases h)
end
section
local macro_rules | `(tactic| walk_at "none LX 0") => `(tactic| fail)


local macro_rules | `(tactic| walk_at "call ref") => `(tactic| k_extra "m call")
theorem off_LX : True := by
  w_top off
  trivial
theorem c_read_none (w : World) (rest : List (Addr × Obj)) (k : LexK) (lex dlex dio : Addr) (h1 h2 h3 : Int) (t1 t2 t3 t4 t5 t6 t8 : Tok) (nl buf : Str) (pos : Int)
   (m0 : (lex, instObj 722 dlex) ∈ rest) (m1 : (k.io, instObj 587 dio) ∈ rest) (hne1 : ∀ p ∈ rest, p.1 ≠ dio) (hne2 : ∀ p ∈ rest, p.1 ≠ dlex) (hne3 : dio ≠ dlex)
   (hp1 : buf.length ≤ pos) (hs1 : buf.length ≤ 1000)
   (news : List (Addr × Obj)) (hnews : news = (dlex, dictOf (lexD k .none (.str "" t8)) 19) :: (dio, dictOf (ioD h1 h2 h3 t1 t2 t3 t4 t5 t6 nl buf pos) 3) :: rest) :
  ∀ (p : Program) (loose : List Str) (mean : ExcName → Option Value) (mg mb : Str → Option Value) (dp un : Nat) (gd : Option (List Code)) (cn : Str) (cs : Scope) (a : Addr) (ccd : Value) (cl : List (Str × Addr)) (outer : List Env) (A₀ : Around) (base h₀ : Heap) (L : Addr) (m : Str → Option Value) (s : Shared) (Q E : Value → Shared → Prop),
    Below A₀ base outer h₀ → Fr h₀ L s.heap m → (hd02.heap_1 w.params).In h₀ → News h₀ L s.heap news → Top p loose mean mg mb h₀ → cs.kind = .function → dp + 7 < recursionLimit → un + 56 < cLine →
    (∀ t' h' tk', Fr h₀ L h' m → News h₀ L h' ((dlex, dictOf (lexD k .none (.str "" t')) 19) :: (dio, dictOf (ioD h1 h2 h3 t1 t2 t3 t4 t5 t6 nl buf pos) 3) :: rest) → Q .none { s with heap := h', toks := tk' }) →
    wpAny (model Challenge.rw_op0202_02.row.prog w) (ktrTop dp un gd cn cs L a ccd cl outer) (call (.ref 690) [.ref lex]) Q E s := by
  subst hnews
  k_fill
  intros
  rename_i hret
  k_with_none
  k_with "m call" =>
    (with_reducible show wpAny _ _ (call (Value.ref 533) _) _ _ _)
    k_dflt (refine' c_read_end w _ k.io dio h1 h2 h3 t1 t2 t3 t4 t5 t6 _ nl buf pos (.tail _ (.tail _ m1)) (.tail _ (.head _)) hp1 hs1 _ _ _ _ _ _ _ _ _ _ _ _ _ _ _ _ _ _ _ _ _ _ ?k1 ?k2 ?k3 ?k4 ?k5 ?k6 ?k8 ?k9 ?_)
    (case k1 => k_asm)
    (case k2 => k_asm)
    (case k3 => k_asm)
    (case k4 => k_asm)
    (case k5 => k_asm)
    (case k6 => exact rfl)
    (case k8 => ktr_room)
    (case k9 => ktr_units)
    k_whole
    intro t9 h9 tk9 F9 N9
    (try dsimp only)
    (try k_fold)
  (refine wpAny_call ?_; k_dflt (refine' code_def ?k1 ?k2 ?k3 ?k4 ?k5 ?kA ?kF ?kK ?k6 ?k7 ?k8 ?k9 ?kB ?_ ?c2 ?c3 ?c4 ?c5; (case kA => exact rfl); (case kF => exact rfl); (case kK => assumption); (case k1 => k_asm); (case k2 => k_asm); (case k3 => k_asm); (case k4 => k_asm); (case k5 => k_asm); (case k6 => k_is); (case k7 => k_is); (case k8 => ktr_room); (case k9 => first | exact BindsTo.of_eq rfl | exact binds_K (by k_in) rfl (by k_is) rfl rfl rfl); (case c5 => decide); (case kB => exact locs rfl); (case c2 => exact rfl); (case c3 => exact rfl); (case c4 => exact rfl); k_whole; intro g' L' h' FG' F' N' B' X' T'; (try dsimp only); (try k_lift B'); (try k_fold)))
  k_steps
  exact hret _ _ _ (by k_asm) (by k_asm)
local macro_rules | `(tactic| walk_at "truthy ref") => `(tactic| (k_here; k_dflt (refine' truthy_dqK ?k1 ?k2 ?_; (case k1 => k_asm); (case k2 => k_mem); k_whole)))
theorem c_get_token (w : World) (rest : List (Addr × Obj)) (k : LexK) (lex dlex dio : Addr) (h1 h2 h3 : Int) (t1 t2 t3 t4 t5 t6 t7 t8 : Tok) (nl buf : Str) (text out : List Nat)
   (m0 : (lex, instObj 722 dlex) ∈ rest) (m1 : (k.io, instObj 587 dio) ∈ rest) (m2 : (k.dq1, dqObj) ∈ rest) (m3 : (k.dq2, dqObj) ∈ rest) (hne1 : ∀ p ∈ rest, p.1 ≠ dio) (hne2 : ∀ p ∈ rest, p.1 ≠ dlex) (hne3 : dio ≠ dlex)
   (hsz : text.length < 900) (hbuf : buf = ⟨text.toArray⟩) (hrun : runM .w text = (out, .a)) (hout : out ≠ []) (hnn : text ≠ []) (hol : out.length < 2000)
   (hws : ∀ c ∈ text, okC c) (hwc : WcOk k.wc)
   (news : List (Addr × Obj)) (hnews : news = (dlex, dictOf (lexD k (.str " " t7) (.str "" t8)) 19) :: (dio, dictOf (ioD h1 h2 h3 t1 t2 t3 t4 t5 t6 nl buf 0) 3) :: rest) :
  ∀ (p : Program) (loose : List Str) (mean : ExcName → Option Value) (mg mb : Str → Option Value) (dp un : Nat) (gd : Option (List Code)) (cn : Str) (cs : Scope) (a : Addr) (ccd : Value) (cl : List (Str × Addr)) (outer : List Env) (A₀ : Around) (base h₀ : Heap) (L : Addr) (m : Str → Option Value) (s : Shared) (Q E : Value → Shared → Prop),
    Below A₀ base outer h₀ → Fr h₀ L s.heap m → (hd02.heap_1 w.params).In h₀ → News h₀ L s.heap news → Top p loose mean mg mb h₀ → cs.kind = .function → dp + 9 < recursionLimit → un + 72 < cLine →
    (∀ t t' t'' h' tk', Fr h₀ L h' m → News h₀ L h' ((dlex, dictOf (lexD k .none (.str "" t')) 19) :: (dio, dictOf (ioD h1 h2 h3 t1 t2 t3 t4 t5 t'' nl buf text.length) 3) :: rest) → Q (.str ⟨out.toArray⟩ t) { s with heap := h', toks := tk' }) →
    wpAny (model Challenge.rw_op0202_02.row.prog w) (ktrTop dp un gd cn cs L a ccd cl outer) (call (.ref 683) [.ref lex]) Q E s := by
  subst hnews
  k_fill
  intros
  rename_i hret
  k_with_none
  k_with "m call" =>
    (with_reducible show wpAny _ _ (call (Value.ref 690) _) _ _ _)
    k_dflt (refine' c_read_token w rest k lex dlex dio h1 h2 h3 t1 t2 t3 t4 t5 t6 t7 t8 nl buf text out m0 m1 hne1 hne2 hne3 hsz hbuf hrun hout hnn hol hws hwc _ rfl _ _ _ _ _ _ _ _ _ _ _ _ _ _ _ _ _ _ _ _ _ _ ?k1 ?k2 ?k3 ?k4 ?k5 ?k6 ?k8 ?k9 ?_)
    (case k1 => k_asm)
    (case k2 => k_asm)
    (case k3 => k_asm)
    (case k4 => k_asm)
    (case k5 => k_asm)
    (case k6 => exact rfl)
    (case k8 => ktr_room)
    (case k9 => ktr_units)
    k_whole
    intro t9 t9' t9'' h9 tk9 F9 N9
    (try dsimp only)
    (try k_fold)
  (refine wpAny_call ?_; k_dflt (refine' code_def ?k1 ?k2 ?k3 ?k4 ?k5 ?kA ?kF ?kK ?k6 ?k7 ?k8 ?k9 ?kB ?_ ?c2 ?c3 ?c4 ?c5; (case kA => exact rfl); (case kF => exact rfl); (case kK => assumption); (case k1 => k_asm); (case k2 => k_asm); (case k3 => k_asm); (case k4 => k_asm); (case k5 => k_asm); (case k6 => k_is); (case k7 => k_is); (case k8 => ktr_room); (case k9 => first | exact BindsTo.of_eq rfl | exact binds_K (by k_in) rfl (by k_is) rfl rfl rfl); (case c5 => decide); (case kB => exact locs rfl); (case c2 => exact rfl); (case c3 => exact rfl); (case c4 => exact rfl); k_whole; intro g' L' h' FG' F' N' B' X' T'; (try dsimp only); (try k_lift B'); (try k_fold)))
  k_steps
  exact hret _ _ _ _ _ (by k_asm) (by k_asm)
theorem c_get_none (w : World) (rest : List (Addr × Obj)) (k : LexK) (lex dlex dio : Addr) (h1 h2 h3 : Int) (t1 t2 t3 t4 t5 t6 t8 : Tok) (nl buf : Str) (pos : Int)
   (m0 : (lex, instObj 722 dlex) ∈ rest) (m1 : (k.io, instObj 587 dio) ∈ rest) (m2 : (k.dq1, dqObj) ∈ rest) (m3 : (k.dq2, dqObj) ∈ rest) (hne1 : ∀ p ∈ rest, p.1 ≠ dio) (hne2 : ∀ p ∈ rest, p.1 ≠ dlex) (hne3 : dio ≠ dlex)
   (hp1 : buf.length ≤ pos) (hs1 : buf.length ≤ 1000)
   (news : List (Addr × Obj)) (hnews : news = (dlex, dictOf (lexD k .none (.str "" t8)) 19) :: (dio, dictOf (ioD h1 h2 h3 t1 t2 t3 t4 t5 t6 nl buf pos) 3) :: rest) :
  ∀ (p : Program) (loose : List Str) (mean : ExcName → Option Value) (mg mb : Str → Option Value) (dp un : Nat) (gd : Option (List Code)) (cn : Str) (cs : Scope) (a : Addr) (ccd : Value) (cl : List (Str × Addr)) (outer : List Env) (A₀ : Around) (base h₀ : Heap) (L : Addr) (m : Str → Option Value) (s : Shared) (Q E : Value → Shared → Prop),
    Below A₀ base outer h₀ → Fr h₀ L s.heap m → (hd02.heap_1 w.params).In h₀ → News h₀ L s.heap news → Top p loose mean mg mb h₀ → cs.kind = .function → dp + 9 < recursionLimit → un + 72 < cLine →
    (∀ t' h' tk', Fr h₀ L h' m → News h₀ L h' ((dlex, dictOf (lexD k .none (.str "" t')) 19) :: (dio, dictOf (ioD h1 h2 h3 t1 t2 t3 t4 t5 t6 nl buf pos) 3) :: rest) → Q .none { s with heap := h', toks := tk' }) →
    wpAny (model Challenge.rw_op0202_02.row.prog w) (ktrTop dp un gd cn cs L a ccd cl outer) (call (.ref 683) [.ref lex]) Q E s := by
  subst hnews
  k_fill
  intros
  rename_i hret
  k_with_none
  k_with "m call" =>
    (with_reducible show wpAny _ _ (call (Value.ref 690) _) _ _ _)
    k_dflt (refine' c_read_none w rest k lex dlex dio h1 h2 h3 t1 t2 t3 t4 t5 t6 t8 nl buf pos m0 m1 hne1 hne2 hne3 hp1 hs1 _ rfl _ _ _ _ _ _ _ _ _ _ _ _ _ _ _ _ _ _ _ _ _ _ ?k1 ?k2 ?k3 ?k4 ?k5 ?k6 ?k8 ?k9 ?_)
    (case k1 => k_asm)
    (case k2 => k_asm)
    (case k3 => k_asm)
    (case k4 => k_asm)
    (case k5 => k_asm)
    (case k6 => exact rfl)
    (case k8 => ktr_room)
    (case k9 => ktr_units)
    k_whole
    intro t9' h9 tk9 F9 N9
    (try dsimp only)
    (try k_fold)
  (refine wpAny_call ?_; k_dflt (refine' code_def ?k1 ?k2 ?k3 ?k4 ?k5 ?kA ?kF ?kK ?k6 ?k7 ?k8 ?k9 ?kB ?_ ?c2 ?c3 ?c4 ?c5; (case kA => exact rfl); (case kF => exact rfl); (case kK => assumption); (case k1 => k_asm); (case k2 => k_asm); (case k3 => k_asm); (case k4 => k_asm); (case k5 => k_asm); (case k6 => k_is); (case k7 => k_is); (case k8 => ktr_room); (case k9 => first | exact BindsTo.of_eq rfl | exact binds_K (by k_in) rfl (by k_is) rfl rfl rfl); (case c5 => decide); (case kB => exact locs rfl); (case c2 => exact rfl); (case c3 => exact rfl); (case c4 => exact rfl); k_whole; intro g' L' h' FG' F' N' B' X' T'; (try dsimp only); (try k_lift B'); (try k_fold)))
  k_steps
  exact hret _ _ _ (by k_asm) (by k_asm)
end
section
local macro_rules | `(tactic| walk_at "call ref") => `(tactic| k_extra "m call")
theorem off_NX : True := by
  w_top off
  trivial
theorem c_next (w : World) (rest : List (Addr × Obj)) (k : LexK) (lex dlex dio : Addr) (h1 h2 h3 : Int) (t1 t2 t3 t4 t5 t6 t7 t8 : Tok) (nl buf : Str) (text out : List Nat)
   (m0 : (lex, instObj 722 dlex) ∈ rest) (m1 : (k.io, instObj 587 dio) ∈ rest) (m2 : (k.dq1, dqObj) ∈ rest) (m3 : (k.dq2, dqObj) ∈ rest) (hne1 : ∀ p ∈ rest, p.1 ≠ dio) (hne2 : ∀ p ∈ rest, p.1 ≠ dlex) (hne3 : dio ≠ dlex)
   (hsz : text.length < 900) (hbuf : buf = ⟨text.toArray⟩) (hrun : runM .w text = (out, .a)) (hout : out ≠ []) (hnn : text ≠ []) (hol : out.length < 2000)
   (hws : ∀ c ∈ text, okC c) (hwc : WcOk k.wc)
   (news : List (Addr × Obj)) (hnews : news = (dlex, dictOf (lexD k (.str " " t7) (.str "" t8)) 19) :: (dio, dictOf (ioD h1 h2 h3 t1 t2 t3 t4 t5 t6 nl buf 0) 3) :: rest) :
  ∀ (p : Program) (loose : List Str) (mean : ExcName → Option Value) (mg mb : Str → Option Value) (dp un : Nat) (gd : Option (List Code)) (cn : Str) (cs : Scope) (a : Addr) (ccd : Value) (cl : List (Str × Addr)) (outer : List Env) (A₀ : Around) (base h₀ : Heap) (L : Addr) (m : Str → Option Value) (s : Shared) (Q E : Value → Shared → Prop),
    Below A₀ base outer h₀ → Fr h₀ L s.heap m → (hd02.heap_1 w.params).In h₀ → News h₀ L s.heap news → Top p loose mean mg mb h₀ → cs.kind = .function → dp + 11 < recursionLimit → un + 88 < cLine →
    (∀ t t' t'' h' tk', Fr h₀ L h' m → News h₀ L h' ((dlex, dictOf (lexD k .none (.str "" t')) 19) :: (dio, dictOf (ioD h1 h2 h3 t1 t2 t3 t4 t5 t'' nl buf text.length) 3) :: rest) → Q (.str ⟨out.toArray⟩ t) { s with heap := h', toks := tk' }) →
    wpAny (model Challenge.rw_op0202_02.row.prog w) (ktrTop dp un gd cn cs L a ccd cl outer) (call (.ref 719) [.ref lex]) Q E s := by
  subst hnews
  k_fill
  intros
  rename_i hret
  k_with_none
  k_with "m call" =>
    (with_reducible show wpAny _ _ (call (Value.ref 683) _) _ _ _)
    k_dflt (refine' c_get_token w rest k lex dlex dio h1 h2 h3 t1 t2 t3 t4 t5 t6 t7 t8 nl buf text out m0 m1 m2 m3 hne1 hne2 hne3 hsz hbuf hrun hout hnn hol hws hwc _ rfl _ _ _ _ _ _ _ _ _ _ _ _ _ _ _ _ _ _ _ _ _ _ ?k1 ?k2 ?k3 ?k4 ?k5 ?k6 ?k8 ?k9 ?_)
    (case k1 => k_asm)
    (case k2 => k_asm)
    (case k3 => k_asm)
    (case k4 => k_asm)
    (case k5 => k_asm)
    (case k6 => exact rfl)
    (case k8 => ktr_room)
    (case k9 => ktr_units)
    k_whole
    intro t9 t9' t9'' h9 tk9 F9 N9
    (try dsimp only)
    (try k_fold)
  (refine wpAny_call ?_; k_dflt (refine' code_def ?k1 ?k2 ?k3 ?k4 ?k5 ?kA ?kF ?kK ?k6 ?k7 ?k8 ?k9 ?kB ?_ ?c2 ?c3 ?c4 ?c5; (case kA => exact rfl); (case kF => exact rfl); (case kK => assumption); (case k1 => k_asm); (case k2 => k_asm); (case k3 => k_asm); (case k4 => k_asm); (case k5 => k_asm); (case k6 => k_is); (case k7 => k_is); (case k8 => ktr_room); (case k9 => first | exact BindsTo.of_eq rfl | exact binds_K (by k_in) rfl (by k_is) rfl rfl rfl); (case c5 => decide); (case kB => exact locs rfl); (case c2 => exact rfl); (case c3 => exact rfl); (case c4 => exact rfl); k_whole; intro g' L' h' FG' F' N' B' X' T'; (try dsimp only); (try k_lift B'); (try k_fold)))
  k_steps
  exact hret _ _ _ _ _ (by k_asm) (by k_asm)
theorem c_next_stop (w : World) (rest : List (Addr × Obj)) (k : LexK) (lex dlex dio : Addr) (h1 h2 h3 : Int) (t1 t2 t3 t4 t5 t6 t8 : Tok) (nl buf : Str) (pos : Int)
   (m0 : (lex, instObj 722 dlex) ∈ rest) (m1 : (k.io, instObj 587 dio) ∈ rest) (m2 : (k.dq1, dqObj) ∈ rest) (m3 : (k.dq2, dqObj) ∈ rest) (hne1 : ∀ p ∈ rest, p.1 ≠ dio) (hne2 : ∀ p ∈ rest, p.1 ≠ dlex) (hne3 : dio ≠ dlex)
   (hp1 : buf.length ≤ pos) (hs1 : buf.length ≤ 1000)
   (news : List (Addr × Obj)) (hnews : news = (dlex, dictOf (lexD k .none (.str "" t8)) 19) :: (dio, dictOf (ioD h1 h2 h3 t1 t2 t3 t4 t5 t6 nl buf pos) 3) :: rest) :
  ∀ (p : Program) (loose : List Str) (mean : ExcName → Option Value) (mg mb : Str → Option Value) (dp un : Nat) (gd : Option (List Code)) (cn : Str) (cs : Scope) (a : Addr) (ccd : Value) (cl : List (Str × Addr)) (outer : List Env) (A₀ : Around) (base h₀ : Heap) (L : Addr) (m : Str → Option Value) (s : Shared) (Q E : Value → Shared → Prop),
    Below A₀ base outer h₀ → Fr h₀ L s.heap m → (hd02.heap_1 w.params).In h₀ → News h₀ L s.heap news → Top p loose mean mg mb h₀ → cs.kind = .function → dp + 11 < recursionLimit → un + 88 < cLine →
    (∀ e t t' h' tk' g, Fr h₀ L g m → RaisedS base g (envX cn cs L a ccd cl :: outer) e (.type "StopIteration") t [] ((dlex, dictOf (lexD k .none (.str "" t')) 19) :: (dio, dictOf (ioD h1 h2 h3 t1 t2 t3 t4 t5 t6 nl buf pos) 3) :: rest) h' → g.UpToSlots h' → E (.ref e) { s with heap := h', toks := tk' }) →
    wpAny (model Challenge.rw_op0202_02.row.prog w) (ktrTop dp un gd cn cs L a ccd cl outer) (call (.ref 719) [.ref lex]) Q E s := by
  subst hnews
  k_fill
  intros
  rename_i hret
  k_with_none
  k_with "m call" =>
    (with_reducible show wpAny _ _ (call (Value.ref 683) _) _ _ _)
    k_dflt (refine' c_get_none w rest k lex dlex dio h1 h2 h3 t1 t2 t3 t4 t5 t6 t8 nl buf pos m0 m1 m2 m3 hne1 hne2 hne3 hp1 hs1 _ rfl _ _ _ _ _ _ _ _ _ _ _ _ _ _ _ _ _ _ _ _ _ _ ?k1 ?k2 ?k3 ?k4 ?k5 ?k6 ?k8 ?k9 ?_)
    (case k1 => k_asm)
    (case k2 => k_asm)
    (case k3 => k_asm)
    (case k4 => k_asm)
    (case k5 => k_asm)
    (case k6 => exact rfl)
    (case k8 => ktr_room)
    (case k9 => ktr_units)
    k_whole
    intro t9' h9 tk9 F9 N9
    (try dsimp only)
    (try k_fold)
  (refine wpAny_call ?_; k_dflt (refine' code_def ?k1 ?k2 ?k3 ?k4 ?k5 ?kA ?kF ?kK ?k6 ?k7 ?k8 ?k9 ?kB ?_ ?c2 ?c3 ?c4 ?c5; (case kA => exact rfl); (case kF => exact rfl); (case kK => assumption); (case k1 => k_asm); (case k2 => k_asm); (case k3 => k_asm); (case k4 => k_asm); (case k5 => k_asm); (case k6 => k_is); (case k7 => k_is); (case k8 => ktr_room); (case k9 => first | exact BindsTo.of_eq rfl | exact binds_K (by k_in) rfl (by k_is) rfl rfl rfl); (case c5 => decide); (case kB => exact locs rfl); (case c2 => exact rfl); (case c3 => exact rfl); (case c4 => exact rfl); k_whole; intro g' L' h' FG' F' N' B' X' T'; (try dsimp only); (try k_lift B'); (try k_fold)))
  repeat' ((fail_if_success (with_reducible show wpAny _ _ (leaving _ _) _ _ _)); first | (k_unfold; (try dsimp only)) | (k_end; wrow_close) | walk1 | (dsimp only; walk1) | (leave1; walk_say "STEP leave1"; try dsimp only) | fail "no step")
  k_dflt (refine' leave_raiseS ?k1 (Heap.MadeExc.of ?k2) ?k3 ?k4 ?k5)
  case k1 => k_asm
  case k2 => assumption
  case k3 => k_asm
  case k4 => k_asm
  case k5 =>
    intro hS tS RS RK US
    exact hret _ _ _ _ _ _ (by k_asm) RS US
end
section
theorem off_LL : True := by
  w_top off
  trivial
theorem c_iter (w : World) (news : List (Addr × Obj)) (lex : Addr) :
  ∀ (p : Program) (loose : List Str) (mean : ExcName → Option Value) (mg mb : Str → Option Value) (dp un : Nat) (gd : Option (List Code)) (cn : Str) (cs : Scope) (a : Addr) (ccd : Value) (cl : List (Str × Addr)) (outer : List Env) (A₀ : Around) (base h₀ : Heap) (L : Addr) (m : Str → Option Value) (s : Shared) (Q E : Value → Shared → Prop),
    Below A₀ base outer h₀ → Fr h₀ L s.heap m → (hd02.heap_1 w.params).In h₀ → News h₀ L s.heap news → Top p loose mean mg mb h₀ → cs.kind = .function → dp + 1 < recursionLimit → un + 8 < cLine →
    (∀ h' tk', Fr h₀ L h' m → News h₀ L h' news → Q (.ref lex) { s with heap := h', toks := tk' }) →
    wpAny (model Challenge.rw_op0202_02.row.prog w) (ktrTop dp un gd cn cs L a ccd cl outer) (call (.ref 712) [.ref lex]) Q E s := by
  k_fill
  intros
  rename_i hret
  (refine wpAny_call ?_; k_dflt (refine' code_def ?k1 ?k2 ?k3 ?k4 ?k5 ?kA ?kF ?kK ?k6 ?k7 ?k8 ?k9 ?kB ?_ ?c2 ?c3 ?c4 ?c5; (case kA => exact rfl); (case kF => exact rfl); (case kK => assumption); (case k1 => k_asm); (case k2 => k_asm); (case k3 => k_asm); (case k4 => k_asm); (case k5 => k_asm); (case k6 => k_is); (case k7 => k_is); (case k8 => ktr_room); (case k9 => first | exact BindsTo.of_eq rfl | exact binds_K (by k_in) rfl (by k_is) rfl rfl rfl); (case c5 => decide); (case kB => exact locs rfl); (case c2 => exact rfl); (case c3 => exact rfl); (case c4 => exact rfl); k_whole; intro g' L' h' FG' F' N' B' X' T'; (try dsimp only); (try k_lift B'); (try k_fold)))
  k_steps
  exact hret _ _ (by k_asm) (by k_asm)
noncomputable abbrev lstOf (its : Array Value) (n : Nat) : Obj := { cls := .type "list", data := .seq its n }
theorem upd_head {h₀ h : Heap} {L S : Addr} {m : Str → Option Value} {o : Obj} {news : List (Addr × Obj)} (F : Fr h₀ L h m) (N : News h₀ L h ((S, o) :: news)) (lt : ∀ q ∈ news, q.1 < S) (f : Obj → Obj) (hf : (f o).isFreed = false) :
    Fr h₀ L (h.update S f) m ∧ News h₀ L (h.update S f) ((S, f o) :: news) := by
  have hs : Heap.SameBut S h (h.update S f) := Heap.SameBut.update ..
  have ho := Heap.get?_update_self f (N _ (.head _)).1 hf
  refine ⟨F.update N (.head _) hs, fun q hq => ?_⟩
  rcases List.mem_cons.mp hq with rfl | hq
  · exact ⟨ho, (N _ (.head _)).2⟩
  · exact ⟨(hs.2 _ (Nat.ne_of_lt (lt q hq))).trans (N q (.tail _ hq)).1, (N q (.tail _ hq)).2⟩
theorem news_rot {h₀ h : Heap} {L : Addr} {x y z : Addr × Obj} {rest : List (Addr × Obj)} (N : News h₀ L h (x :: y :: z :: rest)) : News h₀ L h (y :: z :: x :: rest) := fun p hp => N p (by
  simp only [List.mem_cons] at hp ⊢
  rcases hp with hp | hp | hp | hp <;> simp [hp])
theorem news_rot' {h₀ h : Heap} {L : Addr} {x y z : Addr × Obj} {rest : List (Addr × Obj)} (N : News h₀ L h (y :: z :: x :: rest)) : News h₀ L h (x :: y :: z :: rest) := fun p hp => N p (by
  simp only [List.mem_cons] at hp ⊢
  rcases hp with hp | hp | hp | hp <;> simp [hp])
theorem lexK1 (w : World) : findIn (hd02.heap_1 w.params) (.ref 722) "__iter__" = some (some (.ref 712)) := by kernel_rfl
theorem lexK2 (w : World) : isFn (hd02.heap_1 w.params) (.ref 712) = true := by kernel_rfl
theorem lexK3 (w : World) : findIn (hd02.heap_1 w.params) (.ref 722) "__next__" = some (some (.ref 719)) := by kernel_rfl
theorem lexK4 (w : World) : isFn (hd02.heap_1 w.params) (.ref 719) = true := by kernel_rfl
theorem lexK5 (w : World) : findIn (hd02.heap_1 w.params) (.ref 722) "__len__" = some none := by kernel_rfl
theorem lexK6 (w : World) : findIn (hd02.heap_1 w.params) (.ref 722) "__length_hint__" = some none := by kernel_rfl
theorem c_list_lex (w : World) (rest : List (Addr × Obj)) (k : LexK) (lex dlex dio : Addr) (h1 h2 h3 : Int) (t1 t2 t3 t4 t5 t6 t7 t8 : Tok) (nl buf : Str) (text out : List Nat)
   (m0 : (lex, instObj 722 dlex) ∈ rest) (m1 : (k.io, instObj 587 dio) ∈ rest) (m2 : (k.dq1, dqObj) ∈ rest) (m3 : (k.dq2, dqObj) ∈ rest) (hne1 : ∀ p ∈ rest, p.1 ≠ dio) (hne2 : ∀ p ∈ rest, p.1 ≠ dlex) (hne3 : dio ≠ dlex)
   (hsz : text.length < 900) (hbuf : buf = ⟨text.toArray⟩) (hrun : runM .w text = (out, .a)) (hout : out ≠ []) (hnn : text ≠ []) (hol : out.length < 2000)
   (hws : ∀ c ∈ text, okC c) (hwc : WcOk k.wc)
   (news : List (Addr × Obj)) (hnews : news = (dlex, dictOf (lexD k (.str " " t7) (.str "" t8)) 19) :: (dio, dictOf (ioD h1 h2 h3 t1 t2 t3 t4 t5 t6 nl buf 0) 3) :: rest)
   (p : Program) (loose : List Str) (mean : ExcName → Option Value) (mg mb : Str → Option Value) (dp un : Nat) (gd : Option (List Code)) (cn : Str) (cs : Scope) (a : Addr) (ccd : Value) (outer : List Env) (A₀ : Around) (base h₀ : Heap) (L : Addr) (m : Str → Option Value) (s : Shared) (Q E : Value → Shared → Prop)
   (B : Below A₀ base outer h₀) (F : Fr h₀ L s.heap m) (X : (hd02.heap_1 w.params).In h₀) (N : News h₀ L s.heap news) (T : Top p loose mean mg mb h₀) (hk : cs.kind = .function) (hd : dp + 12 < recursionLimit) (hu : un + 100 < cLine)
   (ret : ∀ g' S t t' t'' n h' tk', KtsTurn (outer.filterMap (·.frame)) h₀ g' → Below A₀ base outer g' → Fr g' L h' m → News g' L h' ((S, lstOf #[.str ⟨out.toArray⟩ t] n) :: (dlex, dictOf (lexD k .none (.str "" t')) 19) :: (dio, dictOf (ioD h1 h2 h3 t1 t2 t3 t4 t5 t'' nl buf text.length) 3) :: rest) → Q (.ref S) { s with heap := h', toks := tk' }) :
   wpAny (model Challenge.rw_op0202_02.row.prog w) (ktrTop dp un gd cn cs L a ccd [] outer) (call (.type "list") [.ref lex]) Q E s := by
  subst hnews
  refine callType_codes (Q₁ := fun obj s₁ => obj = .ref s.heap.objs.size ∧ s₁ = { s with heap := s.heap.push { cls := .type "list", data := .seq #[] } }) PySem.F.called_list (PySem.F.typeCall_list_1 _) PySem.F.entry_list_init (code_list_new _ ⟨rfl, rfl⟩) fun obj s₁ h₁ => ?_
  obtain ⟨rfl, rfl⟩ := h₁
  have hS : (s.heap.push { cls := .type "list", data := .seq #[] }).get? s.heap.objs.size = some { cls := .type "list", data := .seq #[] } := Heap.get?_push_size _ rfl
  refine ⟨⟨_, hS, rfl⟩, PySem.F.args_list_init_2 _ _, ?_⟩
  have F1 := F.push { cls := .type "list", data := .seq #[] }
  have N1 := N.push F { cls := .type "list", data := .seq #[] }
  have lt : ∀ q ∈ ((dlex, dictOf (lexD k (.str " " t7) (.str "" t8)) 19) :: (dio, dictOf (ioD h1 h2 h3 t1 t2 t3 t4 t5 t6 nl buf 0) 3) :: rest), q.1 < s.heap.objs.size := fun q hq => Heap.lt_size (N q hq).1
  generalize s.heap.objs.size = S at *
  generalize s.heap.push { cls := .type "list", data := .seq #[] } = hp at *
  show wpAny _ _ (do let old ← Builtin.List.listItems (.ref S); Builtin.List.listUpdate (.ref S) (fun _ => #[]); letGo old.toList.reverse; Builtin.List.listExtendWith (.ref S) (.ref lex) .none) _ _ _
  refine wpAny_bind ?_
  unfold Builtin.List.listItems
  refine wpAny_bind (wpAny_seqItems hS rfl (wpAny_pure ?_))
  show wpAny _ _ (updateSeq S (fun _ => #[]) >>= fun _ => letGo (#[] : Array Value).toList.reverse >>= fun _ => Builtin.List.listExtendWith (.ref S) (.ref lex) .none) _ _ _
  refine wpAny_bind (wpAny_updateSeq hS rfl ?_)
  obtain ⟨F2, N2⟩ := upd_head F1 N1 lt (Obj.mapSeq (fun _ => (#[] : Array Value))) rfl
  generalize hp.update S (Obj.mapSeq (fun _ => (#[] : Array Value))) = hp2 at *
  refine wpAny_bind (wpAny_letGo ?_)
  unfold Builtin.List.listExtendWith
  have I2 : InstAt hp2 lex (instObj 722 dlex) 722 (some (dictOf (lexD k (.str " " t7) (.str "" t8)) 19)) := InstAt.of_news N2 (.tail _ (.tail _ (.tail _ m0))) (.tail _ (.head _))
  have hSx : S ≠ lex := fun e => Nat.lt_irrefl S (by rw [e] at lt ⊢; exact lt _ (.tail _ (.tail _ m0)))
  refine wpAny_bind (I2.type.here ?_)
  have q1 : Builtin.List.listSameRef (.ref S) (.ref lex) = false := by simp [Builtin.List.listSameRef, hSx]
  have q2 : (Value.ref 722 == Value.type "list") = false := by decide
  have q3 : (Value.ref 722 == Value.type "tuple") = false := by decide
  simp only [q1, q2, q3, Bool.or_false, Bool.false_eq_true, if_false]
  refine wpAny_bind (owit_iter F2 X I2 (lexK1 w) (lexK2 w) ?_)
  refine c_iter w _ lex p loose mean mg mb dp (un + 2) gd cn cs a ccd [] outer A₀ base h₀ L m _ _ _ B F2 X N2 T hk (by omega) (by omega) ?_
  intro hp3 tk3 F3 N3
  have I3 : InstAt hp3 lex (instObj 722 dlex) 722 (some (dictOf (lexD k (.str " " t7) (.str "" t8)) 19)) := InstAt.of_news N3 (.tail _ (.tail _ (.tail _ m0))) (.tail _ (.head _))
  refine owit_it F3 X I3 (lexK3 w) ?_
  refine wpAny_bind (wpAny_holding ?_)
  unfold Builtin.List.listLengthHint
  refine wpAny_bind (wpAny_bind (I3.type.here ((looks_findIn (X.keeps F3.keep) (lexK5 w)).here ?_)))
  show wpAny _ _ (specialOf (.ref lex) (Str.ofString "__length_hint__") >>= _) _ _ _
  refine wpAny_bind (wpAny_bind (I3.type.here ((looks_findIn (X.keeps F3.keep) (lexK6 w)).here ?_)))
  refine wpAny_pure ?_
  show wpAny _ _ (rule "list.extend.makes-room" >>= fun _ => Builtin.List.listTouch (.ref S) >>= fun _ => again (.builtin "list.extend.loop" ⟨[.ref S, .ref lex, .none], []⟩)) _ _ _
  refine wpAny_bind (wpAny_rule ?_)
  refine wpAny_bind ?_
  show wpAny _ _ (updateSeq S (·.push .none) >>= fun _ => updateSeq S (·.pop)) _ _ _
  refine wpAny_bind (wpAny_updateSeq (N3 _ (.head _)).1 rfl ?_)
  obtain ⟨F4, N4⟩ := upd_head F3 N3 lt (Obj.mapSeq (·.push Value.none)) rfl
  generalize hp3.update S (Obj.mapSeq (·.push Value.none)) = hp4 at *
  refine wpAny_updateSeq (hz := by seq_fits) (N4 _ (.head _)).1 rfl ?_
  obtain ⟨F5, N5⟩ := upd_head F4 N4 lt (Obj.mapSeq (·.pop)) rfl
  generalize hp4.update S (Obj.mapSeq (·.pop)) = hp5 at *
  refine wpAny_pure ⟨plainId_quiet PySem.F.plain_extend_loop _, ?_⟩
  have I5 : InstAt hp5 lex (instObj 722 dlex) 722 (some (dictOf (lexD k (.str " " t7) (.str "" t8)) 19)) := InstAt.of_news N5 (.tail _ (.tail _ (.tail _ m0))) (.tail _ (.head _))
  refine codeAny_builtin PySem.F.entry_extend_loop ?_
  rw [Around.under_plainId PySem.F.plain_extend_loop _]
  unfold Builtin.«list.extend.loop»
  refine wpAny_bind (owit_next F5 X I5 (lexK3 w) (lexK4 w) ?_)
  have hSio : S ≠ dio := fun e => Nat.lt_irrefl S (by have := lt _ (.tail _ (.head _)); rw [← e] at this; exact this)
  have hSlx : S ≠ dlex := fun e => Nat.lt_irrefl S (by have := lt _ (.head _); rw [← e] at this; exact this)
  have g1 : ∀ (o : Obj), ∀ p ∈ (S, o) :: rest, p.1 ≠ dio := fun o p hp => by
    rcases List.mem_cons.mp hp with rfl | hp
    · exact hSio
    · exact hne1 p hp
  have g2 : ∀ (o : Obj), ∀ p ∈ (S, o) :: rest, p.1 ≠ dlex := fun o p hp => by
    rcases List.mem_cons.mp hp with rfl | hp
    · exact hSlx
    · exact hne2 p hp
  refine c_next w ((S, _) :: rest) k lex dlex dio h1 h2 h3 t1 t2 t3 t4 t5 t6 t7 t8 nl buf text out (.tail _ m0) (.tail _ m1) (.tail _ m2) (.tail _ m3) (g1 _) (g2 _) hne3 hsz hbuf hrun hout hnn hol hws hwc _ rfl p loose mean mg mb dp (un + 2) gd cn cs a ccd [] outer A₀ base h₀ L m _ _ _ B F5 X (news_rot N5) T hk (by omega) (by omega) ?_
  intro t9 t9' t9'' hp6 tk6 F6 N6'
  have N6 := news_rot' N6'
  have lt6 : ∀ q ∈ ((dlex, dictOf (lexD k .none (.str "" t9')) 19) :: (dio, dictOf (ioD h1 h2 h3 t1 t2 t3 t4 t5 t9'' nl buf text.length) 3) :: rest), q.1 < S := fun q hq => by
    rcases List.mem_cons.mp hq with rfl | hq
    · exact (lt _ (.head _) : dlex < S)
    · rcases List.mem_cons.mp hq with rfl | hq
      · exact (lt _ (.tail _ (.head _)) : dio < S)
      · exact lt q (.tail _ (.tail _ hq))
  show wpAny _ _ (updateSeq S (·.push _) >>= fun _ => again (.builtin "list.extend.loop" ⟨[.ref S, .ref lex, .none], []⟩)) _ _ _
  refine wpAny_bind (wpAny_updateSeq (hz := by seq_fits) (N6 _ (.head _)).1 rfl ?_)
  obtain ⟨F7, N7⟩ := upd_head F6 N6 lt6 (Obj.mapSeq (·.push (Value.str ⟨out.toArray⟩ t9))) rfl
  generalize hp6.update S (Obj.mapSeq (·.push (Value.str ⟨out.toArray⟩ t9))) = hp7 at *
  refine wpAny_pure ⟨plainId_quiet PySem.F.plain_extend_loop _, ?_⟩
  have I7 : InstAt hp7 lex (instObj 722 dlex) 722 (some (dictOf (lexD k .none (.str "" t9')) 19)) := InstAt.of_news N7 (.tail _ (.tail _ (.tail _ m0))) (.tail _ (.head _))
  refine codeAny_builtin PySem.F.entry_extend_loop ?_
  rw [Around.under_plainId PySem.F.plain_extend_loop _]
  unfold Builtin.«list.extend.loop»
  refine wpAny_bind (owit_next F7 X I7 (lexK3 w) (lexK4 w) ?_)
  refine c_next_stop w ((S, _) :: rest) k lex dlex dio h1 h2 h3 t1 t2 t3 t4 t5 t9'' t9' nl buf text.length (.tail _ m0) (.tail _ m1) (.tail _ m2) (.tail _ m3) (g1 _) (g2 _) hne3 (by subst hbuf; exact Int.ofNat_le.mpr (Nat.le_of_eq (List.size_toArray ..))) (by subst hbuf; show text.toArray.size ≤ 1000; rw [List.size_toArray]; omega) _ rfl p loose mean mg mb dp (un + 2) gd cn cs a ccd [] outer A₀ base h₀ L m _ _ _ B F7 X (news_rot N7) T hk (by omega) (by omega) ?_
  intro e t t' h' tk' g Fg R U
  obtain ⟨⟨B', hB, hBG, hl, hfl, hnew⟩, htup⟩ := R
  have hL : B'.get? L = none := by
    obtain ⟨_, ⟨L', _, hf, hn', _⟩, _⟩ := hfl.2.2.1
    obtain rfl : L = L' := Option.some.inj hf
    exact hn'
  obtain ⟨ob, hob, hobc⟩ := hfl.there
  unfold OwitStop
  refine wpAny_isInstance (show ∃ o, h'.get? e = some o ∧ o.cls = .type "StopIteration" from ⟨ob, hob, hobc⟩) (show isSubtype (.type "StopIteration") (.type "StopIteration") = pure true from rfl) ?_
  rw [if_pos rfl]
  obtain ⟨g', T', F', B'⟩ := kts_ground (name := cn) (scope := cs) (a := a) (cd := ccd) B Fg hBG hfl.1 U
  have N' : News g' L h' _ := fun q hq => ⟨hfl.1 _ _ (hl q hq).1, (fun z => by have := (hl q hq).1; rw [z, hL] at this; cases this), T'.none_ _ (kts_none Fg.keep (hl q hq).2.1)⟩
  refine wpAny_pure ⟨rfl, ?_⟩
  exact ret g' S t9 t' t9'' _ h' tk' T' B' F' (news_rot' N')
end
section
noncomputable abbrev frs (l : List Env) : List Addr := l.filterMap (·.frame)
noncomputable def LeaveT (A₀ : Around) (base : Heap) (env : Env) (outer : List Env) (h₀ : Heap) (L : Addr) (m : Str → Option Value) (g : Heap) (R : Result → Shared → Prop) (v : Value) (s' : Shared) : Prop :=
  ∃ g' L' m' news', KtsTurn (frs (env :: outer)) g g' ∧ Fr g' L' s'.heap m' ∧ News g' L' s'.heap news' ∧ ∀ h₀', KtsTurn (frs outer) h₀ h₀' → Below A₀ base outer h₀' → Fr h₀' L s'.heap m → News h₀' L s'.heap news' → R (.ok (.ret v)) s'
section
variable {prog : Program} {w : World} {A₀ A : Around} {s : Shared} {base h₀ : Heap} {outer : List Env} {L : Addr} {m : Str → Option Value} {env : Env} {news : List (Addr × Obj)} {R : Result → Shared → Prop}
theorem memT {b : Addr} (hf : env.frame = some L) (hm : b ∈ frs (env :: outer)) : b = L ∨ b ∈ frs outer := by
  obtain ⟨env', he, hf'⟩ := List.mem_filterMap.mp hm
  rcases List.mem_cons.mp he with rfl | he
  · exact .inl (Option.some.inj (hf'.symm.trans hf))
  · exact .inr (List.mem_filterMap.mpr ⟨env', he, hf'⟩)
theorem groundT (B : Below A₀ base outer h₀) (F : Fr h₀ L s.heap m) (N : News h₀ L s.heap news) (hA : A.frames = some (env :: outer)) (hf : env.frame = some L) (hke : env.scope.kind = .function) :
    Fr h₀ L (hideAll s.heap (news.map (·.1))) m ∧ Below A base (env :: outer) (hideAll s.heap (news.map (·.1))) ∧ h₀.StaysIn (hideAll s.heap (news.map (·.1))) ∧
      ∀ v s', LeaveT A₀ base env outer h₀ L m (hideAll s.heap (news.map (·.1))) R v s' → R (.ok (.ret v)) s' := by
  obtain ⟨FG, BG, st, _⟩ := groundX (R := R) B F N hA hf hke
  refine ⟨FG, BG, st, fun v s' hl => ?_⟩
  obtain ⟨oL, es, ep, hLg, hLd, hLk, hLf⟩ := FG.ns
  have nL₀ : h₀.get? L = none := kts_self F
  obtain ⟨g', L', m', news', T', F', N', k⟩ := hl
  obtain ⟨sl, hs⟩ := T'.up hLg
  obtain ⟨T₁, S₁⟩ := kts_turn_at (h := s'.heap) (fs := frs outer) (g := h₀)
    (fun b hb => by
      obtain ⟨_, o, ho', _⟩ := B.frames.mem hb
      exact ⟨o, ho'⟩)
    (fun b o e nmem => F'.keep b o (T'.other b o (st b o e) (fun q => by
      rcases memT hf q with z | z
      · rw [z, nL₀] at e
        cases e
      · exact nmem z)))
    (fun b o e hm => by
      obtain ⟨sl', hs'⟩ := T'.up (st b o e)
      exact ⟨sl', F'.keep _ _ hs'⟩)
  have B₃ : Below A₀ base outer (ktsHeap s'.heap (frs outer) h₀) := ⟨B.stack, fun b o e => T₁.other b o (B.stays b o e) (fun hm => by
    rw [(B.frames.mem hm).1] at e
    cases e), B.frames.of_keeps fun b o e _ => by
    obtain ⟨sl', hs'⟩ := T₁.up e
    exact ⟨_, hs', rfl⟩⟩
  refine k _ T₁ B₃ ⟨⟨_, es, ep, F'.keep _ _ hs, hLd, hLk, hLf⟩, S₁, by rw [T₁.size]; exact F.above⟩ (fun p hp => ⟨(N' p hp).1, fun q => ?_, ?_⟩)
  · have := (N' p hp).2.2; rw [q, hs] at this; cases this
  · refine T₁.none_ _ ?_
    cases q : h₀.get? p.1 with
    | none => rfl
    | some o =>
      obtain ⟨sl', hs'⟩ := T'.up (st _ _ q)
      have := (N' p hp).2.2
      rw [hs'] at this
      cases this
end
section
variable {prog : Program} {w : World} {A₀ A : Around} {s : Shared} {base h₀ : Heap} {outer : List Env} {L : Addr} {m : Str → Option Value} {env : Env} {news : List (Addr × Obj)} {R : Result → Shared → Prop} {K : Frag} {p : Program} {loose : List Str} {mean : ExcName → Option Value} {mg mb : Str → Option Value}
  {name qual : Str} {params : Arguments} {body : List Stmt} {scope : Scope} {dV kV doc pm cdv ct oc : Value} {an od : Option Addr} {osl : Array (Option Value)} {f : Addr} {args : Args} {binds : List (Str × Value)}
theorem code_defT (B : Below A₀ base outer h₀) (F : Fr h₀ L s.heap m) (X₀ : K.In h₀) (N : News h₀ L s.heap news) (T : Top p loose mean mg mb h₀) (hA : A.frames = some (env :: outer)) (hf : env.frame = some L) (hke : env.scope.kind = .function)
    (ho : K.lookup f = some ⟨oc, od, .func (fnOf name qual params body scope dV kV doc pm an cdv ct), osl⟩) (hcd : codeIn K cdv qual = true) (hroom : A.depth < recursionLimit)
    (hbind : BindsTo s (fnOf name qual params body scope dV kV doc pm an cdv ct) args binds) (hloc : ∀ y ∈ binds, scope.names.lookup y.1 = some .local)
    (h : ∀ g L' h₁, Fr h₀ L g m → Fr g L' h₁ (fun y => binds.reverse.lookup y) → News g L' h₁ news → Below A base (env :: outer) g → K.In g → Top p loose mean mg mb g →
      wpAny (model prog w) (A.deeper (envOf qual scope L' f cdv)) (execs body (envOf qual scope L' f cdv))
        (fun fl s' => LeaveT A₀ base env outer h₀ L m g R (match fl with | .ret v => v | _ => .none) s')
        (fun e s' => wpAny (model prog w) (A.deeper (envOf qual scope L' f cdv)) (leaving (envOf qual scope L' f cdv) e) (fun _ s'' => R (.error e) s'') (fun e' s'' => R (.error e') s'') s')
        { s with heap := h₁, toks := s.toks + binds.length })
    (hco : scope.isCoroutine = false) (hgen : scope.isGenerator = false) (hk : scope.kind = .function)
    (hcell : ∀ x ∈ scope.names, x.2 ≠ .cell) : codeAny (model prog w) A (.call (.ref f) args) R s := by
  have X := X₀.keeps F.keep
  obtain ⟨FG, BG, st, lv⟩ := groundT (R := R) B F N hA hf hke
  refine codeAny_call_def (fd := fnOf name qual params body scope dV kV doc pm an cdv ct) (body := body) (binds := binds) hroom (X _ _ ho) rfl (T.nolimit.keeps F.keep) (codeRec_of X hcd) rfl hbind hcell hloc (fun h₁ hns hk₁ => ?_) hco hgen hk
  exact wpAny_mono (h _ s.heap.objs.size h₁ FG ⟨hns, fun b o e => hk₁ b o (of_hideAll _ e), Nat.le_of_eq (hideAll_size _ _)⟩
    (fun p hp => ⟨hk₁ _ _ (N p hp).1, Nat.ne_of_lt (Heap.lt_size (N p hp).1), hideAll_none _ (List.mem_map_of_mem hp)⟩) BG (X₀.keeps st) (T.keeps st)) (fun fl s' hl => lv _ _ hl) fun _ _ y => y
end
end
section
theorem c_list_lex' {w : World} {news : List (Addr × Obj)} {x1 x2 x3 d x dl D C : Addr} {o1 o2 : Obj} {wc : Str} {h0 h1 h2 h3 h4 h5 h6 h7 h8 h9 h10 h11 h12 h13 h14 h15 h16 h17 h18 : Int} {t0 t1 t2 t3 t4 t5 t6 t7 t8 t9 t10 t11 t12 t13 t14 t15 t16 t17 t18 : Tok} {u4 u5 u6 u8 u9 u10 u13 u14 u18 : Tok} {j1 j2 j3 : Int} {v1 v2 v3 v4 v5 v6 v7 v8 : Tok} {nl buf : Str} {text out : List Nat}
   (a0 : ∀ p ∈ news, p.1 < dl) (a1 : dl < x) (a2 : D < d ∧ C < d ∧ x < d ∧ dl < d ∧ AllLt d news) (a3 : d < x3)
   (l1 : x3 < x2 ∧ d < x2 ∧ D < x2 ∧ C < x2 ∧ x < x2 ∧ dl < x2 ∧ AllLt x2 news) (l2 : x2 < x1 ∧ x3 < x1 ∧ d < x1 ∧ D < x1 ∧ C < x1 ∧ x < x1 ∧ dl < x1 ∧ AllLt x1 news)
   (hsz : text.length < 900) (hbuf : buf = ⟨text.toArray⟩) (hrun : runM .w text = (out, .a)) (hout : out ≠ []) (hnn : text ≠ []) (hol : out.length < 2000)
   (hws : ∀ c ∈ text, okC c) (hwc : WcOk wc)
   {p : Program} {loose : List Str} {mean : ExcName → Option Value} {mg mb : Str → Option Value} {dp un : Nat} {gd : Option (List Code)} {cn : Str} {cs : Scope} {a : Addr} {ccd : Value} {outer : List Env} {A₀ : Around} {base h₀ : Heap} {L : Addr} {m : Str → Option Value} {s : Shared} {Q E : Value → Shared → Prop}
   (B : Below A₀ base outer h₀) (F : Fr h₀ L s.heap m) (X : (hd02.heap_1 w.params).In h₀)
   (N : News h₀ L s.heap ((x1, dqObj) :: (x2, dqObj) :: (x3, instObj 587 d) :: (d, dictOf (ioD j1 j2 j3 v1 v2 v3 v4 v5 v6 nl buf 0) 3) :: (D, o1) :: (C, o2) :: (x, instObj 722 dl) :: (dl, dictOf (lexD (LexK.mk x3 x2 x1 wc h0 h1 h2 h3 h4 h5 h6 h7 h8 h9 h10 h11 h12 h13 h14 h15 h16 h17 h18 t0 t1 t2 t3 t4 t5 t6 t7 t8 t9 t10 t11 t12 t13 t14 t15 t16 t17 t18 u4 u5 u6 u8 u9 u10 u13 u14 u18) (.str " " v7) (.str "" v8)) 19) :: news))
   (T : Top p loose mean mg mb h₀) (hk : cs.kind = .function) (hd : dp + 12 < recursionLimit) (hu : un + 100 < cLine)
   (ret : ∀ g' S t n h' tk', KtsTurn (frs outer) h₀ g' → Fr g' L h' m → News g' L h' ((S, lstOf #[.str ⟨out.toArray⟩ t] n) :: news) → Q (.ref S) { s with heap := h', toks := tk' }) :
   wpAny (model Challenge.rw_op0202_02.row.prog w) (ktrTop dp un gd cn cs L a ccd [] outer) (call (.type "list") [.ref x]) Q E s := by
  obtain ⟨b1, b2, b3, b4, b5⟩ := a2
  obtain ⟨c1, c2, c3, c4, c5, c6, c7⟩ := l1
  obtain ⟨e1, e2, e3, e4, e5, e6, e7, e8⟩ := l2
  refine c_list_lex w ((x1, dqObj) :: (x2, dqObj) :: (x3, instObj 587 d) :: (x, instObj 722 dl) :: news) (LexK.mk x3 x2 x1 wc h0 h1 h2 h3 h4 h5 h6 h7 h8 h9 h10 h11 h12 h13 h14 h15 h16 h17 h18 t0 t1 t2 t3 t4 t5 t6 t7 t8 t9 t10 t11 t12 t13 t14 t15 t16 t17 t18 u4 u5 u6 u8 u9 u10 u13 u14 u18) x dl d j1 j2 j3 v1 v2 v3 v4 v5 v6 v7 v8 nl buf text out
    (by simp) (by simp) (by simp) (by simp) ?_ ?_ (Nat.ne_of_gt b4) hsz hbuf hrun hout hnn hol hws hwc _ rfl p loose mean mg mb dp un gd cn cs a ccd outer A₀ base h₀ L m s Q E B F X ?_ T hk hd hu ?_
  · intro p hp
    simp only [List.mem_cons] at hp
    rcases hp with rfl | rfl | rfl | rfl | hp
    · exact Nat.ne_of_gt e3
    · exact Nat.ne_of_gt c2
    · exact Nat.ne_of_gt a3
    · exact Nat.ne_of_lt b3
    · exact Nat.ne_of_lt (Nat.lt_trans (a0 p hp) b4)
  · intro p hp
    simp only [List.mem_cons] at hp
    rcases hp with rfl | rfl | rfl | rfl | hp
    · exact Nat.ne_of_gt e7
    · exact Nat.ne_of_gt c6
    · exact Nat.ne_of_gt (Nat.lt_trans b4 a3)
    · exact Nat.ne_of_gt a1
    · exact Nat.ne_of_lt (a0 p hp)
  · intro p hp
    refine N p ?_
    simp only [List.mem_cons] at hp ⊢
    rcases hp with hp | hp | hp | hp | hp | hp | hp <;> simp [hp]
  · intro g' S t t' t'' n h' tk' T' _ F' N'
    refine ret g' S t n h' tk' T' F' fun p hp => N' p ?_
    rcases List.mem_cons.mp hp with hp | hp
    · simp [hp]
    · simp [hp]
noncomputable def wcChk (wc : Str) : Bool := (List.range 128).all (fun c => !isLet c || decide (c ∈ wc.cps.toList)) && !decide (39 ∈ wc.cps.toList) && !decide (34 ∈ wc.cps.toList) && !decide (92 ∈ wc.cps.toList)
theorem wcOk_of {wc : Str} (h : wcChk wc = true) : WcOk wc := by
  unfold wcChk at h
  simp only [Bool.and_eq_true, List.all_eq_true, Bool.not_eq_true'] at h
  obtain ⟨⟨⟨h1, h2⟩, h3⟩, h4⟩ := h
  refine ⟨fun c hc => ?_, h2, h3, h4⟩
  have hlt : c < 128 := by
    simp only [isLet, Bool.or_eq_true, Bool.and_eq_true, decide_eq_true_eq] at hc
    omega
  have := h1 c (List.mem_range.mpr hlt)
  rw [hc] at this
  simpa using this
end
section
local macro_rules | `(tactic| walk_at "none SH 0") => `(tactic| fail)


theorem off_SH : True := by
  w_top off
  trivial
theorem io_makes (w : World) : ownMakes (hd02.heap_1 w.params) 587 = true := by kernel_rfl
theorem io_new0 (w : World) : newOk (hd02.heap_1 w.params) 587 = true := by kernel_rfl
theorem io_new1 (w : World) : ∀ S, peek (hd02.heap_1 w.params) S (checkBuiltinCall "object.__new__" ⟨[.ref 587], []⟩) = some () := fun S => by kernel_rfl
theorem io_new2 (w : World) : ∀ S, peek (hd02.heap_1 w.params) S (isType (.ref 587)) = some true := fun S => by kernel_rfl
theorem io_new3 (w : World) : ∀ S, peek (hd02.heap_1 w.params) S (Bind.madeHere "object.__new__" (.ref 587)) = some () := fun S => by kernel_rfl
local macro_rules | `(tactic| walk_at "call builtin:object.__new__") => `(tactic| (k_here; k_dflt (refine' new_ownK ?F ?X ?N (io_new0 _) (io_new1 _) (io_new2 _) (io_new3 _) ?_; (case F => k_asm); (case X => k_asm); (case N => k_asm); k_whole); intro x' d' h' F' N' l1 l2; (try k_lt l1); (try k_lt2 l2); (try k_sweep)))
local macro_rules | `(tactic| walk_at "call ref") => `(tactic| (k_here; (with_reducible show wpAny _ _ (call (Value.ref 587) _ _) _ _ _); refine wpAny_call ?_; k_dflt (refine' make_ownS ?X (io_makes _) ?hr ?he ?hp ?hi ?hf ?_; (case X => k_in); (case hr => k_is); (case he => k_is); (case hp => k_is); (case hi => k_is); (case hf => k_is); k_whole; k_enter)))
local macro_rules | `(tactic| walk_at "NewBack") => `(tactic| (k_here; k_dflt (refine' newBack_ ?F ?X ?N ?h1 ?_; (case F => k_asm); (case X => k_asm); (case N => k_asm); (case h1 => k_mem); k_whole; k_enter)))
local macro_rules | `(tactic| walk_at "call type:collections.deque") => `(tactic| (k_here; k_dflt (refine' call_dqK ?k1 ?k2 ?_; (case k1 => k_asm); (case k2 => k_asm); k_whole); intro x' h' F' N' l1; (try k_lt l1); (try k_sweep)))
local macro_rules | `(tactic| walk_at "m_enterT") => `(tactic| (refine wpAny_call ?_; k_dflt (refine' code_defT ?k1 ?k2 ?k3 ?k4 ?k5 ?kA ?kF ?kK ?k6 ?k7 ?k8 ?k9 ?kB ?_ ?c2 ?c3 ?c4 ?c5; (case kA => exact rfl); (case kF => exact rfl); (case kK => assumption); (case k1 => k_asm); (case k2 => k_asm); (case k3 => k_asm); (case k4 => k_asm); (case k5 => k_asm); (case k6 => k_is); (case k7 => k_is); (case k8 => ktr_room); (case k9 => first | exact BindsTo.of_eq rfl | exact binds_K (by k_in) rfl (by k_is) rfl rfl rfl); (case c5 => decide); (case kB => exact locs rfl); (case c2 => exact rfl); (case c3 => exact rfl); (case c4 => exact rfl); k_whole; intro g' L' h' FG' F' N' B' X' T'; (try dsimp only); (try k_lift B'); (try k_fold))))
theorem c_split (w : World) (news : List (Addr × Obj)) (buf : Str) (t0 : Tok) (text out : List Nat)
   (hsz : text.length < 900) (hbuf : buf = ⟨text.toArray⟩) (hrun : runM .w text = (out, .a)) (hout : out ≠ []) (hnn : text ≠ []) (hol : out.length < 2000) (hws : ∀ c ∈ text, okC c) :
  ∀ (p : Program) (loose : List Str) (mean : ExcName → Option Value) (mg mb : Str → Option Value) (dp un : Nat) (gd : Option (List Code)) (cn : Str) (cs : Scope) (a : Addr) (ccd : Value) (cl : List (Str × Addr)) (outer : List Env) (A₀ : Around) (base h₀ : Heap) (L : Addr) (m : Str → Option Value) (s : Shared) (Q E : Value → Shared → Prop),
    Below A₀ base outer h₀ → Fr h₀ L s.heap m → (hd02.heap_1 w.params).In h₀ → News h₀ L s.heap news → Top p loose mean mg mb h₀ → cs.kind = .function → dp + 20 < recursionLimit → un + 160 < cLine →
    (∀ h₀' S t n h' tk', KtsTurn (frs outer) h₀ h₀' → Below A₀ base outer h₀' → Fr h₀' L h' m → News h₀' L h' ((S, lstOf #[.str ⟨out.toArray⟩ t] n) :: news) → Q (.ref S) { s with heap := h', toks := tk' }) →
    wpAny (model Challenge.rw_op0202_02.row.prog w) (ktrTop dp un gd cn cs L a ccd cl outer) (call (.ref 734) [.str buf t0]) Q E s := by
  have hs : buf.length ≤ 1000 := by subst hbuf; show text.toArray.size ≤ 1000; rw [List.size_toArray]; omega
  k_fill
  intros
  rename_i hret
  walk_at "m_enterT"
  k_steps
  k_dflt (refine' c_list_lex' ?a0 ?a1 ?a2 ?a3 ?l1 ?l2 hsz hbuf hrun hout hnn hol hws ?wc ?k1 ?k2 ?k3 ?k4 ?k5 ?k6 ?k8 ?k9 ?_)
  case k4 => k_asm
  case k1 => k_asm
  case k2 => k_asm
  case k3 => k_asm
  case k5 => k_asm
  case k6 => exact rfl
  case k8 => ktr_room
  case k9 => ktr_units
  case a0 => assumption
  case a1 => assumption
  case a2 => assumption
  case a3 => assumption
  case l1 => assumption
  case l2 => assumption
  case wc => exact wcOk_of (by decide +kernel)
  k_whole
  intro g' S t n h' tk' T' F' N'
  exact ⟨g', _, _, _, T', F', N', fun h₀' T₀ B₀ F₀ N₀ => hret h₀' S t n h' tk' T₀ B₀ F₀ N₀⟩
end
section
theorem turn_back {h₀ h₀' h : Heap} {L : Addr} {m : Str → Option Value} {news : List (Addr × Obj)} (T : KtsTurn [] h₀ h₀') (F : Fr h₀' L h m) (N : News h₀' L h news) : Fr h₀ L h m ∧ News h₀ L h news := by
  have k : ∀ b o, h₀.get? b = some o → h₀'.get? b = some o := fun b o e => T.other b o e (by simp)
  refine ⟨⟨F.ns, fun b o e => F.keep b o (k b o e), by rw [← T.size]; exact F.above⟩, fun p hp => ⟨(N p hp).1, (N p hp).2.1, ?_⟩⟩
  cases e : h₀.get? p.1 with
  | none => rfl
  | some o =>
    have := k _ _ e
    rw [(N p hp).2.2] at this
    cases this
theorem c_split0 (w : World) (news : List (Addr × Obj)) (buf : Str) (t0 : Tok) (text out : List Nat)
   (hsz : text.length < 900) (hbuf : buf = ⟨text.toArray⟩) (hrun : runM .w text = (out, .a)) (hout : out ≠ []) (hnn : text ≠ []) (hol : out.length < 2000) (hws : ∀ c ∈ text, okC c)
   (p : Program) (loose : List Str) (mean : ExcName → Option Value) (mg mb : Str → Option Value) (dp un : Nat) (gd : Option (List Code)) (cn : Str) (cs : Scope) (a : Addr) (ccd : Value) (cl : List (Str × Addr)) (outer : List Env) (ho : outer = []) (A₀ : Around) (base h₀ : Heap) (L : Addr) (m : Str → Option Value) (s : Shared) (Q E : Value → Shared → Prop)
   (B : Below A₀ base outer h₀) (F : Fr h₀ L s.heap m) (X : (hd02.heap_1 w.params).In h₀) (N : News h₀ L s.heap news) (T : Top p loose mean mg mb h₀) (hk : cs.kind = .function) (hd : dp + 20 < recursionLimit) (hu : un + 160 < cLine)
   (ret : ∀ S t n h' tk', Fr h₀ L h' m → News h₀ L h' ((S, lstOf #[.str ⟨out.toArray⟩ t] n) :: news) → Q (.ref S) { s with heap := h', toks := tk' }) :
   wpAny (model Challenge.rw_op0202_02.row.prog w) (ktrTop dp un gd cn cs L a ccd cl outer) (call (.ref 734) [.str buf t0]) Q E s := by
  subst ho
  refine c_split w news buf t0 text out hsz hbuf hrun hout hnn hol hws p loose mean mg mb dp un gd cn cs a ccd cl [] A₀ base h₀ L m s Q E B F X N T hk hd hu ?_
  intro h₀' S t n h' tk' T' _ F' N'
  obtain ⟨F2, N2⟩ := turn_back T' F' N'
  exact ret S t n h' tk' F2 N2
end
section
local macro_rules | `(tactic| walk_at "none RD 0") => `(tactic| fail)
local macro_rules | `(tactic| walk_at "none RD 1") => `(tactic| fail)


local macro_rules | `(tactic| walk_at "call ref") => `(tactic| k_extra "m call")
local macro_rules | `(tactic| walk_at "call builtin:len") => `(tactic| (k_here; (with_reducible show wpAny _ _ (call (Value.builtin "len") [Value.ref _]) _ _ _); k_dflt (refine' kst_len ?k1 ?k2 ?k3 ?k4 ?_; (case k1 => k_asm); (case k2 => first | exact List.Mem.head _ | kst_mem); (case k3 => exact IntsAre.length (by assumption)); (case k4 => omega)); k_whole))
local macro_rules | `(tactic| walk_at "subscriptTail") => `(tactic| (k_here; (with_reducible show wpAny _ _ (subscriptTail _ _ (Value.ref _) (Value.int _ _)) _ _ _); k_dflt (refine' item_lstV ?k1 ?k2 ?k3 ?k4 ?k5 ?k6 ?k7 ?_; (case k1 => k_asm); (case k2 => first | exact List.Mem.head _ | kst_mem); (case k3 => assumption); (case k4 => omega); (case k5 => omega); (case k6 => omega); (case k7 => assumption)); k_whole; intro t6; (try dsimp only)))
local macro_rules | `(tactic| walk_at "subscriptTail Name Name ref int") => `(tactic| (k_here; (with_reducible show wpAny _ _ (subscriptTail _ _ (Value.ref _) (Value.int _ _)) _ _ _); k_dflt (refine' item_lstV ?k1 ?k2 ?k3 ?k4 ?k5 ?k6 ?k7 ?_; (case k1 => k_asm); (case k2 => first | exact List.Mem.head _ | kst_mem); (case k3 => assumption); (case k4 => omega); (case k5 => omega); (case k6 => omega); (case k7 => assumption)); k_whole; intro t6; (try dsimp only)))
local macro_rules | `(tactic| walk_at "subscriptTail Name Name str int") => `(tactic| (k_here; k_dflt (refine' item_strV alpha_len ?k2 ?k3 ?k4 ?k5 ?_; (case k2 => omega); (case k3 => omega); (case k4 => decide); (case k5 => assumption)); k_whole; intro t6; (try dsimp only)))
theorem off_RD : True := by
  w_top off
  trivial
theorem c_alpha (w : World) (news : List (Addr × Obj)) :
  ∀ (p : Program) (loose : List Str) (mean : ExcName → Option Value) (mg mb : Str → Option Value) (dp un : Nat) (gd : Option (List Code)) (cn : Str) (cs : Scope) (a : Addr) (ccd : Value) (cl : List (Str × Addr)) (outer : List Env) (A₀ : Around) (base h₀ : Heap) (L : Addr) (m : Str → Option Value) (s : Shared) (Q E : Value → Shared → Prop),
    Below A₀ base outer h₀ → Fr h₀ L s.heap m → (hd02.heap_1 w.params).In h₀ → News h₀ L s.heap news → Top p loose mean mg mb h₀ → cs.kind = .function → dp + 1 < recursionLimit → un + 8 < cLine →
    (∀ t h' tk', Fr h₀ L h' m → News h₀ L h' news → Q (.str "ABCDEFGHIJKLMNOPQRSTUVWXYZabcdefghijklmnopqrstuvwxyz0123456789+/" t) { s with heap := h', toks := tk' }) →
    wpAny (model Challenge.rw_op0202_02.row.prog w) (ktrTop dp un gd cn cs L a ccd cl outer) (call (.ref 834) []) Q E s := by
  k_fill
  intros
  rename_i hret
  (refine wpAny_call ?_; k_dflt (refine' code_def ?k1 ?k2 ?k3 ?k4 ?k5 ?kA ?kF ?kK ?k6 ?k7 ?k8 ?k9 ?kB ?_ ?c2 ?c3 ?c4 ?c5; (case kA => exact rfl); (case kF => exact rfl); (case kK => assumption); (case k1 => k_asm); (case k2 => k_asm); (case k3 => k_asm); (case k4 => k_asm); (case k5 => k_asm); (case k6 => k_is); (case k7 => k_is); (case k8 => ktr_room); (case k9 => first | exact BindsTo.of_eq rfl | exact binds_K (by k_in) rfl (by k_is) rfl rfl rfl); (case c5 => decide); (case kB => exact locs rfl); (case c2 => exact rfl); (case c3 => exact rfl); (case c4 => exact rfl); k_whole; intro g' L' h' FG' F' N' B' X' T'; (try dsimp only); (try k_lift B'); (try k_fold)))
  k_steps
  exact hret _ _ _ (by k_asm) (by k_asm)
theorem c_rd (w : World) (news : List (Addr × Obj)) (bl : Addr) (vs : List Value) (nb : Nat) (bits : List Int) (word : Str) (tw : Tok) (hbl : (bl, listOf vs.toArray nb) ∈ news) (hi : IntsAre vs bits) (h01 : B01 bits) (hn : bits.length ≤ 48) (hword : word = ⟨(outN bits).toArray⟩) :
  ∀ (p : Program) (loose : List Str) (mean : ExcName → Option Value) (mg mb : Str → Option Value) (dp un : Nat) (gd : Option (List Code)) (cn : Str) (cs : Scope) (a : Addr) (ccd : Value) (cl : List (Str × Addr)) (outer : List Env) (A₀ : Around) (base h₀ : Heap) (L : Addr) (m : Str → Option Value) (s : Shared) (Q E : Value → Shared → Prop),
    Below A₀ base outer h₀ → Fr h₀ L s.heap m → (hd02.heap_1 w.params).In h₀ → News h₀ L s.heap news → Top p loose mean mg mb h₀ → cs.kind = .function → dp + 2 < recursionLimit → un + 16 < cLine →
    (∀ T t1 t2 h' tk', (∀ p ∈ news, p.1 < T) → Fr h₀ L h' m → News h₀ L h' ((T, { cls := .type "tuple", data := .seq #[.int ((numF bits).fdiv 3) t1, .str ⟨(tailN bits).toArray⟩ t2] }) :: news) → Q (.ref T) { s with heap := h', toks := tk' }) →
    wpAny (model Challenge.rw_op0202_02.row.prog w) (ktrTop dp un gd cn cs L a ccd cl outer) (call (.ref 846) [.str word tw, .ref bl]) Q E s := by
  k_fill
  intros
  rename_i hret
  rename News _ _ _ _ => N0
  have N1 := news_dup N0 hbl
  clear N0 hbl
  have hwl : word.length ≤ 1000 := by
    subst hword
    have := out_len bits
    show (outN bits).toArray.size ≤ _
    rw [List.size_toArray]
    omega
  k_with_none
  k_with "m call" =>
    first
    | ((with_reducible show wpAny _ _ (call (Value.ref 834) _) _ _ _); k_dflt (refine' c_alpha w _ _ _ _ _ _ _ _ _ _ _ _ _ _ _ _ _ _ _ _ _ _ _ ?k1 ?k2 ?k3 ?k4 ?k5 ?k6 ?k8 ?k9 ?_; (case k1 => k_asm); (case k2 => k_asm); (case k3 => k_asm); (case k4 => k_asm); (case k5 => k_asm); (case k6 => exact rfl); (case k8 => ktr_room); (case k9 => ktr_units); k_whole); intro t9 h9 tk9 F9 N9; (try dsimp only); (try k_fold))
    | ((with_reducible show wpAny _ _ (call (Value.ref 827) _) _ _ _); k_dflt (refine' c_sub w _ _ _ _ _ _ _ _ _ _ _ _ _ _ _ _ _ _ _ _ _ _ _ _ _ _ _ ?k1 ?k2 ?k3 ?k4 ?k5 ?k6 ?k8 ?k9 ?_; (case k1 => k_asm); (case k2 => k_asm); (case k3 => k_asm); (case k4 => k_asm); (case k5 => k_asm); (case k6 => exact rfl); (case k8 => ktr_room); (case k9 => ktr_units); k_whole); intro t9 h9 tk9 F9 N9; (try dsimp only); (try k_fold))
    | ((with_reducible show wpAny _ _ (call (Value.ref 792) _) _ _ _); k_dflt (refine' c_lshift w _ _ _ _ _ (by decide) (by decide) (by assumption) _ _ _ _ _ _ _ _ _ _ _ _ _ _ _ _ _ _ _ _ _ _ ?k1 ?k2 ?k3 ?k4 ?k5 ?k6 ?k8 ?k9 ?_; (case k1 => k_asm); (case k2 => k_asm); (case k3 => k_asm); (case k4 => k_asm); (case k5 => k_asm); (case k6 => exact rfl); (case k8 => ktr_room); (case k9 => ktr_units); k_whole); intro t9 h9 tk9 F9 N9; (try dsimp only); (try k_fold))
    | ((with_reducible show wpAny _ _ (call (Value.ref 813) _) _ _ _); k_dflt (refine' c_or_ w _ _ _ _ _ _ _ _ _ _ _ _ _ _ _ _ _ _ _ _ _ _ _ _ _ _ _ ?k1 ?k2 ?k3 ?k4 ?k5 ?k6 ?k8 ?k9 ?_; (case k1 => k_asm); (case k2 => k_asm); (case k3 => k_asm); (case k4 => k_asm); (case k5 => k_asm); (case k6 => exact rfl); (case k8 => ktr_room); (case k9 => ktr_units); k_whole); intro t9 h9 tk9 F9 N9; (try dsimp only); (try k_fold))
  (refine wpAny_call ?_; k_dflt (refine' code_def ?k1 ?k2 ?k3 ?k4 ?k5 ?kA ?kF ?kK ?k6 ?k7 ?k8 ?k9 ?kB ?_ ?c2 ?c3 ?c4 ?c5; (case kA => exact rfl); (case kF => exact rfl); (case kK => assumption); (case k1 => k_asm); (case k2 => k_asm); (case k3 => k_asm); (case k4 => k_asm); (case k5 => k_asm); (case k6 => k_is); (case k7 => k_is); (case k8 => ktr_room); (case k9 => first | exact BindsTo.of_eq rfl | exact binds_K (by k_in) rfl (by k_is) rfl rfl rfl); (case c5 => decide); (case kB => exact locs rfl); (case c2 => exact rfl); (case c3 => exact rfl); (case c4 => exact rfl); k_whole; intro g' L' h' FG' F' N' B' X' T'; (try dsimp only); (try k_lift B'); (try k_fold)))
  repeat' ((fail_if_success (with_reducible show wpAny _ _ (pyIter _) _ _ _)); first | (k_unfold; (try dsimp only)) | (k_end; wrow_close) | walk1 | (dsimp only; walk1) | (leave1; walk_say "STEP leave1"; try dsimp only) | fail "no step")
  k_state (fun pre third place within => rdP bits pre.length third place within) "third" "place" "within"
  · have hlt : kPre.length < bits.length := by omega
    generalize hb : bits.getD kN.toNat 0 = b
    have hb' : bits.getD kPre.length 0 = b := by rw [← hb]; congr 1; omega
    have hb01 : b = 0 ∨ b = 1 := by rw [← hb]; exact getD01 h01 _
    obtain ⟨hq1, hq2, hq3⟩ := id kInv
    have hr3 := remN_lt 0 (by decide) (bits.take kPre.length)
    generalize hr : remN 0 (bits.take kPre.length) = r at hq3 hr3
    have hr' : r = 0 ∨ r = 1 ∨ r = 2 := by omega
    have hsm := rd_small h01 hn kInv
    have hj62 : kPre.length < 62 := by omega
    have hal := alpha_item kEq (show kPre.length < 64 by omega)
    rcases hb01 with rfl | rfl <;> rcases hr' with rfl | rfl | rfl
    · have hq4 := hq3.trans (show _ = true by decide)
      subst hq4
      obtain ⟨f1, f2⟩ := rd_kept_f hword hlt hb' (.inl rfl) hr rfl hq2
      k_with "state" => exact rd_state hlt kInv hb' hr rfl (by rw [if_pos (show kept 0 0 = true by decide)]; omega) rfl
      k_steps
    · have hq4 := hq3.trans (show _ = false by decide)
      subst hq4
      obtain ⟨f1, f2⟩ := rd_gone_f hword hlt hb' (.inl rfl) hj62 hr rfl hq2
      k_with "state" => exact rd_state hlt kInv hb' hr rfl (by rw [if_neg (by decide)]) rfl
      k_steps
    · have hq4 := hq3.trans (show _ = true by decide)
      subst hq4
      obtain ⟨f1, f2⟩ := rd_gone_f hword hlt hb' (.inl rfl) hj62 hr rfl hq2
      k_with "state" => exact rd_state hlt kInv hb' hr rfl (by rw [if_neg (by decide)]) rfl
      k_steps
    · have hq4 := hq3.trans (show _ = true by decide)
      subst hq4
      obtain ⟨f1, f2⟩ := rd_gone_f hword hlt hb' (.inr rfl) hj62 hr rfl hq2
      k_with "state" => exact rd_state hlt kInv hb' hr rfl (by rw [if_neg (by decide)]) rfl
      k_steps
    · have hq4 := hq3.trans (show _ = false by decide)
      subst hq4
      obtain ⟨f1, f2⟩ := rd_gone_f hword hlt hb' (.inr rfl) hj62 hr rfl hq2
      k_with "state" => exact rd_state hlt kInv hb' hr rfl (by rw [if_neg (by decide)]) rfl
      k_steps
    · have hq4 := hq3.trans (show _ = true by decide)
      subst hq4
      obtain ⟨f1, f2⟩ := rd_kept_f hword hlt hb' (.inr rfl) hr rfl hq2
      k_with "state" => exact rd_state hlt kInv hb' hr rfl (by rw [if_pos (show kept 2 1 = true by decide)]; omega) rfl
      k_steps
  · have hpl : (bits.take (rangeKs 0 ((bits.length : Int) - 0).toNat).length) = bits := by
      rw [rangeKs_length]
      exact List.take_of_length_le (by omega)
    obtain ⟨hq1, hq2, hq3⟩ := id kInv
    rw [hpl] at hq1 hq2 hq3
    have hwe := word_end hq2
    rw [← hword] at hwe
    rw [← (third_is h01).1, ← hq1, ← hwe] at hret
    k_steps
    rename _ ∧ AllLt _ _ => kA9
    rename News _ _ _ _ => kN9
    rename Fr _ _ _ _ => kF9
    exact hret _ _ _ _ _ (kst_ltOf kA9.2) kF9 (fun p hp => kN9 p (by
      rcases List.mem_cons.mp hp with rfl | hp
      · exact .head _
      · exact .tail _ (.tail _ hp)))
end
end
section
local macro_rules | `(tactic| walk_at "call ref") => `(tactic| k_extra "m call")
local macro_rules | `(tactic| walk_at "eval ListComp") => `(tactic| (k_here; (with_reducible show wpAny _ _ (eval (PySem.Expr.ListComp (PySem.Expr.Call (PySem.Expr.Name (Str.ofString "mod") _) _ _ _) _ _ _) _) _ _ _); k_dflt (refine LCg.ListComp_U (F₀ := by k_asm) (by with_unfolding_all rfl) (by decide) (by rfl) (by decide) (by rfl) ?_)))
local macro_rules | `(tactic| walk_at "CompSrc") => `(tactic| (k_here; k_dflt (refine' srcI_mk (fun x => Int.fmod x 256) rfl ?k1 ?k2 ?k3 ?k4 ?k5 ?turn ?fin; (case k1 => k_asm); (case k2 => k_asm); (case k3 => first | exact List.Mem.head _ | kst_mem); (case k4 => assumption); (case k5 => omega))))
local macro_rules | `(tactic| walk_at "exec Assign cons ListComp") => `(tactic| (k_here; (with_reducible show wpAny _ _ (exec (Stmt.Assign _ (PySem.Expr.ListComp _ [_, _] _ _) _) _) _ _ _); k_dflt (refine Assign_two (_F₀ := by k_asm) (by rfl) (by decide) (by with_unfolding_all rfl) (by with_unfolding_all rfl) (by decide) (by rfl) (by decide) (by rfl) (by rfl) (by rfl) (by rfl) ?_)))
local macro_rules | `(tactic| walk_at "binaryOp Add str str") => `(tactic| (k_here; refine SBL.add ?_ (line_fits (by omega)); intro t7 k7 _; (try dsimp only)))
local macro_rules | `(tactic| walk_at "call builtin:str.join") => `(tactic| (k_here; (with_reducible show wpAny _ _ (call (Value.builtin "str.join") [_, Value.ref _]) _ _ _); k_dflt (refine' join_lone ?k1 ?k2 ?k3 ?_; (case k1 => k_asm); (case k2 => exact List.Mem.head _); (case k3 => exact out_fits (by omega)); k_whole)))
local macro_rules | `(tactic| walk_at "compareOp Eq str str") => `(tactic| first
  | (refine eq_by false (by decide +kernel) ?_; (try dsimp only))
  | (refine eq_by true (by decide +kernel) ?_; (try dsimp only)))
local macro_rules | `(tactic| walk_at "eval Name") => `(tactic| (k_here; k_dflt (first
  | (refine' nameX_L ?F ?v ?_ ?a ?b; (case F => k_asm); (case a => rfl); (case b => rfl); (case v => rfl); k_whole)
  | (refine' nameX_C ?N ?c ?m ?d ?_ ?a ?b; (case a => rfl); (case b => rfl); (case N => k_asm); (case c => rfl); (case m => k_mem); (case d => k_asm); k_whole)
  | (refine' nameX_K ?F ?X ?T ?e ?_ ?a ?b; (case F => k_asm); (case X => k_asm); (case T => k_asm); (case a => rfl); (case b => rfl); (case e => k_is); k_whole)
  | (refine' nameX_B ?F ?X ?T ?e ?v ?n ?_ ?a ?b; (case F => k_asm); (case X => k_asm); (case T => k_asm); (case a => rfl); (case b => rfl); (case e => k_is); (case v => boot_fast); (case n => decide); k_whole))))
local macro_rules | `(tactic| walk_at "exec Assign cons ListComp") => `(tactic| (k_here; (with_reducible show wpAny _ _ (exec (Stmt.Assign [PySem.Expr.Name (Str.ofString "left") _] _ _) _) _ _ _); k_dflt (refine LCt.Assign_ListComp_T (F₀ := by k_asm) (by rfl) (by with_unfolding_all rfl) (by with_unfolding_all rfl) (by decide) (by rfl) (by decide) (by rfl) (by rfl) (by rfl) ?_)))
local macro_rules | `(tactic| walk_at "exec Assign cons ListComp") => `(tactic| (k_here; (with_reducible show wpAny _ _ (exec (Stmt.Assign [PySem.Expr.Name (Str.ofString "signs") _] _ _) _) _ _ _); k_dflt (refine Assign_ListComp_B (_F₀ := by k_asm) (by rfl) (by with_unfolding_all rfl) (by with_unfolding_all rfl) (by decide) (by rfl) (by decide) (by rfl) (by rfl) (by rfl) ?_)))
local macro_rules | `(tactic| walk_at "exec Assign cons ListComp") => `(tactic| (k_here; (with_reducible show wpAny _ _ (exec (Stmt.Assign [PySem.Expr.Name (Str.ofString "places") _] _ _) _) _ _ _); k_dflt (refine LCt.Assign_ListComp_T (F₀ := by k_asm) (by rfl) (by with_unfolding_all rfl) (by with_unfolding_all rfl) (by decide) (by rfl) (by decide) (by rfl) (by rfl) (by rfl) ?_)))
local macro_rules | `(tactic| walk_at "eval Name") => `(tactic| (k_here; (with_reducible show wpAny _ _ (eval (Expr.Name _ _) (compEnvC _ _ _ _)) _ _ _); k_dflt (first
  | refine LCgL.ld_own (by k_asm) (by k_mem) (by assumption) (by assumption) ?_
  | refine LCgL.ld_global (by k_asm) (by k_asm) (by k_asm) (by k_is) ?_
  | refine LCgL.ld_built (by k_asm) (by k_asm) (by k_asm) (by k_is) (by boot_by_name) (by decide) ?_
  | (refine' lcf_cell ?N ?c ?m ?d ?_ ?a ?b; (case a => rfl); (case b => rfl); (case N => k_asm); (case c => rfl); (case m => k_mem); (case d => k_asm); k_whole))))
local macro_rules | `(tactic| walk_at "CompRestT") => `(tactic| (with_unfolding_all first
  | (refine LCt.CompRestT.succ ?_; intro v' I' oI' C' oC' D' m' h' tk' E' hv' hC' hx' F' N' off' ne'; (obtain ⟨t9', hv9'⟩ := hv'; subst hv9'))
  | refine LCt.CompRestT.zero ?_))
local macro_rules | `(tactic| walk_at "CompEnd") => `(tactic| ((rename LCg.Off3 _ _ _ _ => o9); refine LCg.CompEnd.intro (by assumption) (by assumption) _ (by first | exact fun p hp => hp | exact fun p hp => .tail _ hp | exact fun p hp => .tail _ (.tail _ hp) | exact fun p hp => .tail _ (.tail _ (.tail _ hp)) | exact fun p hp => .tail _ (.tail _ (.tail _ (.tail _ hp)))) o9 (by first | exact True.intro | assumption) ?_; (try dsimp only)))
theorem off_LW : True := by
  w_top off
  trivial
noncomputable def MidL (h₀ : Heap) (L : Addr) (m : Str → Option Value) (news : List (Addr × Obj)) (s : Shared) (r : Nat) (f : Flow) (s' : Shared) : Prop :=
  f = .next ∧ ∃ lf t n h' tk, s' = { s with heap := h', toks := tk } ∧ Fr h₀ L h' (fun y => if y = "left" then some (.ref lf) else m y) ∧ News h₀ L h' ((lf, listOf #[.int (r : Int) t] n) :: news)
theorem midL_bind {M : Model} {A : Around} {E : Value → Shared → Prop} {s : Shared} {t : Sem Flow} {Q : Flow → Shared → Prop} {h₀ : Heap} {L : Addr} {m : Str → Option Value} {news : List (Addr × Obj)} (r : Nat) (F : Fr h₀ L s.heap m) (N : News h₀ L s.heap news)
    (h1 : wpAny M A t (MidL h₀ L m news s r) E s) (h2 : ∀ f s', MidL h₀ L m news s r f s' → Q f s') : wpAny M A t Q E s := wpAny_mono h1 h2 fun _ _ e => e
noncomputable def MidO (h₀ : Heap) (L : Addr) (m : Str → Option Value) (news : List (Addr × Obj)) (s : Shared) (f : Flow) (s' : Shared) : Prop :=
  f = .next ∧ ∃ ol vs n octs h' tk, s' = { s with heap := h', toks := tk } ∧ Fr h₀ L h' (fun y => if y = "octets" then some (.ref ol) else m y) ∧ News h₀ L h' ((ol, listOf vs.toArray n) :: news) ∧ (∀ p ∈ news, p.1 ≠ ol) ∧ IntsAre vs octs ∧ (∀ x ∈ octs, 0 ≤ x ∧ x < 256) ∧ 1 ≤ octs.length ∧ octs.length ≤ 6
theorem mid_bind {M : Model} {A : Around} {E : Value → Shared → Prop} {s : Shared} {t : Sem Flow} {Q : Flow → Shared → Prop} {h₀ : Heap} {L : Addr} {m : Str → Option Value} {news : List (Addr × Obj)} (F : Fr h₀ L s.heap m) (N : News h₀ L s.heap news)
    (h1 : wpAny M A t (MidO h₀ L m news s) E s) (h2 : ∀ f s', MidO h₀ L m news s f s' → Q f s') : wpAny M A t Q E s := wpAny_mono h1 h2 fun _ _ e => e
theorem mem_13 {α : Type} {a b c p : α} (h : p ∈ [a, c]) : p ∈ [a, b, c] := by
  simp only [List.mem_cons, List.not_mem_nil, or_false] at h ⊢
  rcases h with h | h <;> simp [h]
theorem mem_14 {α : Type} {a b c d p : α} (h : p ∈ [a, d]) : p ∈ [a, b, c, d] := by
  simp only [List.mem_cons, List.not_mem_nil, or_false] at h ⊢
  rcases h with h | h <;> simp [h]
theorem mods_in (ns : List Int) : ∀ x ∈ (ns.take 6).map (fun x => Int.fmod x 256), 0 ≤ x ∧ x < 256 := by
  intro x hx
  obtain ⟨y, _, rfl⟩ := List.mem_map.mp hx
  exact ⟨Int.fmod_nonneg_of_pos _ (by decide), Int.fmod_lt_of_pos _ (by decide)⟩
theorem mods_len {ns : List Int} (h : ¬ ns = []) : 1 ≤ ((ns.take 6).map (fun x => Int.fmod x 256)).length := by
  rw [List.length_map, List.length_take]
  have := List.length_pos_iff.mpr h
  omega
theorem mods_len6 (ns : List Int) : ((ns.take 6).map (fun x => Int.fmod x 256)).length ≤ 6 := by
  rw [List.length_map, List.length_take]
  omega
theorem mem_in3 {α : Type} {a b : α} {r : List α} : b ∈ a :: b :: r := .tail _ (.head _)
theorem apart_SC {h₀ h : Heap} {L : Addr} {a b c d e : Addr × Obj} {r : List (Addr × Obj)} {its : Array Value} {n : Nat} {v : Option Value} (N : News h₀ L h (a :: b :: c :: d :: e :: r)) (hb : b.2.data = .seq its n) (he : e.2.data = .cell v) : @Ne Nat b.1 e.1 := fun q => by
  have z1 := (N b (.tail _ (.head _))).1
  have z2 := (N e (.tail _ (.tail _ (.tail _ (.tail _ (.head _)))))).1
  rw [show b.1 = e.1 from q, z2] at z1
  have := Option.some.inj z1
  rw [← this, he] at hb
  cases hb
theorem ne_fst {a b : Addr} {o : Obj} {q : Addr → Addr → Prop} (h : q (a, o).1 b) : q a b := h
theorem lt_nat {a b : Addr} {o : Obj} (h : (a, o).1 < b) : @LT.lt Nat _ a b := h
theorem ne_nat {a b : Addr} {o : Obj} (h : (a, o).1 ≠ b) : @Ne Nat a b := h
theorem mem_left {α : Type} {a c d e p : α} {r : List α} (h : p ∈ a :: r) : p ∈ a :: c :: r := by
  rcases List.mem_cons.mp h with rfl | h
  · exact .head _
  · exact .tail _ (.tail _ h)
local macro_rules | `(tactic| k_qdec) => `(tactic| decide +kernel)
theorem lawT : PySem.Challenge.rw_op0202_02.Holds := hd02 (by
  k_go0
  all_goals (try k_fold)
  rename Below _ _ _ _ => K0
  dsimp only [PyProof.Rows.Top.heap] at K0
  k_with_none
  k_with "m call" =>
    first
    | ((with_reducible show wpAny _ _ (call (Value.ref 799) _) _ _ _); k_dflt (refine' c_mod _ _ _ _ _ _ (by decide) _ _ _ _ _ _ _ _ _ _ _ _ _ _ _ _ _ _ _ _ _ _ ?k1 ?k2 ?k3 ?k4 ?k5 ?k6 ?k8 ?k9 ?_; (case k1 => k_asm); (case k2 => k_asm); (case k3 => k_asm); (case k4 => k_asm); (case k5 => k_asm); (case k6 => exact rfl); (case k8 => ktr_room); (case k9 => ktr_units); k_whole); intro t9 h9 tk9 F9 N9; (try dsimp only); (try k_fold))
    | ((with_reducible show wpAny _ _ (call (Value.ref 820) _) _ _ _); k_dflt (refine' c_rshift _ _ _ _ _ _ (by omega) _ _ _ _ _ _ _ _ _ _ _ _ _ _ _ _ _ _ _ _ _ _ ?k1 ?k2 ?k3 ?k4 ?k5 ?k6 ?k8 ?k9 ?_; (case k1 => k_asm); (case k2 => k_asm); (case k3 => k_asm); (case k4 => k_asm); (case k5 => k_asm); (case k6 => exact rfl); (case k8 => ktr_room); (case k9 => ktr_units); k_whole); intro t9 h9 tk9 F9 N9; (try dsimp only); (try k_fold))
    | ((with_reducible show wpAny _ _ (call (Value.ref 778) _) _ _ _); k_dflt (refine' c_and_ _ _ _ _ _ _ _ _ _ _ _ _ _ _ _ _ _ _ _ _ _ _ _ _ _ _ _ _ ?k1 ?k2 ?k3 ?k4 ?k5 ?k6 ?k8 ?k9 ?_; (case k1 => k_asm); (case k2 => k_asm); (case k3 => k_asm); (case k4 => k_asm); (case k5 => k_asm); (case k6 => exact rfl); (case k8 => ktr_room); (case k9 => ktr_units); k_whole); intro t9 h9 tk9 F9 N9; (try dsimp only); (try k_fold))
    | ((with_reducible show wpAny _ _ (call (Value.ref 792) _) _ _ _); k_dflt (refine' c_lshift _ _ _ _ _ _ (by decide) (by decide) (by assumption) _ _ _ _ _ _ _ _ _ _ _ _ _ _ _ _ _ _ _ _ _ _ ?k1 ?k2 ?k3 ?k4 ?k5 ?k6 ?k8 ?k9 ?_; (case k1 => k_asm); (case k2 => k_asm); (case k3 => k_asm); (case k4 => k_asm); (case k5 => k_asm); (case k6 => exact rfl); (case k8 => ktr_room); (case k9 => ktr_units); k_whole); intro t9 h9 tk9 F9 N9; (try dsimp only); (try k_fold))
    | ((with_reducible show wpAny _ _ (call (Value.ref 839) _) _ _ _); k_dflt (refine' c_line _ _ _ _ _ _ (List.Mem.head _) (by assumption) (by assumption) (by omega) (by omega) _ _ _ _ _ _ _ _ _ _ _ _ _ _ _ _ _ _ _ _ _ _ ?k1 ?k2 ?k3 ?k4 ?k5 ?k6 ?k8 ?k9 ?_; (case k1 => k_asm); (case k2 => k_asm); (case k3 => k_asm); (case k4 => k_asm); (case k5 => k_asm); (case k6 => exact rfl); (case k8 => ktr_room); (case k9 => ktr_units); k_whole); intro t9 h9 tk9 F9 N9; (try dsimp only); (try k_fold))
    | ((with_reducible show wpAny _ _ (call (Value.ref 846) _) _ _ _); k_dflt (refine' c_rd _ _ _ _ _ _ _ _ (mem_in3) (by assumption) (by assumption) (by omega) rfl _ _ _ _ _ _ _ _ _ _ _ _ _ _ _ _ _ _ _ _ _ _ ?k1 ?k2 ?k3 ?k4 ?k5 ?k6 ?k8 ?k9 ?_; (case k1 => k_asm); (case k2 => k_asm); (case k3 => k_asm); (case k4 => k_asm); (case k5 => k_asm); (case k6 => exact rfl); (case k8 => ktr_room); (case k9 => ktr_units); k_whole); intro T9 s9 t9 h9 tk9 l9 F9 N9; (try dsimp only); (try k_fold))
    | ((with_reducible show wpAny _ _ (call (Value.ref 785) _) _ _ _); k_dflt (refine' c_floordiv _ _ _ _ _ _ _ _ _ _ _ _ _ _ _ _ _ _ _ _ _ _ _ _ _ _ _ ?k1 ?k2 ?k3 ?k4 ?k5 ?k6 ?k8 ?k9 ?_; (case k1 => k_asm); (case k2 => k_asm); (case k3 => k_asm); (case k4 => k_asm); (case k5 => k_asm); (case k6 => exact rfl); (case k8 => ktr_room); (case k9 => ktr_units); k_whole); intro t9 h9 tk9 F9 N9; (try dsimp only); (try k_fold))
    | ((with_reducible show wpAny _ _ (call (Value.ref 853) _) _ _ _); k_dflt (refine' c_ways _ _ _ _ _ _ (List.Mem.tail _ (List.Mem.tail _ (List.Mem.tail _ (List.Mem.head _)))) (by assumption) (by assumption) (by omega) _ _ _ _ _ _ _ _ _ _ _ _ _ _ _ _ _ _ _ _ _ _ ?k1 ?k2 ?k3 ?k4 ?k5 ?k6 ?k8 ?k9 ?_; (case k1 => k_asm); (case k2 => k_asm); (case k3 => k_asm); (case k4 => k_asm); (case k5 => k_asm); (case k6 => exact rfl); (case k8 => ktr_room); (case k9 => ktr_units); k_whole); intro t9 h9 tk9 F9 N9; (try dsimp only); (try k_fold))
    | ((with_reducible show wpAny _ _ (call (Value.ref 764) [_]) _ _ _); k_dflt (refine' c_b64p _ _ _ _ (by rw [Array.length_toList, byteArr_size]; omega) _ _ _ _ _ _ _ _ _ _ _ _ _ _ _ _ _ _ _ _ _ _ ?k1 ?k2 ?k3 ?k4 ?k5 ?k6 ?k8 ?k9 ?_; (case k1 => k_asm); (case k2 => k_asm); (case k3 => k_asm); (case k4 => k_asm); (case k5 => k_asm); (case k6 => exact rfl); (case k8 => ktr_room); (case k9 => ktr_units); k_whole); intro t9 h9 tk9 F9 N9; (try dsimp only); (try k_fold))
    | ((with_reducible show wpAny _ _ (call (Value.ref 771) _) _ _ _); k_dflt (refine' c_add _ _ _ _ _ _ _ _ _ _ _ _ _ _ _ _ _ _ _ _ _ _ _ _ _ _ _ _ ?k1 ?k2 ?k3 ?k4 ?k5 ?k6 ?k8 ?k9 ?_; (case k1 => k_asm); (case k2 => k_asm); (case k3 => k_asm); (case k4 => k_asm); (case k5 => k_asm); (case k6 => exact rfl); (case k8 => ktr_room); (case k9 => ktr_units); k_whole); intro t9 h9 tk9 F9 N9; (try dsimp only); (try k_fold))
    | ((with_reducible show wpAny _ _ (call (Value.ref 834) _) _ _ _); k_dflt (refine' c_alpha _ _ _ _ _ _ _ _ _ _ _ _ _ _ _ _ _ _ _ _ _ _ _ _ ?k1 ?k2 ?k3 ?k4 ?k5 ?k6 ?k8 ?k9 ?_; (case k1 => k_asm); (case k2 => k_asm); (case k3 => k_asm); (case k4 => k_asm); (case k5 => k_asm); (case k6 => exact rfl); (case k8 => ktr_room); (case k9 => ktr_units); k_whole); intro t9 h9 tk9 F9 N9; (try dsimp only); (try k_fold))
  repeat' ((fail_if_success (with_reducible show wpAny _ _ (exec _ _) _ _ _)); first | (k_unfold; (try dsimp only)) | (k_end; wrow_close) | walk1 | (dsimp only; walk1) | (leave1; walk_say "STEP leave1"; try dsimp only) | fail "no step")
  rename Fr _ _ _ _ => F0
  rename News _ _ _ _ => N0
  refine mid_bind F0 N0 ?first ?rest
  case first =>
    k_steps
    all_goals first | exact ("" : Str) | exact (0 : Nat) | exact Value.none | skip
    · rename News _ _ _ _ => N5
      rename Fr _ _ _ _ => F5
      rename _ < _ ∧ _ => l5
      refine ⟨rfl, _, _, _, [77, 200], _, _, rfl, F5, fun p hp => N5 p (mem_13 hp), fun p hp => ?_, .cons _ _ (.cons _ _ .nil), by decide, by decide, by decide⟩
      rw [List.mem_singleton.mp hp]
      exact Nat.ne_of_lt l5.2
    · exact ⟨rfl, _, rfl⟩
    · rename News _ _ _ _ => N5
      rename Fr _ _ _ _ => F5
      rename IntsAre _ _ => I5
      rename decide _ = false => d5
      rename _ ≠ _ ∧ _ => o5
      have hne := of_decide_eq_false d5
      refine ⟨rfl, _, _, _, _, _, _, rfl, F5, fun p hp => N5 p (mem_14 hp), fun p hp => ?_, I5, mods_in _, mods_len hne, mods_len6 _⟩
      rw [List.mem_singleton.mp hp]
      exact o5.2.2
  case rest =>
    rintro f s' ⟨rfl, ol, vs, n, octs, h', tk, rfl, F1, N1, l1, hi, hb, hl1, hl6⟩
    (try dsimp only)
    (try k_fold)
    clear N0 F0
    k_steps
    all_goals first | exact ("" : Str) | exact (0 : Nat) | exact Value.none | skip
    refine ⟨bitF, ol, vs, octs, n, _, rfl, rfl, by k_asm, by k_asm, .head _, hi, by omega, ?rng, ?elt, ?fin⟩
    case rng =>
      intro I oI C oC m₃ D ys h tk E' hC F N
      k_steps
      all_goals first | exact ("" : Str) | exact (0 : Nat) | exact Value.none | assumption | k_asm
    case elt =>
      intro C D I1 I oI nn t hn off k tk o1 oC m₃ ys h tk E' hk0 hk8 hC hx0 hx1 F N
      k_steps
      all_goals first | exact ("" : Str) | exact (0 : Nat) | exact Value.none | assumption | k_asm
    case fin =>
      intro h0 ys hIA D h tk F N off
      have h01 : B01 (flat8 bitF octs) := bits01 octs
      have hbl : (flat8 bitF octs).length = 8 * octs.length := flat8_len bitF octs
      k_whole
      repeat' ((fail_if_success (with_reducible show wpAny _ _ (pyIter _) _ _ _)); first | (k_unfold; (try dsimp only)) | (k_end; wrow_close) | walk1 | (dsimp only; walk1) | (leave1; walk_say "STEP leave1"; try dsimp only) | fail "no step")
      all_goals first | exact ("" : Str) | exact (0 : Nat) | exact Value.none | skip
      have hns : numF (flat8 bitF octs) % 3 = octs.sum % 3 := num_sum hb
      generalize hbe : flat8 bitF octs = bits at *
      k_state (fun pre number => number = numF pre) "number"
      · have hsm := num_small kEq h01 (by omega)
        rw [← kInv] at hsm
        k_with "state" => first | exact rfl | (rw [numF_snoc, ← kInv] <;> exact rfl)
        k_steps
        all_goals first | exact ("" : Str) | exact (0 : Nat) | exact Value.none | skip
      · subst kInv
        repeat' ((fail_if_success (with_reducible show wpAny _ _ (call (Value.ref 734) _) _ _ _)); first | (k_unfold; (try dsimp only)) | (k_end; wrow_close) | walk1 | (dsimp only; walk1) | (leave1; walk_say "STEP leave1"; try dsimp only) | fail "no step")
        all_goals first | exact ("" : Str) | exact (0 : Nat) | exact Value.none | skip
        k_dflt (refine' c_split0 _ _ _ _ (textN bits) (outN bits) ?s1 (text_str bits) (run_text h01 (by omega)) (out_nn bits) (text_nn bits) ?s2 (text_ok h01 (by omega)) _ _ _ _ _ _ _ _ _ _ _ _ _ _ rfl _ _ _ _ _ _ _ _ ?k1 ?k2 ?k3 ?k4 ?k5 ?k6 ?k8 ?k9 ?_)
        case s1 => (have := text_len bits); omega
        case s2 => (have := out_len bits); omega
        case k1 => k_asm
        case k2 => k_asm
        case k3 => k_asm
        case k4 => k_asm
        case k5 => k_asm
        case k6 => exact rfl
        case k8 => ktr_room
        case k9 => ktr_units
        k_whole
        intro S tS nS hS tkS FS NS
        (try dsimp only)
        repeat' ((fail_if_success (with_reducible show wpAny _ _ (storeName _ (Str.ofString "told") _) _ _ _)); first | (k_unfold; (try dsimp only)) | (k_end; wrow_close) | walk1 | (dsimp only; walk1) | (leave1; walk_say "STEP leave1"; try dsimp only) | fail "no step")
        all_goals first | exact ("" : Str) | exact (0 : Nat) | exact Value.none | skip
        have n1 := lt_nat (l9 _ (.tail _ (.tail _ (.tail _ (.head _)))))
        have n2 := apart_SC N9 rfl (by assumption)
        simp only [LCg.Off1, and_true] at off
        have n3 := ne_nat (l1 _ (.head _))
        dsimp only at n2
        repeat' ((fail_if_success (with_reducible show wpAny _ _ (exec (Stmt.Assign [PySem.Expr.Name (Str.ofString "left") _] _ _) _) _ _ _)); first | (k_unfold; (try dsimp only)) | (k_end; wrow_close) | walk1 | (dsimp only; walk1) | (leave1; walk_say "STEP leave1"; try dsimp only) | fail "no step")
        all_goals first | exact ("" : Str) | exact (0 : Nat) | exact Value.none | skip
        rename Fr _ _ _ _ => F7
        rename News _ _ _ _ => N7
        have hr3 := remN_lt 0 (by decide) bits
        generalize hrr : remN 0 bits = r at hr3
        have hr' : r = 0 ∨ r = 1 ∨ r = 2 := by omega
        refine midL_bind r F7 N7 ?left ?go
        case left =>
          have ht := tail_is bits
          rw [hrr] at ht
          rcases hr' with rfl | rfl | rfl
          · rw [show tailN bits = [57, 57, 57, 92, 34, 92] from ht] at N7 ⊢
            k_steps
            all_goals first | exact ("" : Str) | exact (0 : Nat) | exact Value.none | skip
            rename News _ _ _ _ => N6
            rename Fr _ _ _ _ => F6
            rw [(by assumption : IntsAre ys bits).length] at N6
            exact ⟨rfl, _, _, 1, _, _, rfl, F6, N6⟩
          · rw [show tailN bits = [57, 57, 57, 39, 34, 92] from ht] at N7 ⊢
            k_steps
            all_goals first | exact ("" : Str) | exact (0 : Nat) | exact Value.none | skip
            rename News _ _ _ _ => N6
            rename Fr _ _ _ _ => F6
            rw [(by assumption : IntsAre ys bits).length] at N6
            exact ⟨rfl, _, _, 1, _, _, rfl, F6, N6⟩
          · rw [show tailN bits = [57, 57, 57, 92, 39, 39, 39] from ht] at N7 ⊢
            k_steps
            all_goals first | exact ("" : Str) | exact (0 : Nat) | exact Value.none | skip
            rename News _ _ _ _ => N6
            rename Fr _ _ _ _ => F6
            rw [(by assumption : IntsAre ys bits).length] at N6
            exact ⟨rfl, _, _, 1, _, _, rfl, F6, N6⟩
        case go =>
          have hways := ways_even h01
          obtain ⟨hth, hm3⟩ := third_is h01
          rw [hrr] at hways hm3

          rintro f s' ⟨rfl, lf, tl, nl, h8, tk8, rfl, F8, N8⟩
          (try dsimp only)
          (try k_fold)
          repeat' ((fail_if_success (with_reducible show wpAny _ _ (exec (Stmt.Assign [PySem.Expr.Name (Str.ofString "signs") _] _ _) _) _ _ _)); first | (k_unfold; (try dsimp only)) | (k_end; wrow_close) | walk1 | (dsimp only; walk1) | (leave1; walk_say "STEP leave1"; try dsimp only) | fail "no step")
          all_goals first | exact ("" : Str) | exact (0 : Nat) | exact Value.none | skip
          rename Fr _ _ _ _ => F9
          rename News _ _ _ _ => N9s
          k_steps
          all_goals first | exact ("" : Str) | exact (0 : Nat) | exact Value.none | skip
          k_dflt (refine' SrcB.mk (fun k => chS k) rfl ?k1 ?k2 (KBa.ints_make (b64out_in _)) ?sz ?turn ?fin)
          case k1 => k_asm
          case k2 => k_asm
          case sz => exact Nat.le_trans (signs_len octs hl6) (by decide)
          case turn =>
            intro hp k t I oI C oC D m₂ ys h tk E' hk hC hx F' N' off ne mk
            have hkr := b64out_in _ k hk
            k_steps
            all_goals first | exact ("" : Str) | exact (0 : Nat) | exact Value.none | skip
            exact ⟨rfl, _, rfl⟩
          case fin =>
            intro hp ys hc D h tk F' N' off
            have hS : StrsAre ys ((b64out (byteArr octs)).map chS) := CarriedAll.strsOf hc
            k_whole
            repeat' ((fail_if_success (with_reducible show LCt.CompSrcT _ _ _ _ _ _ _ _ _ _ _ _ _ _ _)); first | (k_unfold; (try dsimp only)) | (k_end; wrow_close) | walk1 | (dsimp only; walk1) | (leave1; walk_say "STEP leave1"; try dsimp only) | fail "no step")
            all_goals first | exact ("" : Str) | exact (0 : Nat) | exact Value.none | skip
            k_dflt (refine' srcT_mk keepS findS rfl ?k1 ?k2 (List.Mem.head _) hS ?sz ?turn ?fin)
            case k1 => k_asm
            case k2 => k_asm
            case sz => (rw [List.length_map]; exact Nat.le_trans (signs_len octs hl6) (by decide))
            case turn =>
              intro hp u t I oI C oC D m₂ ys h tk E' hu hC hx F' N' off
              obtain ⟨c, hc, rfl⟩ := List.mem_map.mp hu
              have hcr := b64out_in _ c hc
              k_steps
              all_goals first | exact ("" : Str) | exact (0 : Nat) | exact Value.none | skip
              · have hk : keepS (chS c) = true := by assumption
                exact LCg.CompEnd.intro F9 N9 _ (fun p hp => hp) off (.inr ⟨_, List.Mem.head _, rfl, _, rfl⟩) ⟨rfl, hk, _, rfl⟩
              · have hk : keepS (chS c) = false := by assumption
                exact LCg.CompEnd.intro F' N' _ (fun p hp => hp) off (.inr ⟨_, List.Mem.head _, rfl, _, rfl⟩) ⟨rfl, hk⟩
            case fin =>
              intro hp ys hI D h tk F' N' off
              have hpl := places_sum hb
              rw [show bitsOf octs = bits from hbe] at hpl
              generalize (((b64out (byteArr octs)).map chS).filter keepS).map findS = ps at hI hpl
              have hpz : ps.sum.fmod 3 = (r : Int) := by rw [fmod3, hpl, ← fmod3]; exact hm3
              k_whole
              k_steps
              all_goals first | exact ("" : Str) | exact (0 : Nat) | exact Value.none | skip)
end
end Mine
end
theorem PySem.Challenge.cw_op0202_02_holds : PySem.Challenge.rw_op0202_02.Holds :=
  Mine.lawT
