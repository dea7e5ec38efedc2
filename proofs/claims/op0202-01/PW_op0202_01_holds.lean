import PyProof.Rows.All
import Wide.All
import OpenK.AllK
import Wide.FinOn
import PySem.Challenge.RW_op0202_01
set_option Elab.async false
section
open PySem PySem.W PyProof.Rows
namespace Mine
/-! The lexer's machine, in plain Lean. -/
inductive Mode where
  | w | a | q1 | q2 | e0 | e2
  deriving DecidableEq
noncomputable def Mode.st : Mode → Str
  | .w => " " | .a => "a" | .q1 => "'" | .q2 => "\"" | .e0 => "\\" | .e2 => "\\"
noncomputable def stepM : Mode → Nat → Mode × List Nat
  | .w, c => if c = 39 then (.q1, []) else if c = 34 then (.q2, []) else if c = 92 then (.e0, []) else (.a, [c])
  | .a, c => if c = 39 then (.q1, []) else if c = 34 then (.q2, []) else if c = 92 then (.e0, []) else (.a, [c])
  | .q1, c => if c = 39 then (.a, []) else (.q1, [c])
  | .q2, c => if c = 34 then (.a, []) else if c = 92 then (.e2, []) else (.q2, [c])
  | .e0, c => (.a, [c])
  | .e2, c => if c = 92 ∨ c = 34 then (.q2, [c]) else (.q2, [92, c])
noncomputable def runM : Mode → List Nat → List Nat × Mode
  | m, [] => ([], m)
  | m, c :: r => ((stepM m c).2 ++ (runM (stepM m c).1 r).1, (runM (stepM m c).1 r).2)

theorem str_mk_append (x y : List Nat) : (⟨x.toArray⟩ : Str) ++ (⟨y.toArray⟩ : Str) = ⟨(x ++ y).toArray⟩ := by
  show Str.append _ _ = _
  unfold Str.append
  simp
theorem slice_one (pre : List Nat) (c : Nat) (post : List Nat) :
    Txt.slice ⟨(pre ++ c :: post).toArray⟩ (some (pre.length : Int)) (some ((pre.length : Int) + 1)) = ⟨#[c]⟩ := by
  have hl : (⟨(pre ++ c :: post).toArray⟩ : Str).length = pre.length + 1 + post.length := by
    show (pre ++ c :: post).toArray.size = _
    simp; omega
  have hi : Builtin.Str.strSliceIndices (some (pre.length : Int)) (some ((pre.length : Int) + 1)) 1 (pre.length + 1 + post.length) = [pre.length] := by
    unfold Builtin.Str.strSliceIndices sliceRange
    simp only [show (1 : Int) > 0 by decide, if_true]
    rw [if_neg (show ¬ ((pre.length : Int) < 0) by omega), if_neg (show ¬ ((pre.length : Int) + 1 < 0) by omega)]
    have e1 : max (0 : Int) (min (pre.length : Int) ((pre.length + 1 + post.length : Nat) : Int)) = (pre.length : Int) := by omega
    have e2 : max (0 : Int) (min ((pre.length : Int) + 1) ((pre.length + 1 + post.length : Nat) : Int)) = (pre.length : Int) + 1 := by omega
    rw [e1, e2, if_pos (by omega)]
    have e3 : (((pre.length : Int) + 1 - (pre.length : Int) + 1 - 1) / 1).toNat = 1 := by
      have : ((pre.length : Int) + 1 - (pre.length : Int) + 1 - 1) = 1 := by omega
      rw [this]; rfl
    rw [e3]
    simp
  unfold Txt.slice
  rw [hl, hi]
  split
  · rename_i h
    simp only [beq_self_eq_true, Bool.true_and, List.length_singleton, beq_iff_eq] at h
    have h1 : pre = [] := List.eq_nil_of_length_eq_zero (by omega)
    have h2 : post = [] := List.eq_nil_of_length_eq_zero (by omega)
    subst h1 h2
    rfl
  · simp
section
variable {prog : Program} {w : World} {A : Around} {E : Value → Shared → Prop} {s : Shared} {x y : Str} {t u : Tok} {Q : Value → Shared → Prop} {b : Bool} {c : Nat}
theorem in_by (b : Bool) (hv : (!(Builtin.Str.occurrences x y 0 x.length 1).isEmpty) = b) (h : Q (.bool b) s) : wpAny (model prog w) A (compareOp .In (.str y u) (.str x t)) Q E s := PyProof.Rows.in_str (by rw [hv]; exact h)
theorem notIn_by (b : Bool) (hv : (!(!(Builtin.Str.occurrences x y 0 x.length 1).isEmpty)) = b) (h : Q (.bool b) s) : wpAny (model prog w) A (compareOp .NotIn (.str y u) (.str x t)) Q E s := PyProof.Rows.notIn_str (by rw [hv]; exact h)
theorem in_one (b : Bool) (hv : decide (c ∈ x.cps.toList) = b) (h : Q (.bool b) s) : wpAny (model prog w) A (compareOp .In (.str ⟨#[c]⟩ u) (.str x t)) Q E s := PyProof.Rows.in_str (by rw [StrLaws.found_one, hv]; exact h)
theorem notIn_one (b : Bool) (hv : decide (c ∈ x.cps.toList) = b) (h : Q (.bool (!b)) s) : wpAny (model prog w) A (compareOp .NotIn (.str ⟨#[c]⟩ u) (.str x t)) Q E s := PyProof.Rows.notIn_str (by rw [StrLaws.found_one, hv]; exact h)
theorem eq_by (b : Bool) (hv : (x == y) = b) (h : Q (.bool b) s) : wpAny (model prog w) A (compareOp .Eq (.str x t) (.str y u)) Q E s := PyProof.Rows.eq_str (by rw [hv]; exact h)
theorem ne_by (b : Bool) (hv : (x == y) = b) (h : Q (.bool (!b)) s) : wpAny (model prog w) A (compareOp .NotEq (.str x t) (.str y u)) Q E s := PyProof.Rows.ne_str (by
  have e : (x != y) = !b := by rw [← hv]; rfl
  rw [e]; exact h)
theorem iadd_by (hx : x.length ≤ 5000) (hy : y.length ≤ 5000) (h : ∀ t' tk, Q (.str (x ++ y) t') { s with toks := tk }) : wpAny (model prog w) A (inplaceOp .Add (.str x t) (.str y u)) Q E s := PyProof.Rows.iadd_str h (by rw [sizeLine]; omega)
theorem truthy_one {Q : Bool → Shared → Prop} (h : Q true { s with toks := s.toks + 1 + 1 }) : wpAny (model prog w) A (truthy (.str ⟨#[c]⟩ t)) Q E s := P.truthy_str (by show ¬ ((1 : Nat) : Int) ≥ _; omega) h
end
theorem one_len (c : Nat) : (⟨#[c]⟩ : Str).length ≤ 5000 := by show 1 ≤ 5000; omega

/-! The loop of read_token, in plain Lean: one step. -/
structure LxS where
  md : Mode
  x : Str
  post : List Nat
  pos : Int
  qd : Bool
  es : Str
  (t1 t2 t3 t4 : Tok)
noncomputable def lxPs (c : LxS) : List (Str × Value) := [("quoted", .bool c.qd), ("escapedstate", .str c.es c.t4)]
noncomputable def lxP (text out : List Nat) (c : LxS) : Prop :=
  (∃ pre, text = pre ++ c.post ∧ c.pos = (pre.length : Int)) ∧ c.x ++ (⟨(runM c.md c.post).1.toArray⟩ : Str) = ⟨out.toArray⟩ ∧ (runM c.md c.post).2 = .a ∧
  (c.md = .w → c.x = "" ∧ c.post ≠ []) ∧ (c.md = .e0 → c.es = "a") ∧ (c.md = .e2 → c.es = "\"")
theorem lx_next {text out pre post : List Nat} {c : Nat} {x nx : Str} {pos : Int} {md nmd : Mode} (app : List Nat) {qd : Bool} {es : Str} {a1 a2 a3 a4 : Tok}
    (htext : text = pre ++ c :: post) (hpos : pos = (pre.length : Int)) (hx : x ++ (⟨(runM md (c :: post)).1.toArray⟩ : Str) = ⟨out.toArray⟩) (hm : (runM md (c :: post)).2 = .a)
    (hs : stepM md c = (nmd, app)) (hn : nx = x ++ (⟨app.toArray⟩ : Str)) (h1 : nmd ≠ .w) (h2 : nmd = .e0 → es = "a") (h3 : nmd = .e2 → es = "\"") :
    lxP text out ⟨nmd, nx, post, pos + 1, qd, es, a1, a2, a3, a4⟩ := by
  refine ⟨⟨pre ++ [c], by simp [htext], by simp [hpos]⟩, ?_, ?_, fun h => absurd h h1, h2, h3⟩
  · show nx ++ (⟨(runM nmd post).1.toArray⟩ : Str) = _
    rw [← hx]
    simp only [runM, hs]
    rw [hn, Str.append_assoc, str_mk_append app]
  · show (runM nmd post).2 = .a
    simp only [runM, hs] at hm
    exact hm
theorem lx_xlen {x : Str} {l out : List Nat} (hx : x ++ (⟨l.toArray⟩ : Str) = ⟨out.toArray⟩) (ho : out.length < 2000) : x.length ≤ 4000 := by
  have := congrArg Str.length hx
  rw [Str.length_append] at this
  have e : (⟨out.toArray⟩ : Str).length = out.length := by show out.toArray.size = _; simp
  omega
noncomputable def isLet (c : Nat) : Bool := (65 ≤ c && c ≤ 90) || (97 ≤ c && c ≤ 122) || (48 ≤ c && c ≤ 57)
noncomputable def WcOk (wc : Str) : Prop := (∀ c, isLet c = true → decide (c ∈ wc.cps.toList) = true) ∧ decide (39 ∈ wc.cps.toList) = false ∧ decide (34 ∈ wc.cps.toList) = false ∧ decide (92 ∈ wc.cps.toList) = false
noncomputable def okC (c : Nat) : Prop := isLet c = true ∨ c = 39 ∨ c = 34 ∨ c = 92
theorem str_one_ne {c d : Nat} {y : Str} (hy : y = ⟨#[d]⟩) (h : c ≠ d) : ((⟨#[c]⟩ : Str) == y) = false := by
  subst hy
  rw [beq_eq_false_iff_ne]
  intro e
  injection e with e
  simp at e
  exact h e
theorem not_mem_of {c : Nat} {y : Str} {l : List Nat} (hy : y.cps.toList = l) (h : ∀ d ∈ l, c ≠ d) : decide (c ∈ y.cps.toList) = false := by
  rw [hy, decide_eq_false_iff_not]
  exact fun m => h c m rfl
theorem esc_free {c : Nat} (h : c ≠ 92) : decide (c ∈ (Str.ofString "\\").cps.toList) = false := not_mem_of (l := [92]) (by decide +kernel) (by simpa using h)
theorem nl_free {c : Nat} (h : okC c) : ((⟨#[c]⟩ : Str) == Str.ofString "\n") = false := str_one_ne (d := 10) (by decide +kernel) (by
  rcases h with h | h | h | h
  · intro e; subst e; revert h; decide
  all_goals omega)
theorem lx_let {c : Nat} {wc : Str} (hc : okC c) (h39 : ¬ c = 39) (h34 : ¬ c = 34) (h92 : ¬ c = 92) (hwc : WcOk wc) :
    decide (c ∈ (Str.ofString " \t\r\n").cps.toList) = false ∧ decide (c ∈ (Str.ofString "").cps.toList) = false ∧ decide (c ∈ (Str.ofString "\\").cps.toList) = false ∧ decide (c ∈ (Str.ofString "'\"").cps.toList) = false ∧ decide (c ∈ wc.cps.toList) = true := by
  have hl : isLet c = true := by rcases hc with h | h | h | h <;> first | exact h | contradiction
  have hb : (65 ≤ c ∧ c ≤ 90) ∨ (97 ≤ c ∧ c ≤ 122) ∨ (48 ≤ c ∧ c ≤ 57) := by
    have := hl
    simp only [isLet, Bool.or_eq_true, Bool.and_eq_true, decide_eq_true_eq] at this
    omega
  refine ⟨not_mem_of (l := [32, 9, 13, 10]) (by decide +kernel) ?_, not_mem_of (l := []) (by decide +kernel) ?_, esc_free h92, not_mem_of (l := [39, 34]) (by decide +kernel) ?_, hwc.1 c hl⟩
  all_goals simp
  · omega
  · exact ⟨h39, h34⟩
theorem app_nil (x : Str) : x = x ++ (⟨([] : List Nat).toArray⟩ : Str) := (Str.append_empty x).symm
theorem empty_one (c : Nat) : (⟨#[c]⟩ : Str) = Str.ofString "" ++ (⟨[c].toArray⟩ : Str) := (Str.empty_append _).symm
theorem app_bs (x : Str) : x ++ Str.ofString "\\" = x ++ (⟨[92].toArray⟩ : Str) := rfl
theorem app_dq (x : Str) : x ++ Str.ofString "\"" = x ++ (⟨[34].toArray⟩ : Str) := rfl
theorem app_two (x : Str) (c : Nat) : (x ++ Str.ofString "\\") ++ (⟨#[c]⟩ : Str) = x ++ (⟨[92, c].toArray⟩ : Str) := by
  rw [Str.append_assoc]; rfl
theorem lx_g1 {c : Nat} (h39 : ¬ c = 39) (h92 : ¬ c = 92) : ((⟨#[c]⟩ : Str) == Mode.q1.st) = false ∧ decide (c ∈ (Str.ofString "\\").cps.toList) = false := ⟨str_one_ne (d := 39) (by decide +kernel) h39, esc_free h92⟩
theorem lx_g2 {c : Nat} (h34 : ¬ c = 34) (h92 : ¬ c = 92) : ((⟨#[c]⟩ : Str) == Mode.q2.st) = false ∧ decide (c ∈ (Str.ofString "\\").cps.toList) = false := ⟨str_one_ne (d := 34) (by decide +kernel) h34, esc_free h92⟩
theorem lx_g3 {c : Nat} (h34 : ¬ c = 34) (h92 : ¬ c = 92) : ((⟨#[c]⟩ : Str) == Mode.e2.st) = false ∧ ((⟨#[c]⟩ : Str) == Str.ofString "\"") = false := ⟨str_one_ne (d := 92) (by decide +kernel) h92, str_one_ne (d := 34) (by decide +kernel) h34⟩
theorem two_len {x : Str} (h : x.length ≤ 4000) : (x ++ Str.ofString "\\").length ≤ 5000 := by
  rw [Str.length_append, show (Str.ofString "\\").length = 1 from by decide +kernel]; omega
theorem out_ne {out : List Nat} (h : out ≠ []) : ((⟨out.toArray⟩ : Str) == Str.ofString "") = false := by
  rw [beq_eq_false_iff_ne]
  intro e
  apply h
  have h2 := congrArg (fun s : Str => s.cps.toList) e
  rw [show (Str.ofString "").cps.toList = [] from by decide +kernel] at h2
  simpa using h2
end Mine
end
section
open PySem PySem.W PyProof.Rows
set_option Elab.async false
set_option maxRecDepth 100000
set_option maxHeartbeats 0
namespace Mine
/-! deque(): made, and its truth -/
theorem slot_dq_len : Slot "collections.deque" "__len__" "collections.deque.__len__" :=
  .of (owner := "collections.deque") (n := "__len__") (by rw [typeLookup_type, builtinLookup_eq_fast]; kernel_rfl) (by decide +kernel) (by decide +kernel) (by decide +kernel)
    (by first | exact .inl (by decide +kernel) | exact .inr (by decide +kernel)) (by rw [isSubtype_type]; kernel_rfl)
theorem slot_dq_init : Slot "collections.deque" "__init__" "collections.deque.__init__" :=
  .of (owner := "collections.deque") (n := "__init__") (by rw [typeLookup_type, builtinLookup_eq_fast]; kernel_rfl) (by decide +kernel) (by decide +kernel) (by decide +kernel)
    (by first | exact .inl (by decide +kernel) | exact .inr (by decide +kernel)) (by rw [isSubtype_type]; kernel_rfl)
theorem entry_dq_len : entryFor table "collections.deque.__len__" = some Builtin.«collections.deque.__len__» := entryFor_of_fast (by kernel_rfl)
theorem entry_dq_init : entryFor table "collections.deque.__init__" = some Builtin.«collections.deque.__init__» := entryFor_of_tree (by kernel_rfl)
theorem entry_dq_new : entryFor table "collections.deque.__new__" = some Builtin.«collections.deque.__new__» := entryFor_of_tree (by kernel_rfl)
theorem args_dq_len (a : Value) : argsOk "collections.deque.__len__" ⟨[a], []⟩ := by unfold argsOk; kernel_rfl
theorem args_dq_init (a : Value) : argsOk "collections.deque.__init__" ⟨[a], []⟩ := by unfold argsOk; kernel_rfl
theorem mro_dq : mroOf (.type "collections.deque") = pure [.type "collections.deque", .type "object"] := by rw [mroOf_type]; kernel_rfl
theorem lookup_dq_new : typeLookup (.type "collections.deque") "__new__" = pure (some (.builtin "collections.deque.__new__")) := by rw [typeLookup_type, builtinLookup_eq_fast]; kernel_rfl
theorem called_dq : TypeCalled "collections.deque" "collections.deque.__new__" "collections.deque.__init__" :=
  ⟨by decide +kernel, by decide +kernel, ⟨_, _, mro_dq⟩, madeBy_type mro_dq lookup_dq_new (by decide +kernel), by decide +kernel, by rw [isSubtype_type]; kernel_rfl, slot_dq_init⟩
theorem typeCall_dq : checkTypeCall "collections.deque" ⟨[], []⟩ = pure () := by kernel_rfl
theorem newCall_dq : checkBuiltinCall "collections.deque.__new__" ⟨[.type "collections.deque"], []⟩ = pure () := by kernel_rfl
theorem noBool_dq : typeLookup (.type "collections.deque") "__bool__" = pure none := by rw [typeLookup_type, builtinLookup_eq_fast]; kernel_rfl
noncomputable abbrev dqObj : Obj := { cls := .type "collections.deque", dict := none, data := .fields #[.none, rawInt 0] }
section
variable {prog : Program} {w : World} {A : Around} {E : Value → Shared → Prop} {s : Shared}
theorem dq_len_body {a : Addr} {Q : Value → Shared → Prop} (ho : s.heap.get? a = some dqObj)
    (h : Q (.int 0 (s.toks + 1)) { s with toks := s.toks + 1 + 1 }) : wpAny (model prog w) A (Builtin.«len» ⟨[.ref a], []⟩) (fun fin s' => ∃ r, fin = .done (.ret r) ∧ Q r s') E s := by
  have hT : s.TypeIs (.ref a) "collections.deque" := ⟨_, ho, rfl⟩
  unfold Builtin.«len»
  refine wpAny_bind (m := oneArg "len" _) (wpAny_pure ?_)
  refine wpAny_bind (m := callSpecial? (.ref a) (Str.ofString "__len__")) (wpAny_callSpecial?_slot (name := Str.ofString "__len__") hT slot_dq_len
    (wpAny_call_entry slot_dq_len hT entry_dq_len ?_ (args_dq_len _)))
  · show wpAny _ _ (do retInt (← Builtin.Deque.size (← slotArgs "__len__" 0 ⟨[.ref a], []⟩).1)) _ _ s
    refine wpAny_bind (m := slotArgs "__len__" 0 ⟨[.ref a], []⟩) (wpAny_pure ?_)
    unfold Builtin.Deque.size fieldsOf
    refine wpAny_bind (wpAny_bind (wpAny_bind (wpAny_load ho ?_)))
    refine wpAny_pure (wpAny_pure (wpAny_bind (wpAny_mkInt (wpAny_pure ⟨_, rfl, ?_⟩))))
    refine wpAny_bind (wpAny_holding (wpAny_pure ?_))
    refine wpAny_bind (wpAny_letGo ?_)
    exact wpAny_bind (wpAny_mkInt (wpAny_pure ⟨_, rfl, h⟩))
theorem truthy_dq {a : Addr} {Q : Bool → Shared → Prop} (ho : s.heap.get? a = some dqObj) (h : Q false { s with toks := s.toks + 1 + 1 }) : wpAny (model prog w) A (truthy (.ref a)) Q E s := by
  have hT : s.TypeIs (.ref a) "collections.deque" := ⟨_, ho, rfl⟩
  have key : wpAny (model prog w) A (runValue (.builtin "len" ⟨[.ref a], []⟩)) (fun r s' => r = .int 0 (s.toks + 1) ∧ Q false s') E s := by
    refine wpAny_runValue (codeAny_builtin entry_len ?_)
    rw [Around.under_plainId plain_len _]
    exact wpAny_mono (dq_len_body (Q := fun r s' => r = .int 0 (s.toks + 1) ∧ Q false s') ho ⟨rfl, h⟩)
      (fun fin s' h' => by obtain ⟨r, rfl, hq⟩ := h'; exact hq) fun _ _ e => e
  unfold truthy
  first
    | refine wpAny_bind (wpAny_callSpecial?_none (name := Str.ofString "__bool__") hT noBool_dq ?_)
    | refine wpAny_bind (wpAny_pure (wpAny_bind (wpAny_callSpecial?_none (name := Str.ofString "__bool__") hT noBool_dq ?_)))
  first
    | refine wpAny_bind (wpAny_specialOf (name := Str.ofString "__len__") hT slot_dq_len.lookup ?_)
    | refine wpAny_bind (wpAny_pure (wpAny_bind (wpAny_specialOf (name := Str.ofString "__len__") hT slot_dq_len.lookup ?_)))
  first
    | exact wpAny_bind (wpAny_mono key (fun r s' h' => by obtain ⟨rfl, hq⟩ := h'; exact wpAny_pure hq) fun _ _ e => e)
    | exact wpAny_bind (wpAny_pure (wpAny_bind (wpAny_mono key (fun r s' h' => by obtain ⟨rfl, hq⟩ := h'; exact wpAny_pure hq) fun _ _ e => e)))
noncomputable def specOf (t : Sem Fin) : PySem.Spec := fun A R s => ∀ (prog : Program) (w : World), wpAny (model prog w) A.in1 t (fun fin s' => match fin with | .done f => R (.ok f) s' | .again c' => c'.quiet = true ∧ codeAny (model prog w) A c' R s') (fun e s' => R (.error e) s') s
theorem meets_specOf (t : Sem Fin) : Meets t (specOf t) := fun prog w _ _ _ h => h prog w
theorem dq_new_body {A : Around} {R : Result → Shared → Prop} (h : R (.ok (.ret (.ref s.heap.objs.size))) { s with heap := s.heap.push dqObj }) : specOf (Builtin.«collections.deque.__new__» ⟨[.type "collections.deque"], []⟩) A R s := by
  intro prog w
  unfold Builtin.«collections.deque.__new__» Builtin.Deque.newArgs
  have hsub : isSubtype (.type "collections.deque") (.type Builtin.Deque.ty) = pure true := by rw [isSubtype_type]; kernel_rfl
  have hnd : typeHasDict (.type "collections.deque") = false := by kernel_rfl
  obtain ⟨hp, g, d, tk, os⟩ := s
  dsimp only
  wp_walk
  exact h
theorem call_dq {Q : Value → Shared → Prop} (h : ∀ h', Heap.SameBut s.heap.objs.size (s.heap.push dqObj) h' → h'.get? s.heap.objs.size = some dqObj → Q (.ref s.heap.objs.size) { s with heap := h' }) : wpAny (model prog w) A (call (.type "collections.deque") []) Q E s := by
  refine callType_meets (Q₁ := fun obj s₁ => obj = .ref s.heap.objs.size ∧ s₁ = { s with heap := s.heap.push dqObj }) called_dq typeCall_dq newCall_dq entry_dq_new entry_dq_init (meets_specOf _) (dq_new_body ⟨rfl, rfl⟩) ?_
  rintro obj s₁ ⟨rfl, rfl⟩
  refine ⟨⟨_, Heap.get?_push_size _ rfl, rfl⟩, args_dq_init _, _, meets_specOf _, ?_⟩
  intro prog w
  show wpAny _ _ (do setField (.ref s.heap.objs.size) 0 .none; Builtin.Deque.clear (.ref s.heap.objs.size); ret .none) _ _ _
  have ho : ({ s with heap := s.heap.push dqObj } : Shared).heap.get? s.heap.objs.size = some dqObj := Heap.get?_push_size _ rfl
  unfold setField
  wp_walk
  exact ⟨rfl, h _ (Heap.SameBut.update ..) (Heap.get?_update_self _ ho rfl)⟩
theorem call_dqK {h₀ : Heap} {L : Addr} {m : Str → Option Value} {news : List (Addr × Obj)} {Q : Value → Shared → Prop} (F : Fr h₀ L s.heap m) (N : News h₀ L s.heap news)
    (h : ∀ a h', Fr h₀ L h' m → News h₀ L h' ((a, dqObj) :: news) → (∀ p ∈ news, p.1 < a) → Q (.ref a) { s with heap := h' }) : wpAny (model prog w) A (call (.type "collections.deque") []) Q E s := by
  refine call_dq fun h' hs ho => ?_
  have F1 := F.push dqObj
  have N1 := N.push F dqObj
  have hne : L ≠ s.heap.objs.size := Nat.ne_of_lt F.ns.lt
  refine h _ h' ?_ ?_ fun p hp => Heap.lt_size (N p hp).1
  · obtain ⟨oL, es, ep, hL, r⟩ := F1.ns
    refine ⟨⟨oL, es, ep, (hs.2 L hne).trans hL, r⟩, fun b o e => ?_, F1.above⟩
    have lt : b < s.heap.objs.size := Heap.lt_size (F.keep b o e)
    exact (hs.2 b (Nat.ne_of_lt lt)).trans (F1.keep b o e)
  · intro p hp
    rcases List.mem_cons.mp hp with rfl | hp
    · exact ⟨ho, (N1 _ (.head _)).2⟩
    · have lt : p.1 < s.heap.objs.size := Heap.lt_size (N p hp).1
      exact ⟨(hs.2 p.1 (Nat.ne_of_lt lt)).trans (N1 p (.tail _ hp)).1, (N p hp).2⟩
theorem truthy_dqK {h₀ : Heap} {L a : Addr} {news : List (Addr × Obj)} {Q : Bool → Shared → Prop} (N : News h₀ L s.heap news) (hm : (a, dqObj) ∈ news) (h : Q false { s with toks := s.toks + 1 + 1 }) : wpAny (model prog w) A (truthy (.ref a)) Q E s := truthy_dq (N _ hm).1 h
end
end Mine
end
section
open PySem PySem.W PySem.Calls PyProof.Rows
set_option Elab.async false
set_option maxRecDepth 100000
set_option maxHeartbeats 0
namespace Mine
/-! an own class with a __new__ of its own (a static method): made -/
noncomputable def ownMakes (K : Frag) (C : Addr) : Bool := match K.lookup C with
  | some ⟨_, _, .cls cd, sl⟩ => !cd.mro.isEmpty && (sl.toList[4]?).join == some Value.none && cd.mro.contains (.ref C) &&
      specialIn K (.ref C) "__call__" == some (some (.builtin "type.__call__")) && instIn K (.ref C) (.type "type") == some true
  | _ => false
noncomputable def NewBack (prog : Program) (w : World) (A : Around) (K : Frag) (C fI : Addr) (rest : List Value) (kw : List (Str × Value)) (R : Result → Shared → Prop) (r : Result) (s₁ : Shared) : Prop := match r with
  | .ok (.ret v) => ∃ x dx, v = .ref x ∧ s₁.heap.get? x = some (instObj C dx) ∧ K.In s₁.heap ∧ codeAny (model prog w) (A.under (.builtin "type.__call__" ⟨.ref C :: rest, kw⟩)) (.call (.ref fI) ⟨.ref x :: rest, kw⟩) (InitBack x R) s₁
  | .ok _ => False
  | .error e => R (.error e) s₁
section
variable {prog : Program} {w : World} {A : Around} {K : Frag} {C : Addr} {R : Result → Shared → Prop} {h : Heap} {g : Array GenState} {d : Drawn} {t : Nat} {os : OsState}
theorem make_own {fN pN fI : Addr} {rest : List Value} {kw : List (Str × Value)} {vs : List Value} (X : K.In h) (hm : ownMakes K C = true)
    (hr : readsIn K C (.type "type") = true) (e : findCls K (.ref C) (.type "type") "__new__" = some (.get (.builtin "staticmethod.__get__") (.ref pN) .none (.ref C))) (hp : recIn K pN "staticmethod" = some (.ref fN :: vs))
    (hi : findIn K (.ref C) "__init__" = some (some (.ref fI))) (hf : typeIn K (.ref fI) = some (.type "function"))
    (hq : codeAny (model prog w) (A.under (.builtin "type.__call__" ⟨.ref C :: rest, kw⟩)) (.call (.ref fN) ⟨.ref C :: rest, kw⟩) (NewBack prog w A K C fI rest kw R) ⟨h, g, d, t + 1, os⟩) :
    codeAny (model prog w) A (.call (.ref C) ⟨rest, kw⟩) R ⟨h, g, d, t, os⟩ := by
  unfold ownMakes at hm
  split at hm
  · rename_i oc od cd sl ho
    simp only [Bool.and_eq_true, Bool.not_eq_true', beq_iff_eq] at hm
    obtain ⟨⟨⟨⟨e4, e3⟩, e5⟩, e7⟩, e8⟩ := hm
    have hC := X _ _ ho
    have hc : clsIn K C = some cd := by unfold clsIn; rw [ho]
    have call : Looks (model prog w) h (specialOf (.ref C) "__call__") (some (.builtin "type.__call__")) := looks_specialIn X e7
    have typ : Looks (model prog w) h (isInstance (.ref C) (.type "type")) true := looks_instIn X e8
    have hmr : Looks (model prog w) h (mroOf (.ref C)) cd.mro := (looks_clsIn X hc).andThen .now
    obtain ⟨c, l, hl⟩ : ∃ c l, cd.mro = c :: l := by cases q : cd.mro with | nil => rw [q] at e4; cases e4 | cons c l => exact ⟨c, l, rfl⟩
    have made : Looks (model prog w) h (Bind.madeBy (.ref C)) none := by
      intro A Q E s k q
      unfold Bind.madeBy
      refine wpAny_bind (hmr A _ E s k ?_)
      rw [hl, List.forIn_cons]
      refine wpAny_bind (wpAny_bind (wpAny_bind (wpAny_bind (wpAny_loadPart (k _ _ hC) (wpAny_pure ?_)))))
      dsimp only
      rw [← Array.getElem?_toList, e3]
      exact wpAny_pure (wpAny_pure (wpAny_pure q))
    refine codeAny_of_tree ?_
    show wpAny _ _ (callAny (.ref C) _) _ _ _
    refine nd_load hC ?_
    show wpAny _ _ (callAny.viaDunder (.ref C) _) _ _ _
    unfold callAny.viaDunder
    refine wpAny_bind (call.at ?_)
    dsimp only
    rw [tc_bind]
    refine wpAny_bind (wpAny_pure (wpAny_bind (wpAny_pure ?_)))
    refine wpAny_pure (a := Fin.again (.call (.builtin "type.__call__") ⟨.ref C :: rest, kw⟩)) (And.intro rfl ?_)
    refine codeAny_call_builtin_at (Code.quiet_builtin _ (by decide +kernel)) entry_typeCall (check_slot tc_kind tc_split typ (tc_args _ _ _) ?_)
    unfold Builtin.«type.__call__»
    repeat (first | simp only [e4, Bool.false_eq_true, if_false] | ((fail_if_success (with_reducible show wpAny _ _ (getAttr _ _ _) _ _ _)); lk))
    refine cls_bind (mc := .type "type") X hr e (wpAny_call (sm_get (s := ⟨h, g, d, t + 1, os⟩) X hp (handed_on rfl ?_)))
    repeat (first | with_reducible refine wpAny_call ?_ | ((fail_if_success (with_reducible show codeAny _ _ _ _ _)); lk))
    refine codeAny_mono hq fun r s' z => ?_
    rcases r with e | (v | _ | _ | _) <;> first | exact z | exact z.elim | skip
    obtain ⟨x, dx, rfl, hx, X', hq'⟩ := z
    obtain ⟨h', g', d', t', os'⟩ := s'
    dsimp only at hx X' ⊢
    have t1 : Looks (model prog w) h' (typeOf (.ref x)) (.ref C) := (Looks.ld hx).andThen .now
    have s1 : Looks (model prog w) h' (isSubtype (.ref C) (.ref C)) true := looks_mroIn X' (by unfold mroIn; rw [hc, Option.bind_some, if_neg (by rw [e4]; decide), e5])
    have i1 : Looks (model prog w) h' (typeLookup (.ref C) "__init__") (some (.ref fI)) := looks_findIn X' hi
    have b1 : Looks (model prog w) h' (bindSpecial (.ref fI) (.ref x)) (.ref fI, [.ref x]) := bind_fn X' _ hf
    unfold isInstance callSpecial? specialOf
    repeat (first | with_reducible refine wpAny_call ?_ | ((fail_if_success (with_reducible show codeAny _ _ _ _ _)); lk))
    refine codeAny_mono hq' fun r s' z => ?_
    rcases r with e | (v | _ | _ | _) <;> first | exact z | exact z.elim | skip
    obtain ⟨rfl, z⟩ := z
    exact wpAny_pure (wpAny_pure z)
  · cases hm
end
section
variable {prog : Program} {w : World} {A : Around} {K : Frag} {C : Addr} {R : Result → Shared → Prop} {h : Heap} {g : Array GenState} {d : Drawn} {t : Nat} {os : OsState}
noncomputable def newOk (K : Frag) (C : Addr) : Bool := match K.lookup C with
  | some ⟨_, _, .cls cd, _⟩ => !cd.abstract && !cd.hasDel
  | _ => false
theorem new_own (X : K.In h) (hm : newOk K C = true) (hc : ∀ S, peek K S (checkBuiltinCall "object.__new__" ⟨[.ref C], []⟩) = some ()) (ht : ∀ S, peek K S (isType (.ref C)) = some true) (hh : ∀ S, peek K S (Bind.madeHere "object.__new__" (.ref C)) = some ())
    (hq : R (.ok (.ret (.ref (h.objs.size + 1)))) ⟨(h.push emptyDict).push (instObj C h.objs.size), g, d, t, os⟩) :
    codeAny (model prog w) A (.call (.builtin "object.__new__") ⟨[.ref C], []⟩) R ⟨h, g, d, t, os⟩ := by
  unfold newOk at hm
  split at hm
  · rename_i oc od cd sl ho
    simp only [Bool.and_eq_true, Bool.not_eq_true'] at hm
    obtain ⟨e1, e2⟩ := hm
    have hC := X _ _ ho
    have F := PySem.F.objNew
    have chk : Looks (model prog w) h (checkBuiltinCall "object.__new__" ⟨[.ref C], []⟩) () := Looks.of_peek X (hc _)
    have typ : Looks (model prog w) h (isType (.ref C)) true := Looks.of_peek X (ht _)
    have here : Looks (model prog w) h (Bind.madeHere "object.__new__" (.ref C)) () := Looks.of_peek X (hh _)
    refine codeAny_call_builtin_code (Code.quiet_builtin _ F.quiet) ?_
    refine chk.at ?_
    refine codeAny_builtin F.entry ?_
    unfold Builtin.«object.__new__»
    have fin : ∀ A', wpAny (model prog w) A' (do
        let d ← if typeHasDict (.ref C) then some <$> alloc { cls := .type "dict", data := .dict #[] } else pure none
        ret (← newObj (.ref C) .plain d)) (fun fin s' => match fin with | .done f => R (.ok f) s' | .again c' => c'.quiet = true ∧ codeAny (model prog w) A c' R s') (fun e s' => R (.error e) s') ⟨h, g, d, t, os⟩ := by
      intro A'
      show wpAny _ _ ((alloc emptyDict >>= fun x => pure (some x)) >>= _) _ _ _
      refine wpAny_bind (wpAny_bind (wpAny_alloc (wpAny_pure (wpAny_bind ?_))))
      show wpAny _ _ (newObjAsIs _ _ _) _ _ _
      unfold newObjAsIs classHasDel
      refine wpAny_bind (wpAny_alloc (wpAny_bind (wpAny_bind (wpAny_load (Heap.get?_push_of_some _ (Heap.get?_push_of_some _ hC)) (wpAny_pure ?_)))))
      rw [e2]
      refine wpAny_pure (wpAny_pure ?_)
      show R _ _
      rw [Heap.size_push]
      exact hq
    repeat (first | simp only [e1, Bool.false_eq_true, if_false] | exact fin _ | lk)
  · cases hm
theorem new_ownK {s : Shared} {h₀ : Heap} {L : Addr} {m : Str → Option Value} {news : List (Addr × Obj)} {E Q : Value → Shared → Prop} (F : Fr h₀ L s.heap m) (X₀ : K.In h₀) (N : News h₀ L s.heap news) (hm : newOk K C = true) (hc : ∀ S, peek K S (checkBuiltinCall "object.__new__" ⟨[.ref C], []⟩) = some ()) (ht : ∀ S, peek K S (isType (.ref C)) = some true) (hh : ∀ S, peek K S (Bind.madeHere "object.__new__" (.ref C)) = some ())
    (hq : ∀ x dx h', Fr h₀ L h' m → News h₀ L h' ((x, instObj C dx) :: (dx, dictOf [] 0) :: news) → (∀ p ∈ news, p.1 < dx) → dx < x → Q (.ref x) { s with heap := h' }) : wpAny (model prog w) A (call (.builtin "object.__new__") [.ref C]) Q E s := by
  obtain ⟨hp, g, d, t, os⟩ := s
  refine wpAny_call (new_own (X₀.keeps F.keep) hm hc ht hh (hq _ hp.objs.size _ ((F.push _).push _) ?_ (fun p hp => Heap.lt_size (N p hp).1) (Nat.lt_succ_self _)))
  have := (N.push F emptyDict).push (F.push _) (instObj C hp.objs.size)
  rwa [Heap.size_push] at this
end
section
variable {prog : Program} {w : World} {A : Around} {K : Frag} {C x dx L : Addr} {R : Result → Shared → Prop} {s : Shared} {h₀ : Heap} {m : Str → Option Value} {news : List (Addr × Obj)}
theorem make_ownS {fN pN fI : Addr} {rest : List Value} {kw : List (Str × Value)} {vs : List Value} (X : K.In s.heap) (hm : ownMakes K C = true)
    (hr : readsIn K C (.type "type") = true) (e : findCls K (.ref C) (.type "type") "__new__" = some (.get (.builtin "staticmethod.__get__") (.ref pN) .none (.ref C))) (hp : recIn K pN "staticmethod" = some (.ref fN :: vs))
    (hi : findIn K (.ref C) "__init__" = some (some (.ref fI))) (hf : typeIn K (.ref fI) = some (.type "function"))
    (hq : codeAny (model prog w) (A.under (.builtin "type.__call__" ⟨.ref C :: rest, kw⟩)) (.call (.ref fN) ⟨.ref C :: rest, kw⟩) (NewBack prog w A K C fI rest kw R) { s with toks := s.toks + 1 }) :
    codeAny (model prog w) A (.call (.ref C) ⟨rest, kw⟩) R s := by
  obtain ⟨h, g, d, t, os⟩ := s
  exact make_own X hm hr e hp hi hf hq
theorem newBack_ {fI : Addr} {rest : List Value} {kw : List (Str × Value)} (F : Fr h₀ L s.heap m) (X₀ : K.In h₀) (N : News h₀ L s.heap news) (h1 : (x, instObj C dx) ∈ news)
    (h : codeAny (model prog w) (A.under (.builtin "type.__call__" ⟨.ref C :: rest, kw⟩)) (.call (.ref fI) ⟨.ref x :: rest, kw⟩) (InitBack x R) s) : NewBack prog w A K C fI rest kw R (.ok (.ret (.ref x))) s :=
  ⟨x, dx, rfl, (N _ h1).1, X₀.keeps F.keep, h⟩
end
end Mine
end
section
open PySem PySem.W PyProof.Rows
set_option maxRecDepth 100000
namespace Mine
/-! base64 and the octets, in plain Lean. -/
noncomputable def b64I : List Int := [65,66,67,68,69,70,71,72,73,74,75,76,77,78,79,80,81,82,83,84,85,86,87,88,89,90,97,98,99,100,101,102,103,104,105,106,107,108,109,110,111,112,113,114,115,116,117,118,119,120,121,122,48,49,50,51,52,53,54,55,56,57,43,47]
theorem idx63 (x : Int) : 0 ≤ Builtin.bitAnd x 63 ∧ Builtin.bitAnd x 63 < (b64I.length : Int) := by
  rw [bitAnd_m6]
  have : (b64I.length : Int) = 64 := rfl
  omega
theorem idx3 (x : Int) : 0 ≤ Builtin.bitAnd x 3 * 2 ^ Int.toNat 4 ∧ Builtin.bitAnd x 3 * 2 ^ Int.toNat 4 < (b64I.length : Int) := by
  rw [bitAnd_m2, show (2 : Int) ^ Int.toNat 4 = 16 from rfl]
  have : (b64I.length : Int) = 64 := rfl
  omega
theorem idx15 (x : Int) : 0 ≤ Builtin.bitAnd x 15 * 2 ^ Int.toNat 2 ∧ Builtin.bitAnd x 15 * 2 ^ Int.toNat 2 < (b64I.length : Int) := by
  rw [bitAnd_m4, show (2 : Int) ^ Int.toNat 2 = 4 from rfl]
  have : (b64I.length : Int) = 64 := rfl
  omega
theorem nat_and3 (x : Int) : (Builtin.bitAnd x 3).natAbs < 2 ^ 64 := by rw [bitAnd_m2]; omega
theorem nat_and15 (x : Int) : (Builtin.bitAnd x 15).natAbs < 2 ^ 64 := by rw [bitAnd_m4]; omega
noncomputable def b64step (c : List Int × Int × Int) (b : Int) : List Int × Int × Int :=
  let lc := Builtin.bitAnd (Builtin.bitOr (c.2.2 * 2 ^ 8) b) 65535
  let ch (k : Nat) : Int := b64I.getD (Builtin.bitAnd (lc.fdiv (2 ^ k)) 63).toNat 0
  if c.2.1 = 0 then (c.1 ++ [ch 2], 2, lc) else if c.2.1 = 2 then (c.1 ++ [ch 4], 4, lc) else ((c.1 ++ [ch 6]) ++ [ch 0], 0, lc)
noncomputable def b64fold (bs : List Int) : List Int × Int × Int := bs.foldl b64step ([], 0, 0)
theorem b64fold_snoc (bs : List Int) (b : Int) : b64fold (bs ++ [b]) = b64step (b64fold bs) b := by simp [b64fold]
theorem b64step_lb (c : List Int × Int × Int) (b : Int) : (b64step c b).2.1 = 0 ∨ (b64step c b).2.1 = 2 ∨ (b64step c b).2.1 = 4 := by
  unfold b64step
  split
  · exact .inr (.inl rfl)
  · split
    · exact .inr (.inr rfl)
    · exact .inl rfl
theorem b64foldl_lb (bs : List Int) : ∀ c : List Int × Int × Int, (c.2.1 = 0 ∨ c.2.1 = 2 ∨ c.2.1 = 4) → ((bs.foldl b64step c).2.1 = 0 ∨ (bs.foldl b64step c).2.1 = 2 ∨ (bs.foldl b64step c).2.1 = 4) := by
  induction bs with
  | nil => exact fun _ h => h
  | cons b bs ih => exact fun c _ => ih _ (b64step_lb c b)
theorem b64fold_lb (bs : List Int) : (b64fold bs).2.1 = 0 ∨ (b64fold bs).2.1 = 2 ∨ (b64fold bs).2.1 = 4 := b64foldl_lb bs _ (.inl rfl)
theorem b64fold_len (bs : List Int) : (b64fold bs).1.length ≤ 2 * bs.length := by
  have st : ∀ c b, (b64step c b).1.length ≤ c.1.length + 2 := fun c b => by
    unfold b64step
    split
    · simp
    · split <;> simp
  have go : ∀ (bs : List Int) c, (bs.foldl b64step c).1.length ≤ c.1.length + 2 * bs.length := fun bs => by
    induction bs with
    | nil => exact fun _ => Nat.le_refl _
    | cons b bs ih =>
      intro c
      have h1 := ih (b64step c b)
      have h2 := st c b
      simp only [List.foldl_cons, List.length_cons]
      omega
  have := go bs ([], 0, 0)
  simpa [b64fold] using this
theorem b64fold_lc (bs : List Int) : 0 ≤ (b64fold bs).2.2 ∧ (b64fold bs).2.2 < 65536 := by
  have st : ∀ c b, 0 ≤ (b64step c b).2.2 ∧ (b64step c b).2.2 < 65536 := fun c b => by
    have h : (b64step c b).2.2 = Builtin.bitAnd (Builtin.bitOr (c.2.2 * 2 ^ 8) b) 65535 := by
      unfold b64step
      split
      · rfl
      · split <;> rfl
    rw [h, bitAnd_m16]
    omega
  have go : ∀ (bs : List Int) c, (0 ≤ c.2.2 ∧ c.2.2 < 65536) → 0 ≤ (bs.foldl b64step c).2.2 ∧ (bs.foldl b64step c).2.2 < 65536 := fun bs => by
    induction bs with
    | nil => exact fun _ h => h
    | cons b bs ih => exact fun c _ => ih _ (st c b)
  exact go bs _ (by decide)
theorem b64I_in (j : Nat) : 0 ≤ b64I.getD j 0 ∧ b64I.getD j 0 < 256 := by
  by_cases h : j < 64
  · have := (by decide +kernel : ∀ j < 64, 0 ≤ b64I.getD j 0 ∧ b64I.getD j 0 < 256)
    exact this j h
  · have : b64I.getD j 0 = 0 := by
      rw [List.getD_eq_getElem?_getD, List.getElem?_eq_none (show b64I.length ≤ j from Nat.le_of_not_lt h)]
      rfl
    rw [this]
    decide
theorem in_snoc {ns : List Int} {x : Int} (h : ∀ n ∈ ns, 0 ≤ n ∧ n < 256) (hx : 0 ≤ x ∧ x < 256) : ∀ n ∈ ns ++ [x], 0 ≤ n ∧ n < 256 := fun n hn => by
  rcases List.mem_append.mp hn with hn | hn
  · exact h n hn
  · rw [List.mem_singleton.mp hn]
    exact hx
theorem b64fold_in (bs : List Int) : ∀ n ∈ (b64fold bs).1, 0 ≤ n ∧ n < 256 := by
  have st : ∀ c b, (∀ n ∈ c.1, 0 ≤ n ∧ n < 256) → ∀ n ∈ (b64step c b).1, 0 ≤ n ∧ n < 256 := fun c b h => by
    unfold b64step
    split
    · exact in_snoc h (b64I_in _)
    · split
      · exact in_snoc h (b64I_in _)
      · exact in_snoc (in_snoc h (b64I_in _)) (b64I_in _)
  have go : ∀ (bs : List Int) c, (∀ n ∈ c.1, 0 ≤ n ∧ n < 256) → ∀ n ∈ (bs.foldl b64step c).1, 0 ≤ n ∧ n < 256 := fun bs => by
    induction bs with
    | nil => exact fun _ h => h
    | cons b bs ih => exact fun c h => ih _ (st c b h)
  exact go bs _ (fun _ h => nomatch h)
noncomputable def b64tail (c : List Int × Int × Int) : List Int :=
  if c.2.1 = 0 then c.1 else if c.2.1 = 2 then ((c.1 ++ [b64I.getD (Builtin.bitAnd c.2.2 3 * 2 ^ 4).toNat 0]) ++ [61]) ++ [61] else (c.1 ++ [b64I.getD (Builtin.bitAnd c.2.2 15 * 2 ^ 2).toNat 0]) ++ [61]
noncomputable def b64out (b : Array UInt8) : List Int := b64tail (b64fold (List.map (fun c => ((UInt8.toNat c : Nat) : Int)) b.toList))
theorem ints_snoc {n : Int} {t : Tok} : ∀ {vs : List Value} {ns : List Int}, IntsAre vs ns → IntsAre (vs ++ [.int n t]) (ns ++ [n])
  | _, _, .nil => .cons n t .nil
  | _, _, .cons z u r => .cons z u (ints_snoc r)
theorem ints_snoc2 {n k : Int} {t u : Tok} {vs : List Value} {ns : List Int} (h : IntsAre vs ns) : IntsAre (vs ++ [.int n t, .int k u]) (ns ++ [n, k]) := by
  have := ints_snoc (n := k) (t := u) (ints_snoc (n := n) (t := t) h)
  simpa using this
theorem ints_snoc3 {n k j : Int} {t u v : Tok} {vs : List Value} {ns : List Int} (h : IntsAre vs ns) : IntsAre (vs ++ [.int n t, .int k u, .int j v]) (ns ++ [n, k, j]) := by
  have := ints_snoc (n := j) (t := v) (ints_snoc2 (n := n) (k := k) (t := t) (u := u) h)
  simpa using this
end Mine
end
section
open PySem PySem.W PyProof.Rows
set_option maxRecDepth 100000
namespace Mine
/-! The line's figures, octets and signs, in plain Lean. -/
theorem bitOr_nat (a b : Nat) : Builtin.bitOr a b = ((a ||| b : Nat) : Int) := by
  have h : ∀ n : Nat, decide (0 ≤ Builtin.bitNot (n : Int)) = false := fun n => decide_eq_false (by unfold Builtin.bitNot; omega)
  have e : ∀ n : Nat, (Builtin.bitNot (Builtin.bitNot (n : Int))).toNat = n := fun n => by unfold Builtin.bitNot; omega
  unfold Builtin.bitOr Builtin.bitAnd
  rw [h, h]
  simp only [e]
  unfold Builtin.bitNot
  omega
theorem or_mul {n f : Int} (k : Nat) (hn : 0 ≤ n) (h0 : 0 ≤ f) (h1 : f < 2 ^ k) : Builtin.bitOr (n * 2 ^ k) f = n * 2 ^ k + f := by
  obtain ⟨a, rfl⟩ := Int.eq_ofNat_of_zero_le hn
  obtain ⟨b, rfl⟩ := Int.eq_ofNat_of_zero_le h0
  have hb : b < 2 ^ k := by
    have e : ((2 ^ k : Nat) : Int) = (2 : Int) ^ k := by push_cast; rfl
    rw [← e] at h1
    exact Int.ofNat_lt.mp h1
  have e1 : ((a : Int) * 2 ^ k) = ((2 ^ k * a : Nat) : Int) := by push_cast; exact Int.mul_comm _ _
  rw [e1]
  rw [bitOr_nat, ← Nat.two_pow_add_eq_or_of_lt hb]
  push_cast
  rfl
noncomputable def tripN (n : Int) : List Int := [n.fdiv (2 ^ 16), Builtin.bitAnd (n.fdiv (2 ^ 8)) 255, Builtin.bitAnd n 255]
noncomputable def num6 (fs : List Int) : Int := fs.foldl (fun n f => Builtin.bitOr (n * 2 ^ 6) f) 0
noncomputable def trip (fs : List Int) : List Int := tripN (num6 fs)
noncomputable def chunks : List Int → List Int
  | a :: b :: c :: d :: r => trip [a, b, c, d] ++ chunks r
  | _ => []
noncomputable def F64 (fs : List Int) : Prop := ∀ f ∈ fs, 0 ≤ f ∧ f < 64
theorem num6_four {a b c d : Int} (h : F64 [a, b, c, d]) : num6 [a, b, c, d] = ((a * 64 + b) * 64 + c) * 64 + d := by
  have ha := h a (by simp); have hb := h b (by simp); have hc := h c (by simp); have hd := h d (by simp)
  unfold num6
  simp only [List.foldl_cons, List.foldl_nil]
  rw [or_mul 6 (by omega) ha.1 (by omega)]
  rw [or_mul 6 (by omega) hb.1 (by omega)]
  rw [or_mul 6 (by omega) hc.1 (by omega)]
  rw [or_mul 6 (by omega) hd.1 (by omega)]
  omega
theorem b64_three {a b c d : Int} (h : F64 [a, b, c, d]) (out : List Int) (lc : Int) (hlc : 0 ≤ lc) : ∃ lc', 0 ≤ lc' ∧ (trip [a, b, c, d]).foldl b64step (out, 0, lc) = (out ++ [b64I.getD a.toNat 0, b64I.getD b.toNat 0, b64I.getD c.toNat 0, b64I.getD d.toNat 0], 0, lc') := by
  have ha := h a (by simp); have hb := h b (by simp); have hc := h c (by simp); have hd := h d (by simp)
  unfold trip
  rw [num6_four h]
  generalize hn : ((a * 64 + b) * 64 + c) * 64 + d = n
  unfold tripN
  have q1 : n.fdiv (2 ^ 16) = n / 65536 := by rw [Int.fdiv_eq_ediv_of_nonneg _ (by decide)]; rfl
  have q2 : n.fdiv (2 ^ 8) = n / 256 := by rw [Int.fdiv_eq_ediv_of_nonneg _ (by decide)]; rfl
  rw [q1, q2, bitAnd_m8, bitAnd_m8]
  generalize e1 : n / 65536 = x
  generalize e2 : n / 256 % 256 = y
  generalize e3 : n % 256 = z
  have hx : 0 ≤ x ∧ x < 256 := by omega
  have hy : 0 ≤ y ∧ y < 256 := by omega
  have hz : 0 ≤ z ∧ z < 256 := by omega
  have fd : ∀ (m : Int) (k : Nat), m.fdiv (2 ^ k) = m / 2 ^ k := fun m k => Int.fdiv_eq_ediv_of_nonneg _ (Int.le_of_lt (kbt_pos k))
  simp only [List.foldl_cons, List.foldl_nil]
  have s1 : b64step (out, 0, lc) x = (out ++ [b64I.getD a.toNat 0], 2, (lc * 256 + x) % 65536) := by
    unfold b64step
    dsimp only
    rw [if_pos rfl, or_mul 8 hlc hx.1 (by omega), bitAnd_m16, bitAnd_m6, fd]
    have e : (lc * 2 ^ 8 + x) % 65536 / 2 ^ 2 % 64 = a := by omega
    rw [e]
    rfl
  have s2 : ∀ o l, 0 ≤ l → l % 256 = x → b64step (o, 2, l) y = (o ++ [b64I.getD b.toNat 0], 4, (l * 256 + y) % 65536) := by
    intro o l hl hlx
    unfold b64step
    dsimp only
    rw [if_neg (by decide), if_pos rfl, or_mul 8 hl hy.1 (by omega), bitAnd_m16, bitAnd_m6, fd]
    have e : (l * 2 ^ 8 + y) % 65536 / 2 ^ 4 % 64 = b := by omega
    rw [e]
    rfl
  have s3 : ∀ o l, 0 ≤ l → l % 256 = y → b64step (o, 4, l) z = ((o ++ [b64I.getD c.toNat 0]) ++ [b64I.getD d.toNat 0], 0, (l * 256 + z) % 65536) := by
    intro o l hl hlx
    unfold b64step
    dsimp only
    rw [if_neg (by decide), if_neg (by decide), or_mul 8 hl hz.1 (by omega), bitAnd_m16, bitAnd_m6, bitAnd_m6, fd, fd]
    have e : (l * 2 ^ 8 + z) % 65536 / 2 ^ 6 % 64 = c := by omega
    have e' : (l * 2 ^ 8 + z) % 65536 / 2 ^ 0 % 64 = d := by omega
    rw [e, e']
    rfl
  refine ⟨(((lc * 256 + x) % 65536 * 256 + y) % 65536 * 256 + z) % 65536, by omega, ?_⟩
  rw [s1, s2 _ _ (by omega) (by omega), s3 _ _ (by omega) (by omega)]
  simp
theorem b64_chunks : ∀ (fs : List Int) (out : List Int) (lc : Int), F64 fs → fs.length % 4 = 0 → 0 ≤ lc → ∃ lc', 0 ≤ lc' ∧ (chunks fs).foldl b64step (out, 0, lc) = (out ++ fs.map (fun f => b64I.getD f.toNat 0), 0, lc')
  | [], out, lc, _, _, h => ⟨lc, h, by simp [chunks]⟩
  | [_], _, _, _, h, _ => by simp at h
  | [_, _], _, _, _, h, _ => by simp at h
  | [_, _, _], _, _, _, h, _ => by simp at h
  | a :: b :: c :: d :: r, out, lc, hf, hl, h => by
    obtain ⟨l1, h1, e1⟩ := b64_three (a := a) (b := b) (c := c) (d := d) (fun f hm => hf f (by simp only [List.mem_cons, List.not_mem_nil, or_false] at hm ⊢; rcases hm with h | h | h | h <;> simp [h])) out lc h
    obtain ⟨l2, h2, e2⟩ := b64_chunks r (out ++ [b64I.getD a.toNat 0, b64I.getD b.toNat 0, b64I.getD c.toNat 0, b64I.getD d.toNat 0]) l1 (fun f hm => hf f (by simp [hm])) (by simp only [List.length_cons] at hl; omega) h1
    refine ⟨l2, h2, ?_⟩
    rw [chunks, List.foldl_append, e1, e2]
    simp
theorem trip_in {a b c d : Int} (h : F64 [a, b, c, d]) : ∀ n ∈ trip [a, b, c, d], 0 ≤ n ∧ n < 256 := by
  have ha := h a (by simp); have hb := h b (by simp); have hc := h c (by simp); have hd := h d (by simp)
  unfold trip tripN
  rw [num6_four h, bitAnd_m8, bitAnd_m8, Int.fdiv_eq_ediv_of_nonneg _ (by decide)]
  intro n hn
  simp only [List.mem_cons, List.not_mem_nil, or_false] at hn
  rcases hn with rfl | rfl | rfl <;> omega
theorem chunks_in : ∀ (fs : List Int), F64 fs → ∀ n ∈ chunks fs, 0 ≤ n ∧ n < 256
  | [], _, n, h => by simp [chunks] at h
  | [_], _, n, h => by simp [chunks] at h
  | [_, _], _, n, h => by simp [chunks] at h
  | [_, _, _], _, n, h => by simp [chunks] at h
  | a :: b :: c :: d :: r, hf, n, h => by
    rw [chunks] at h
    rcases List.mem_append.mp h with h | h
    · exact trip_in (fun f hm => hf f (by simp only [List.mem_cons, List.not_mem_nil, or_false] at hm ⊢; rcases hm with h | h | h | h <;> simp [h])) n h
    · exact chunks_in r (fun f hm => hf f (by simp [hm])) n h
theorem chunks_len : ∀ (fs : List Int), (chunks fs).length ≤ fs.length
  | [] => by simp [chunks]
  | [_] => by simp [chunks]
  | [_, _] => by simp [chunks]
  | [_, _, _] => by simp [chunks]
  | a :: b :: c :: d :: r => by
    have := chunks_len r
    rw [chunks]
    simp only [List.length_append, trip, tripN, List.length_cons, List.length_nil]
    omega
/-- one more chunk -/
theorem chunks_next : ∀ (i : Nat) (fs : List Int), 4 * i + 4 ≤ fs.length → chunks (fs.take (4 * (i + 1))) = chunks (fs.take (4 * i)) ++ trip ((fs.drop (4 * i)).take 4)
  | 0, a :: b :: c :: d :: r, _ => by simp [chunks]
  | i + 1, a :: b :: c :: d :: r, h => by
    have ih := chunks_next i r (by simp only [List.length_cons] at h; omega)
    rw [show 4 * (i + 1 + 1) = 4 * (i + 1) + 1 + 1 + 1 + 1 by omega, show 4 * (i + 1) = 4 * i + 1 + 1 + 1 + 1 by omega]
    simp only [List.take_succ_cons, List.drop_succ_cons, chunks]
    rw [show 4 * i + 1 + 1 + 1 + 1 = 4 * (i + 1) by omega, ih, List.append_assoc]
  | _, [], h => by simp at h
  | _, [_], h => by simp only [List.length_cons, List.length_nil] at h; omega
  | _, [_, _], h => by simp only [List.length_cons, List.length_nil] at h; omega
  | _, [_, _, _], h => by simp only [List.length_cons, List.length_nil] at h; omega
theorem b64out_make {ns : List Int} (h : ∀ n ∈ ns, 0 ≤ n ∧ n < 256) : b64out (byteArr ns) = b64tail (b64fold ns) := by
  unfold b64out
  have := KBa.ints_make h
  unfold KBw.bInts at this
  rw [this]
theorem b64out_chunks {fs : List Int} (hf : F64 fs) (hl : fs.length % 4 = 0) : b64out (byteArr (chunks fs)) = fs.map (fun f => b64I.getD f.toNat 0) := by
  rw [b64out_make (chunks_in fs hf)]
  obtain ⟨lc, _, e⟩ := b64_chunks fs [] 0 hf hl (by decide)
  unfold b64fold
  rw [e]
  simp [b64tail]
noncomputable def figF (bits pre : List Int) : List Int := 63 :: pre.flatMap (fun k => [62 + bits.getD k.toNat 0, k])
theorem figF_snoc (bits pre : List Int) (k : Int) : figF bits (pre ++ [k]) = figF bits pre ++ [62 + bits.getD k.toNat 0, k] := by simp [figF]
theorem figF_len (bits pre : List Int) : (figF bits pre).length = 1 + 2 * pre.length := by
  unfold figF
  induction pre with
  | nil => rfl
  | cons k r ih => simp only [List.flatMap_cons, List.length_cons, List.length_append, List.length_nil] at ih ⊢; omega
noncomputable def figs (bits : List Int) : List Int := figF bits (rangeKs 0 bits.length) ++ [61, 61, 61]
theorem figs_of (bits : List Int) : figF bits (rangeKs 0 ((bits.length : Int) - 0).toNat) ++ [61, 61, 61] = figs bits := by
  have : ((bits.length : Int) - 0).toNat = bits.length := by omega
  rw [this]
  rfl
theorem figs_len (bits : List Int) : (figs bits).length = 4 + 2 * bits.length := by
  unfold figs
  rw [List.length_append, figF_len, rangeKs_length]
  simp only [List.length_cons, List.length_nil]
  omega
theorem getD01 {bits : List Int} (h01 : ∀ x ∈ bits, x = 0 ∨ x = 1) (j : Nat) : bits.getD j 0 = 0 ∨ bits.getD j 0 = 1 := by
  rw [List.getD_eq_getElem?_getD]
  cases h : bits[j]? with
  | none => exact .inl rfl
  | some x => exact h01 x (List.mem_of_getElem? h)
theorem figs_64 {bits : List Int} (h01 : ∀ x ∈ bits, x = 0 ∨ x = 1) (hn : bits.length ≤ 48) : F64 (figs bits) := by
  intro f hf
  unfold figs figF at hf
  simp only [List.cons_append, List.mem_cons, List.mem_append, List.mem_flatMap, List.not_mem_nil, or_false] at hf
  rcases hf with rfl | ⟨k, hk, hf⟩ | hf
  · decide
  · have hk' := mem_rangeKs hk
    rcases hf with rfl | rfl
    · rcases getD01 h01 k.toNat with e | e <;> rw [e] <;> decide
    · omega
  · rcases hf with rfl | rfl | rfl <;> decide
theorem num6_snoc (pre : List Int) (n : Int) : num6 (pre ++ [n]) = Builtin.bitOr (num6 pre * 2 ^ 6) n := by simp [num6]
theorem num6_word {pre : List Int} {n num : Int} (hn : 0 ≤ n ∧ n < 64) (h : num = num6 pre ∧ 0 ≤ num ∧ num < 64 ^ pre.length) :
    Builtin.bitOr (num * 2 ^ 6) n = num6 (pre ++ [n]) ∧ 0 ≤ Builtin.bitOr (num * 2 ^ 6) n ∧ Builtin.bitOr (num * 2 ^ 6) n < 64 ^ (pre ++ [n]).length := by
  obtain ⟨h1, h2, h3⟩ := h
  rw [num6_snoc, ← h1]
  refine ⟨rfl, ?_⟩
  rw [or_mul 6 h2 hn.1 (by omega), List.length_append, List.length_singleton]
  have e : (64 : Int) ^ (pre.length + 1) = 64 ^ pre.length * 64 := Int.pow_succ _ _
  rw [e]
  generalize hb : (64 : Int) ^ pre.length = b
  rw [hb] at h3
  clear e hb h1
  omega
theorem num6_small {pre : List Int} {num : Int} (hl : pre.length ≤ 4) (h : num = num6 pre ∧ 0 ≤ num ∧ num < 64 ^ pre.length) : num.natAbs < 2 ^ 64 := by
  have e : ∀ l : Nat, l ≤ 4 → (64 : Int) ^ l ≤ 64 ^ 4 := by decide
  have e := e _ hl
  omega
theorem slice4_eq {fs : List Int} {q i : Nat} (hq : fs.length = 4 * q) (hi : i < q) :
    List.take (min (0 + (i : Int) * 4 + 4).toNat fs.length - (0 + (i : Int) * 4).toNat) (List.drop (0 + (i : Int) * 4).toNat fs) = (fs.drop (4 * i)).take 4 := by
  have e1 : (0 + (i : Int) * 4).toNat = 4 * i := by omega
  have e2 : (0 + (i : Int) * 4 + 4).toNat = 4 * i + 4 := by omega
  rw [e1, e2, Nat.min_eq_left (by omega)]
  congr 1
  omega
theorem slice4_len {fs : List Int} {q i : Nat} (hq : fs.length = 4 * q) (hi : i < q) : ((fs.drop (4 * i)).take 4).length = 4 := by
  rw [List.length_take, List.length_drop]
  omega
theorem slice4_64 {fs : List Int} {i : Nat} (h : F64 fs) : F64 ((fs.drop (4 * i)).take 4) := fun f hf => h f (List.mem_of_mem_drop (List.mem_of_mem_take hf))
theorem chunks_state {fs sl oN : List Int} {i q : Nat} {num : Int} (hq : fs.length = 4 * q) (hi : i < q) (hsle : (fs.drop (4 * i)).take 4 = sl) (hP : oN = chunks (fs.take (4 * i))) (e : num = num6 sl) :
    oN ++ [num.fdiv (2 ^ 16), Builtin.bitAnd (num.fdiv (2 ^ 8)) 255, Builtin.bitAnd num 255] = chunks (fs.take (4 * (i + 1))) := by
  rw [chunks_next i fs (by omega), hsle, ← hP, e]
  rfl
/-- the signs in altchars' stead -/
noncomputable def trA (a b x : Int) : Int := if x = 43 then a else if x = 47 then b else x
noncomputable def chA (a b f : Int) : Int := trA a b (b64I.getD f.toNat 0)
theorem trA_in {a b x : Int} (ha : 0 ≤ a ∧ a < 256) (hb : 0 ≤ b ∧ b < 256) (hx : 0 ≤ x ∧ x < 256) : 0 ≤ trA a b x ∧ trA a b x < 256 := by
  unfold trA
  split
  · exact ha
  · split
    · exact hb
    · exact hx
noncomputable def lineI (bits : List Int) : List Int := (figs bits).map (chA 34 39)
theorem chA_in {a b : Int} (ha : 0 ≤ a ∧ a < 256) (hb : 0 ≤ b ∧ b < 256) (f : Int) : 0 ≤ chA a b f ∧ chA a b f < 256 := trA_in ha hb (b64I_in _)
theorem lineI_in (bits : List Int) : ∀ n ∈ lineI bits, 0 ≤ n ∧ n < 256 := by
  intro n hn
  obtain ⟨f, _, rfl⟩ := List.mem_map.mp hn
  exact chA_in (by decide) (by decide) f
theorem lineI_len (bits : List Int) : (lineI bits).length = 4 + 2 * bits.length := by
  unfold lineI
  rw [List.length_map, figs_len]
theorem line_bytes {bits fN oN : List Int} (hfn : fN = figs bits) (h64 : F64 fN) (hl : fN.length % 4 = 0) (hP : oN = chunks fN) :
    (b64out (byteArr oN)).map (trA (((34 : UInt8).toNat : Nat) : Int) (((39 : UInt8).toNat : Nat) : Int)) = lineI bits := by
  rw [hP, b64out_chunks h64 hl, hfn, List.map_map]
  rfl
theorem glue_nil : (Str.ofString "").cps = #[] := by decide +kernel
theorem glued_chars (l : List Nat) : ∀ acc : Array Nat, (l.map fun c => (⟨#[c]⟩ : Str)).foldl (fun acc p => acc ++ (Str.ofString "").cps ++ p.cps) acc = acc ++ l.toArray := by
  induction l with
  | nil => intro acc; simp
  | cons c r ih =>
    intro acc
    rw [List.map_cons, List.foldl_cons, ih, glue_nil]
    simp
theorem join_chars (l : List Nat) : Txt.join "" (l.map fun c => (⟨#[c]⟩ : Str)) = ⟨l.toArray⟩ := by
  cases l with
  | nil => rfl
  | cons c r =>
    unfold Txt.join Builtin.Str.glued
    rw [List.map_cons, List.drop_succ_cons, List.drop_zero, List.headD_cons, glued_chars]
    simp
theorem join_one (x : Str) : Txt.join "" [x] = x := rfl
noncomputable def lineN (bits : List Int) : List Nat := (lineI bits).map Int.toNat
theorem join_line (bits : List Int) : Txt.join "" ((lineI bits).map fun k => (⟨#[k.toNat]⟩ : Str)) = ⟨(lineN bits).toArray⟩ := by
  have := join_chars (lineN bits)
  unfold lineN at this
  rw [List.map_map] at this
  exact this
end Mine
end
section
open PySem PySem.W PyProof.Rows
set_option maxRecDepth 100000
set_option maxHeartbeats 0
namespace Mine
/-! bytes.maketrans of two bytes, and bytes.translate by a table -/
theorem plain_mt : plainId "bytes.maketrans" = true := by decide +kernel
theorem entry_mt : entryFor table "bytes.maketrans" = some Builtin.«bytes.maketrans» := entryFor_of_tree (by kernel_rfl)
theorem check_mt (a b : Value) : checkBuiltinCall "bytes.maketrans" ⟨[a, b], []⟩ = pure () := by kernel_rfl
theorem slot_tr : Slot "bytes" "translate" "bytes.translate" :=
  .of (owner := "bytes") (n := "translate") (by rw [typeLookup_type, builtinLookup_eq_fast]; kernel_rfl) (by decide +kernel) (by decide +kernel) (by decide +kernel)
    (by first | exact .inl (by decide +kernel) | exact .inr (by decide +kernel)) (by rw [isSubtype_type]; kernel_rfl)
theorem type_tr : typeOf (.builtin "bytes.translate") = pure (.type "method_descriptor") := by show builtinType _ = _; rw [builtinType_eq_fast]; kernel_rfl
theorem entry_tr : entryFor table "bytes.translate" = some Builtin.«bytes.translate» := entryFor_of_tree (by kernel_rfl)
theorem args_tr (a b : Value) : argsOk "bytes.translate" ⟨[a, b], []⟩ := by unfold argsOk; kernel_rfl
noncomputable def tab64 (a0 a1 : UInt8) : Array UInt8 := ([(43, a0), (47, a1)] : List (UInt8 × UInt8)).foldl (fun t (f, x) => t.setIfInBounds f.toNat x) ((Array.range 256).map (·.toUInt8))
theorem tab64_size (a0 a1 : UInt8) : (tab64 a0 a1).size = 256 := by simp [tab64]
section
variable {prog : Program} {w : World} {A : Around} {E : Value → Shared → Prop} {s : Shared}
theorem meets_mt (a0 a1 : UInt8) (t u : Tok) : Meets (Builtin.«bytes.maketrans» ⟨[.bytes #[43, 47] t, .bytes #[a0, a1] u], []⟩) (fun _ R s => ∀ t' k, R (.ok (.ret (.bytes (tab64 a0 a1) t'))) { s with toks := k }) := by
  refine .of_wp fun prog w A R s h => ?_
  unfold Builtin.«bytes.maketrans» Builtin.Bytes.maketransM
  refine wpAny_bind (wpAny_of_eq (a := ()) rfl ?_)
  refine wpAny_bind (wpAny_of_eq (a := ()) (by kernel_rfl) ?_)
  refine wpAny_bind (wpAny_of_eq (KBd.like_eq (b := #[43, 47]) (t := t)) ?_)
  refine wpAny_bind (wpAny_of_eq (KBd.like_eq (b := #[a0, a1]) (t := u)) ?_)
  refine KFB.if_not rfl ?_
  refine wpAny_bind ?_
  refine wpAny_mkBytes (wpAny_pure ⟨_, rfl, h _ _⟩) ?_
  show (tab64 a0 a1).size ≤ sizeLine
  rw [tab64_size, sizeLine_eq]
  decide
theorem call_mt {a0 a1 : UInt8} {t u : Tok} {Q : Value → Shared → Prop} (h : ∀ t' k, Q (.bytes (tab64 a0 a1) t') { s with toks := k }) :
    wpAny (model prog w) A (call (.builtin "bytes.maketrans") [.bytes #[43, 47] t, .bytes #[a0, a1] u]) Q E s := by
  refine wpAny_call (codeAny_call_builtin plain_mt entry_mt ?_)
  exact wpAny_of_eq (check_mt _ _) (meets_mt a0 a1 t u prog w A (wants Q E) s h)
noncomputable def trB (a0 a1 c : UInt8) : UInt8 := (tab64 a0 a1).getD c.toNat c
theorem meets_tr (b T : Array UInt8) (hT : T.size = 256) (t u : Tok) : Meets (Builtin.«bytes.translate» ⟨[.bytes b t, .bytes T u], []⟩) (fun _ R s => b.size ≤ sizeLine ∧ ∀ t' k, R (.ok (.ret (.bytes (b.map (fun c => T.getD c.toNat c)) t'))) { s with toks := k }) := by
  refine .of_wp fun prog w A R s hS => ?_
  obtain ⟨hsz, h⟩ := hS
  unfold Builtin.«bytes.translate» Builtin.Bytes.translateM
  have e : (b.filter (fun c => !(#[] : Array UInt8).contains c)).map (fun c => T.getD c.toNat c) = b.map (fun c => T.getD c.toNat c) := by
    have : (b.filter (fun c => !(#[] : Array UInt8).contains c)) = b := by simp
    rw [this]
  dsimp only
  rw [if_neg (by simp)]
  refine KFB.if_not rfl ?_
  refine KFB.if_not rfl ?_
  refine wpAny_bind (wpAny_of_eq KBd.like_eq ?_)
  refine KFB.if_not (by rw [hT]; rfl) ?_
  refine wpAny_bind (wpAny_pure ?_)
  refine wpAny_bind (wpAny_pure ?_)
  refine wpAny_bind (wpAny_of_eq (a := b) rfl ?_)
  show wpAny _ _ (if ((b.filter (fun c => !(#[] : Array UInt8).contains c)).map (fun c => T.getD c.toNat c) == b) = true then _ else (Builtin.Bytes.Kind.bytes.new ((b.filter (fun c => !(#[] : Array UInt8).contains c)).map (fun c => T.getD c.toNat c)) >>= _)) _ _ _
  rw [e]
  by_cases hb : (b.map (fun c => T.getD c.toNat c) == b) = true
  · refine KFB.if_so hb ?_
    have e2 : b.map (fun c => T.getD c.toNat c) = b := eq_of_beq hb
    rw [e2] at h
    refine wpAny_bind (wpAny_rule ?_)
    refine wpAny_bind (wpAny_of_eq (a := .bytes b t) ?_ ?_)
    · rfl
    · exact wpAny_pure ⟨_, rfl, h _ _⟩
  · refine KFB.if_not (Bool.eq_false_iff.mpr hb) ?_
    refine wpAny_bind ?_
    refine wpAny_mkBytes (wpAny_pure ⟨_, rfl, h _ _⟩) (by rw [Array.size_map]; exact hsz)
theorem call_tr {b : Array UInt8} {a0 a1 : UInt8} {t u : Tok} {Q : Value → Shared → Prop} (hsz : b.size ≤ 16777216) (h : ∀ t' k, Q (.bytes (b.map (trB a0 a1)) t') { s with toks := k }) :
    wpAny (model prog w) A (call (.builtin "bytes.translate") [.bytes b t, .bytes (tab64 a0 a1) u]) Q E s :=
  call_meets slot_tr (typeIs_bytes _ _ _) entry_tr (args_tr _ _) (meets_tr b (tab64 a0 a1) (tab64_size a0 a1) t u) ⟨by rw [sizeLine_eq]; exact hsz, h⟩
theorem method_tr {M : Model} {b : Array UInt8} {t : Tok} {pl : Sem Bool} {Q : Value × List Value → Shared → Prop} (h : Q (.builtin "bytes.translate", [.bytes b t]) s) : wpAny M A (getMethod (.bytes b t) "translate" pl) Q E s := by
  with_reducible exact KBd.method_of (.bytes b t) (typeIs_bytes _ _ _) slot_tr type_tr KBd.noRef h
end
theorem trB_of (a0 a1 : UInt8) : ∀ n : Nat, n < 256 → trB a0 a1 n.toUInt8 = (trA (a0.toNat : Int) (a1.toNat : Int) (n : Int)).toNat.toUInt8 := by
  intro n hn
  have hc : (n.toUInt8).toNat = n := by
    show (UInt8.ofNat n).toNat = n
    rw [UInt8.toNat_ofNat']
    omega
  unfold trB trA tab64
  rw [hc]
  simp only [List.foldl_cons, List.foldl_nil]
  rw [show (43 : UInt8).toNat = 43 from rfl, show (47 : UInt8).toNat = 47 from rfl]
  by_cases h1 : n = 43
  · subst h1
    simp
  by_cases h2 : n = 47
  · subst h2
    simp
  · have i1 : ¬ ((n : Int) = 43) := by omega
    have i2 : ¬ ((n : Int) = 47) := by omega
    rw [if_neg i1, if_neg i2]
    have h1' : ¬ 43 = n := fun e => h1 e.symm
    have h2' : ¬ 47 = n := fun e => h2 e.symm
    simp [Array.getD_eq_getD_getElem?, Array.getElem?_setIfInBounds, h1', h2', hn]
theorem tr_make {a0 a1 : UInt8} {ns : List Int} (h : ∀ n ∈ ns, 0 ≤ n ∧ n < 256) : (byteArr ns).map (trB a0 a1) = byteArr (ns.map (trA (a0.toNat : Int) (a1.toNat : Int))) := by
  unfold byteArr
  rw [List.map_toArray, List.map_map, List.map_map]
  congr 1
  refine List.map_congr_left fun n hn => ?_
  have hb := h n hn
  have e := trB_of a0 a1 n.toNat (by omega)
  rw [Int.toNat_of_nonneg hb.1] at e
  exact e
theorem b64out_in (b : Array UInt8) : ∀ n ∈ b64out b, 0 ≤ n ∧ n < 256 := by
  unfold b64out b64tail
  have h := b64fold_in (List.map (fun c => ((UInt8.toNat c : Nat) : Int)) b.toList)
  split
  · exact h
  · split
    · exact in_snoc (in_snoc (in_snoc h (b64I_in _)) (by decide)) (by decide)
    · exact in_snoc (in_snoc h (b64I_in _)) (by decide)
theorem b64out_len (b : Array UInt8) : (b64out b).length ≤ 2 * b.toList.length + 3 := by
  unfold b64out b64tail
  have h := b64fold_len (List.map (fun c => ((UInt8.toNat c : Nat) : Int)) b.toList)
  rw [List.length_map] at h
  split
  · omega
  · split <;> simp only [List.length_append, List.length_cons, List.length_nil] <;> omega
end Mine
end
section
open PySem PySem.W PyProof.Rows PyProof.V PySem.Spec PySem.Calls
set_option maxRecDepth 100000
set_option maxHeartbeats 0
namespace Mine
/-! small rules for lists that stand on a ledger of unknown length -/
section
variable {prog : Program} {w : World} {A : Around} {E : Value → Shared → Prop} {s : Shared} {h₀ : Heap} {L l : Addr} {news : List (Addr × Obj)}
theorem item_lst {value slice : PySem.Expr} {vs : List Value} {ns : List Int} {n : Nat} {k : Int} {u : Tok} {Q : Value → Shared → Prop} (N : News h₀ L s.heap news) (hm : (l, listOf vs.toArray n) ∈ news) (hi : IntsAre vs ns)
    (h0 : 0 ≤ k) (h1 : k < ns.length) (hfit : ns.length < 2 ^ 63) (h : ∀ t, Q (.int (ns.getD k.toNat 0) t) s)
    (hs : subscripted slice false (.ref l) (.int k u) = operate [.ref l, .int k u] (getItem (.ref l) (.int k u)) := by with_unfolding_all rfl) :
    wpAny (model prog w) A (subscriptTail value slice (.ref l) (.int k u)) Q E s := by
  have hl : s.heap.IsList l vs.toArray := ⟨_, (N _ hm).1, rfl, n, rfl⟩
  obtain ⟨t, hx⟩ := hi.get k.toNat _ (ints_getD h0 h1)
  exact tail_any hl.typeIs slot_list_getitem.lookup (wpAny_getItem_list hl h0 (by omega) (by simpa using hx) (h t)) hs
theorem item_lstV {value slice : PySem.Expr} {vs : List Value} {ns : List Int} {n : Nat} {k v : Int} {u : Tok} {Q : Value → Shared → Prop} (N : News h₀ L s.heap news) (hm : (l, listOf vs.toArray n) ∈ news) (hi : IntsAre vs ns)
    (h0 : 0 ≤ k) (h1 : k < ns.length) (hfit : ns.length < 2 ^ 63) (hv : ns.getD k.toNat 0 = v) (h : ∀ t, Q (.int v t) s)
    (hs : subscripted slice false (.ref l) (.int k u) = operate [.ref l, .int k u] (getItem (.ref l) (.int k u)) := by with_unfolding_all rfl) :
    wpAny (model prog w) A (subscriptTail value slice (.ref l) (.int k u)) Q E s :=
  item_lst N hm hi h0 h1 hfit (fun t => by rw [hv]; exact h t) hs
theorem item_strV {value slice : PySem.Expr} {x v : Str} {t u : Tok} {n : Nat} {i : Int} {Q : Value → Shared → Prop} (hk : x.length = n) (h0 : 0 ≤ i) (h1 : i < (n : Int)) (hn : n ≤ 16777216) (hv : Txt.item x i = v) (h : ∀ t', Q (.str v t') { s with toks := s.toks + 1 })
    (hs : subscripted slice false (.str x t) (.int i u) = operate [.str x t, .int i u] (getItem (.str x t) (.int i u)) := by with_unfolding_all rfl)
    (ht : ∀ r, letTemporaryGo value (.str x t) r = pure () := by intro _; with_unfolding_all rfl) :
    wpAny (model prog w) A (subscriptTail value slice (.str x t) (.int i u)) Q E s :=
  KXi.item hk (by omega) h1 hn (fun _ => by rw [hv]; exact h _) hs ht
theorem join_lone {x : Str} {t u : Tok} {S : Addr} {c : Nat} {Q : Value → Shared → Prop} (N : News h₀ L s.heap news) (hm : (S, listOf #[.str x u] c) ∈ news) (hx : x.length ≤ 1000000) (h : Q (.str x u) s) :
    wpAny (model prog w) A (call (.builtin "str.join") [.str (Str.ofString "") t, .ref S]) Q E s := by
  have hl : s.heap.IsList S (PySem.strValues [(x, u)]).toArray := ⟨_, (N _ hm).1, rfl, c, rfl⟩
  refine call_meets PySem.F.slot_str_join (typeIs_str _ _ _) PySem.F.entry_str_join (PySem.F.args_str_join_2 _ _) (meets_str_join_list (Str.ofString "") t S [(x, u)] ?_) ⟨hl, ?_⟩
  · show Builtin.Str.tooLong (0 + x.length + (Str.ofString "").length) = false
    have z : (Str.ofString "").length = 0 := by decide
    rw [z]
    unfold Builtin.Str.tooLong
    rw [sizeLine_eq]
    exact decide_eq_false (by omega)
  · exact h
theorem ext_lst {D b : Addr} {m : Str → Option Value} {news' : List (Addr × Obj)} {vs1 ys : List Value} {n n2 : Nat} {Q : Value → Shared → Prop} (F : Fr h₀ L s.heap m) (N : News h₀ L s.heap news) (hb : (b, listOf ys.toArray n2) ∈ news) (hne : ys.length ≠ 0)
    (U : Upd D (listOf vs1.toArray n) (listOf (vs1 ++ ys).toArray (n + 1)) news news') (hz : vs1.length + ys.length ≤ 1000000)
    (h : ∀ h', Fr h₀ L h' m → News h₀ L h' news' → Q .none { s with heap := h' }) : wpAny (model prog w) A (call (.builtin "list.extend") [.ref D, .ref b]) Q E s :=
  kl_extend F N hb (by simp) (by simpa using hne) U (extend_door (by rw [List.size_toArray, List.size_toArray, sizeLine_eq]; omega)) (by rw [sizeLine_eq]; simp; omega) (by rw [List.size_toArray, List.size_toArray, sizeLine_eq]; omega) h
end
theorem news_14 {h₀ h : Heap} {L : Addr} {a b c d : Addr × Obj} {r : List (Addr × Obj)} (N : News h₀ L h (a :: b :: c :: d :: r)) : News h₀ L h (a :: d :: r) := fun p hp => N p (by
  simp only [List.mem_cons] at hp ⊢
  rcases hp with hp | hp | hp <;> simp [hp])
theorem news_dup {h₀ h : Heap} {L : Addr} {a : Addr × Obj} {r : List (Addr × Obj)} (N : News h₀ L h r) (hm : a ∈ r) : News h₀ L h (a :: r) := fun p hp => N p (by
  rcases List.mem_cons.mp hp with rfl | hp
  · exact hm
  · exact hp)
theorem rangeSize_four (q : Nat) : Builtin.Range.rangeSize 0 ((4 * q : Nat) : Int) 4 = (q : Int) := by
  unfold Builtin.Range.rangeSize
  rw [if_pos (by decide)]
  split <;> omega
theorem fits_long {i : Int} (h0 : 0 ≤ i) (h1 : i < 1000000) : Builtin.Range.rangeFitsLong i = true := by
  unfold Builtin.Range.rangeFitsLong
  rw [decide_eq_true (show -2 ^ 63 ≤ i by omega), decide_eq_true (show i < 2 ^ 63 by omega)]
  rfl
theorem small_four {q : Nat} (hq : q < 100000) : Builtin.Range.small 0 ((4 * q : Nat) : Int) 4 = true := by
  unfold Builtin.Range.small
  rw [rangeSize_four, fits_long (by omega) (by omega), fits_long (by omega) (by omega), fits_long (by omega) (by omega), fits_long (by omega) (by omega), if_pos (by decide), fits_long (by omega) (by omega), Bool.or_true]
  rfl
/-! a for over a range of any step, by a state -/
section
variable {prog : Program} {w : World} {A : Around} {E : Value → Shared → Prop} {s : Shared} {env : Env} {h₀ : Heap} {x : Str} {body : List Stmt} {Q : Flow → Shared → Prop}
theorem ksr_range {σ : Type} {r : Addr} {a₀ b₀ st : Int} {t₀ u₀ v₀ : Tok} {n : Nat} {m₀ : Str → Option Value} (Led : σ → List (Addr × Obj)) (ps : σ → List (Str × Value)) (Facts : σ → Prop) (stored : List Str) (P : Nat → σ → Prop) (c₀ : σ)
    (hh : A.handled = none) (hr : IsRange s.heap r a₀ b₀ st t₀ u₀ v₀) (hsmall : Builtin.Range.small a₀ b₀ st = true) (hn : Builtin.Range.rangeSize a₀ b₀ st = (n : Int)) (F : Fr h₀ env.locals s.heap m₀) (N : News h₀ env.locals s.heap (Led c₀)) (hf : Facts c₀) (hk : ∀ p ∈ ps c₀, m₀ p.1 = some p.2) (hp : P 0 c₀)
    (turn : ∀ (c : σ) (i : Nat) t (u : Str → Option Value) h tk own, i < n → OwnOff own ((Led c₀).map (·.1)) → Facts c → P i c →
      Fr h₀ env.locals h (fun y => if y = x then some (.int (a₀ + (i : Int) * st) t) else kstB (fun z => if stored.contains z then u z else m₀ z) (ps c) y) → News h₀ env.locals h (Led c ++ own) →
      wpAny (model prog w) A (execs body env) (InvPostN h₀ env.locals (KstS Led ps Facts x stored m₀ (fun _ => P (i + 1)) []) own ((Led c₀).map (·.1)) { s with heap := h, toks := tk } Q) E { s with heap := h, toks := tk })
    (done : ∀ (c : σ) (u : Str → Option Value) h tk, Facts c → P n c → Fr h₀ env.locals h (fun y => if y = x then u y else kstB (fun z => if stored.contains z then u z else m₀ z) (ps c) y) → News h₀ env.locals h (Led c) → Q .next { s with heap := h, toks := tk }) :
    wpAny (model prog w) A (pyIter (.ref r)) (fun it s₂ => LoopAtV prog w A h₀ env x body Q E it s₂) E s := by
  refine wpAny_pyIter_range hr hsmall ?_
  have W : Walks prog w A s.heap.objs.size [s.heap.objs.size] [s.heap.objs.size] n (fun i v => i < n ∧ ∃ t, v = .int (a₀ + i * st) t)
      (fun i h => IsRangeIter h s.heap.objs.size (a₀ + (i : Nat) * st) ((n : Int) - (i : Nat)) st) := (Walks.range hh _ a₀ st n).bound
  refine loop_invN (fun i m nx => KstS Led ps Facts x stored m₀ (fun _ => P i) [] m nx) W ?_ ?_ ?_ ?_ (by show IsRangeIter _ _ _ _ _; rw [hn]; simpa using Heap.get?_push_size _ rfl) (F.push _) (fun p hp => ⟨Heap.get?_push_of_some _ (N p hp).1, (N p hp).2⟩) ⟨c₀, rfl, hf, hk, fun _ _ _ _ => rfl, hp⟩ ?_ ?_
  · intro hm
    exact absurd F.ns.lt ((List.mem_singleton.mp hm) ▸ Nat.lt_irrefl _)
  · intro b hb
    rw [List.mem_singleton.mp hb]
    exact next_is_new F
  · intro p hp hI
    exact absurd (Heap.lt_size (N p hp).1) ((List.mem_singleton.mp hI) ▸ Nat.lt_irrefl _)
  · intro p hp hI
    exact absurd (Heap.lt_size (N p hp).1) ((List.mem_singleton.mp hI) ▸ Nat.lt_irrefl _)
  · rintro i v m₁ nx h tk own hi ⟨_, t, rfl⟩ _ hoff ⟨c, rfl, hf', h1, h2, hp'⟩ F₁ N₁
    exact turn c i t m₁ h tk own hi hoff hf' hp' (kst_fr h1 h2 F₁) N₁
  · rintro m₁ nx h tk ⟨c, rfl, hf', h1, h2, hp'⟩ F₁ N₁
    exact done c m₁ h tk hf' hp' (kst_frOut h1 h2 F₁) N₁
end
end Mine
end
section
open PySem PySem.Spec PySem.Calls PySem.W PyProof.Rows PyProof.Rows.LCg
set_option maxRecDepth 100000
set_option maxHeartbeats 0
namespace Mine
/-! a list comprehension over bytes -/
noncomputable def SrcB (prog : Program) (w : World) (A : Around) (h₀ : Heap) (L : Addr) (m : Str → Option Value) (env : Env) (elt : Expr) (x : Str) (scope : Scope) (cl : List (Str × Addr)) (Fin : Shared → List Value → List (Addr × Obj) → Prop) (xv : Value) (s₁ : Shared) : Prop :=
  ∃ b t news, xv = .bytes b t ∧ A.handled = none ∧ Fr h₀ L s₁.heap m ∧ News h₀ L s₁.heap news ∧ b.size ≤ sizeLine ∧
    ∀ g, CompRest prog w A h₀ L m env elt x scope cl { s₁ with heap := g } (fun _ => True) (fun i v => ∃ c u, b[i]? = some c ∧ v = .int ((UInt8.toNat c : Nat) : Int) u) (Fin { s₁ with heap := g }) b.size 0 [] news
section
variable {prog : Program} {w : World} {A : Around} {E : Value → Shared → Prop} {s : Shared} {h₀ : Heap} {L : Addr} {m : Str → Option Value} {env : Env}
theorem bytes_st {b : Array UInt8} {t : Tok} {I : Addr} : ∀ i (h h' : Heap) (o : Obj) (nw : List (Addr × Obj)), KBw.IsBytesIter h I b t i → h.get? I = some o → h'.get? I = some o → (∀ b o, h₀.get? b = some o → h'.get? b = some o) → News h₀ L h' nw → True → KBw.IsBytesIter h' I b t i :=
  fun i h h' o nw st e e' _ _ _ => by
    obtain ⟨o', q, r⟩ := st
    rw [e] at q
    cases q
    exact ⟨o, e', r⟩
theorem ListComp_B {elt iter : Expr} {x : Str} {px : Pos} {scope : Scope} {cl : List (Str × Addr)} {pos : Pos} {Q : Value → Shared → Prop} (_F₀ : Fr h₀ L s.heap m)
    (hclos : closureFor scope env = pure cl) (hcell : ∀ y ∈ scope.names, y.2 ≠ .cell) (hkind : scope.kind = .function)
    (hnames : ∀ y ∈ scope.names, y.2 = .local → scope.names.lookup y.1 = some .local) (hx : scope.names.lookup x = some .local)
    (h : wpAny (model prog w) A (eval iter env) (SrcB prog w A h₀ L m env elt x scope cl (fun s₂ => FinE h₀ L m s₂ Q)) E s)
    (hs : ∀ x, foldedSetIterable iter env x = pure x := by intro _; rfl) :
    wpAny (model prog w) A (eval (.ListComp elt [⟨.Name x px, iter, [], 0⟩] scope pos) env) Q E s := by
  rw [eval_ListComp]
  refine wpAny_comprehension_free (use := none) rfl hs hclos hkind hnames (wpAny_mono h (fun xv s₁ h₁ => ?_) fun _ _ e => e)
  obtain ⟨b, t, news, rfl, hh, F, N, hsz, R⟩ := h₁
  refine KBw.pyIter_bytes ?_
  have up : ∀ a o, s₁.heap.get? a = some o → (s₁.heap.push { cls := .type "bytes_iterator", data := .fields #[.bytes b t, .int 0 0] }).get? a = some o := fun a o e => Heap.get?_push_of_some _ e
  refine block_U (KBw.walks hh s₁.heap.objs.size b t) hsz (fun i h st => by obtain ⟨o, e, _⟩ := st; exact ⟨o, e⟩) bytes_st hcell hkind hx ⟨_, Heap.get?_push_size _ rfl, rfl, rfl⟩ (fun a ha => ?_)
    (F.keeps up) (N.grown up) (Nat.ne_of_lt F.ns.lt) (next_is_new F) (fun p hp => Nat.ne_of_lt (Heap.lt_size (N p hp).1)) trivial (R _) ?_
  · rw [List.mem_singleton.mp ha]
    show s₁.heap.objs.size < (s₁.heap.push _).objs.size
    rw [Heap.size_push]; exact Nat.lt_succ_self _
  · intro D C h tk m' ys news' F' N' o1 hn hC₀ hD₀ hCL hDL hCD offC fin
    refine ⟨m', hn, fun h'' hs'' => fin D h'' tk (F'.change hs'' hCL hC₀) (fun p hp => ?_) o1⟩
    refine ⟨hs''.extBut _ _ ?_ (N' p hp).1, (N' p hp).2⟩
    rcases List.mem_cons.mp hp with rfl | hp
    · exact Ne.symm hCD
    · exact offC p hp
theorem Assign_ListComp_B {elt iter : Expr} {x y : Str} {px py : Pos} {scope : Scope} {cl : List (Str × Addr)} {pos spos : Pos} {Q : Flow → Shared → Prop} (_F₀ : Fr h₀ L s.heap m) (hLe : env.locals = L)
    (hsw : swapsWith (.ListComp elt [⟨.Name x px, iter, [], 0⟩] scope pos) (some (.Name y py)) spos.line env = pure true)
    (hclos : closureFor scope env = pure cl) (hcell : ∀ z ∈ scope.names, z.2 ≠ .cell) (hkind : scope.kind = .function)
    (hnames : ∀ z ∈ scope.names, z.2 = .local → scope.names.lookup z.1 = some .local) (hx : scope.names.lookup x = some .local)
    (hy : env.kindOf y = some .local) (hp : (env.scope.kind == .class || (env.scope.kind == .module && env.locals != env.globals)) = false)
    (h : wpAny (model prog w) A (eval iter env) (SrcB prog w A h₀ L m env elt x scope cl (fun s₂ => FinA h₀ L m s₂ y Q)) E s)
    (hs : ∀ x, foldedSetIterable iter env x = pure x := by intro _; rfl) :
    wpAny (model prog w) A (exec (.Assign [.Name y py] (.ListComp elt [⟨.Name x px, iter, [], 0⟩] scope pos) spos) env) Q E s := by
  subst hLe
  rw [exec_Assign_Name_used _ _ _ _ hsw]
  refine wpAny_bind (wpAny_standAt (wpAny_bind ?_))
  show wpAny _ A (do let _ ← comprehension (.ListComp elt [⟨.Name x px, iter, [], 0⟩] scope pos) scope env _ (newList []) false (eval iter env) (some (assign (.Name y py) env))) _ _ s
  refine wpAny_bind (wpAny_mono (wpAny_comprehension_free (use := some (assign (.Name y py) env)) (Q := fun _ s' => Q .next s') rfl hs hclos hkind hnames
    (wpAny_mono h (fun xv s₁ h₁ => ?_) fun _ _ e => e)) (fun _ s' hq => wpAny_pure (wpAny_pure hq)) fun _ _ e => e)
  obtain ⟨b, t, news, rfl, hh, F, N, hsz, R⟩ := h₁
  refine KBw.pyIter_bytes ?_
  have up : ∀ a o, s₁.heap.get? a = some o → (s₁.heap.push { cls := .type "bytes_iterator", data := .fields #[.bytes b t, .int 0 0] }).get? a = some o := fun a o e => Heap.get?_push_of_some _ e
  refine block_U (KBw.walks hh s₁.heap.objs.size b t) hsz (fun i h st => by obtain ⟨o, e, _⟩ := st; exact ⟨o, e⟩) bytes_st hcell hkind hx ⟨_, Heap.get?_push_size _ rfl, rfl, rfl⟩ (fun a ha => ?_)
    (F.keeps up) (N.grown up) (Nat.ne_of_lt F.ns.lt) (next_is_new F) (fun p hp => Nat.ne_of_lt (Heap.lt_size (N p hp).1)) trivial (R _) ?_
  · rw [List.mem_singleton.mp ha]
    show s₁.heap.objs.size < (s₁.heap.push _).objs.size
    rw [Heap.size_push]; exact Nat.lt_succ_self _
  · intro D C h' tk m' ys news' F' N' o1 hn hC₀ hD₀ hCL hDL hCD offC fin
    show wpAny _ A (assign (.Name y py) env (.ref D)) _ _ _
    refine wpAny_assign_Name (wpAny_storeName_local hy F'.ns (fun h₂ hn₂ hs₂ => ?_) hp)
    have hL₀ : h₀.get? env.locals = none := Heap.get?_none_of_le F'.above
    have F₂ : Fr h₀ env.locals h₂ (fun z => if z = y then some (.ref D) else m z) := ⟨hn₂, fun b o e => hs₂.extBut b o (fun q => by rw [q, hL₀] at e; cases e) (F'.keep b o e), F'.above⟩
    refine ⟨m', hn.sameBut hs₂ hCL, fun h'' hs'' => fin D h'' _ (F₂.change hs'' hCL hC₀) (fun p hp => ?_) o1⟩
    have z : h₂.get? p.1 = some p.2 := hs₂.extBut _ _ (N' p hp).2.1 (N' p hp).1
    refine ⟨hs''.extBut _ _ ?_ z, (N' p hp).2⟩
    rcases List.mem_cons.mp hp with rfl | hp
    · exact Ne.symm hCD
    · exact offC p hp
theorem SrcB.mk {elt : Expr} {x : Str} {scope : Scope} {cl : List (Str × Addr)} {Fin : Shared → List Value → List (Addr × Obj) → Prop} {b : Array UInt8} {t : Tok} {news : List (Addr × Obj)} {s₁ : Shared} {ks : List Int} (g : Int → Str)
    (hh : A.handled = none) (F : Fr h₀ L s₁.heap m) (N : News h₀ L s₁.heap news) (hk : KBw.bInts b = ks) (hsz : ks.length ≤ 16777216)
    (turn : ∀ hp k t I oI C oC D m₂ ys h tk (E' : Value → Shared → Prop), k ∈ ks → NsObj oC m₂ → m₂ x = some (.int k t) → Fr h₀ L h m → News h₀ L h ((I, oI) :: (C, oC) :: (D, lst ys) :: news) → Off3 I C D news → ((@Ne Nat I C) ∧ (@Ne Nat I D) ∧ (@Ne Nat C D)) → KPfMark →
      wpAny (model prog w) A (eval elt (compEnvC scope cl C env)) (CompEnd h₀ L m { { s₁ with heap := hp } with heap := h, toks := tk } I oI C oC D (lst ys) (fun _ => True) (fun y news' => KCtEl news (g k) y news')) E' { { s₁ with heap := hp } with heap := h, toks := tk })
    (fin : ∀ hp ys, CarriedAll ys (ks.map fun k => PyData.str (g k)) → Fin { s₁ with heap := hp } ys news) : SrcB prog w A h₀ L m env elt x scope cl Fin (.bytes b t) s₁ := by
  have hl : ks.length = b.size := by rw [← hk, KBw.ints_length]
  refine ⟨b, t, news, rfl, hh, F, N, by rw [← hl, sizeLine_eq]; exact hsz, fun hp => ?_⟩
  refine kct_rest (ks := ks) g hl (fun i v hi hv => ?_) (turn hp) (fun ys hc _ => fin hp ys hc)
  obtain ⟨c, u, hc, rfl⟩ := hv
  refine ⟨_, u, ?_, rfl⟩
  rw [← hk]
  exact KBw.ints_get hc
theorem srcI_mk {elt : Expr} {x : Str} {scope : Scope} {cl : List (Str × Addr)} {Fin : Shared → List Value → List (Addr × Obj) → Prop} {ax : Addr} {vs : List Value} {cnt : Nat} {news : List (Addr × Obj)} {s₁ : Shared} {ns : List Int} (g : Int → Int)
    (hh : A.handled = none) (F : Fr h₀ L s₁.heap m) (N : News h₀ L s₁.heap news) (hm : (ax, W.listOf vs.toArray cnt) ∈ news) (hi : IntsAre vs ns) (hsz : ns.length ≤ 1000)
    (turn : ∀ hp k t I oI C oC D m₂ ys h tk (E' : Value → Shared → Prop), k ∈ ns → NsObj oC m₂ → m₂ x = some (.int k t) → Fr h₀ L h m → News h₀ L h ((I, oI) :: (C, oC) :: (D, lst ys) :: news) → Off3 I C D news → ((@Ne Nat I C) ∧ (@Ne Nat I D) ∧ (@Ne Nat C D)) →
      wpAny (model prog w) A (eval elt (compEnvC scope cl C env)) (CompEnd h₀ L m { { s₁ with heap := hp } with heap := h, toks := tk } I oI C oC D (lst ys) (SrcAt h₀ ax vs.toArray) (fun y news' => KCfEl news (g k) y news')) E' { { s₁ with heap := hp } with heap := h, toks := tk })
    (fin : ∀ hp ys, IntsAre ys (ns.map g) → Fin { s₁ with heap := hp } ys news) : CompSrc prog w A h₀ L m env elt x scope cl Fin (.ref ax) s₁ := by
  refine CompSrc.ledger hh F N hm (by rw [List.size_toArray, hi.length, sizeLine_eq]; omega) fun hp => ?_
  exact kcf_list g hi (fun k t I oI C oC D m₂ ys h tk E' hk hC hx F' N' off ne _ => turn hp k t I oI C oC D m₂ ys h tk E' hk hC hx F' N' off ne) (fun ys hc => fin hp ys hc)
end
/-! a comprehension over a list of texts, with a test, whose element is an int -/
section
variable {prog : Program} {w : World} {A : Around} {s : Shared} {h₀ : Heap} {L : Addr} {m : Str → Option Value} {env : Env} {ct elt : Expr} {x : Str} {scope : Scope} {cl : List (Str × Addr)} {S : List (Addr × Obj) → Prop} {P : Nat → Value → Prop} {Fin : List Value → List (Addr × Obj) → Prop} {news : List (Addr × Obj)}
noncomputable def TestAt (prog : Program) (w : World) (A : Around) (h₀ : Heap) (L : Addr) (m : Str → Option Value) (env : Env) (ct elt : Expr) (x : Str) (scope : Scope) (cl : List (Str × Addr)) (s : Shared) (S : List (Addr × Obj) → Prop) (news : List (Addr × Obj)) (us : List Str) (keep : Str → Bool) (f : Str → Int) : Prop :=
  ∀ u t I oI C oC D m₂ ys h tk (E' : Value → Shared → Prop), u ∈ us → NsObj oC m₂ → m₂ x = some (.str u t) → Fr h₀ L h m → News h₀ L h ((I, oI) :: (C, oC) :: (D, lst ys) :: news) → Off3 I C D news →
    wpAny (model prog w) A (isTrue ct (compEnvC scope cl C env) (eval ct (compEnvC scope cl C env))) (fun ok s' => if ok = true then
      wpAny (model prog w) A (eval elt (compEnvC scope cl C env)) (CompEnd h₀ L m { s with heap := h, toks := tk } I oI C oC D (lst ys) S (fun y news' => news' = news ∧ keep u = true ∧ ∃ t, y = .int (f u) t)) E' s'
      else CompEnd h₀ L m { s with heap := h, toks := tk } I oI C oC D (lst ys) S (fun _ news' => news' = news ∧ keep u = false) Value.none s') E' { s with heap := h, toks := tk }
theorem CompEnd.imp {s₁ : Shared} {I C D : Addr} {oI oC oD : Obj} {rest rest' : Value → List (Addr × Obj) → Prop} {y : Value} {s₂ : Shared} (h : CompEnd h₀ L m s₁ I oI C oC D oD S rest y s₂) (k : ∀ n, rest y n → rest' y n) : CompEnd h₀ L m s₁ I oI C oC D oD S rest' y s₂ := by
  obtain ⟨h', tk, news', e, F, N, o, hS, r⟩ := h
  exact ⟨h', tk, news', e, F, N, o, hS, k _ r⟩
theorem cmt_rest {n : Nat} {us : List Str} (keep : Str → Bool) (f : Str → Int) (hus : us.length = n) (hP : ∀ i v, i < n → P i v → ∃ u t, us[i]? = some u ∧ v = .str u t)
    (turn : TestAt prog w A h₀ L m env ct elt x scope cl s S news us keep f)
    (fin : ∀ ys, IntsAre ys ((us.filter keep).map f) → Fin ys news) : LCt.CompRestT prog w A h₀ L m env ct elt x scope cl s S P Fin n 0 [] news := by
  have key : ∀ (j i : Nat) (ys : List Value), i + j = n → IntsAre ys (((us.take i).filter keep).map f) → LCt.CompRestT prog w A h₀ L m env ct elt x scope cl s S P Fin j i ys news := by
    intro j
    induction j with
    | zero =>
      intro i ys hi hy
      have e : i = us.length := by omega
      subst e
      rw [List.take_length] at hy
      exact LCt.CompRestT.zero (fin ys hy)
    | succ j ih =>
      intro i ys hi hy
      refine LCt.CompRestT.succ ?_
      intro v I oI C oC D m₂ h tk E' hv hC hx F N off _
      obtain ⟨u, t, hu, rfl⟩ := hP i v (by omega) hv
      have et : us.take (i + 1) = us.take i ++ [u] := by rw [List.take_add_one, hu]; rfl
      refine wpAny_mono (turn u t I oI C oC D m₂ ys h tk E' (List.mem_of_getElem? hu) hC hx F N off) (fun ok s₂ hq => ?_) fun _ _ e => e
      cases ok with
      | true =>
        rw [if_pos rfl] at hq ⊢
        refine wpAny_mono hq (fun y s₃ he => ?_) fun _ _ e => e
        refine CompEnd.imp he fun nn hn => ?_
        obtain ⟨rfl, hk, t', rfl⟩ := hn
        refine ih (i + 1) _ (by omega) ?_
        rw [et, List.filter_append, List.filter_cons_of_pos hk, List.filter_nil, List.map_append]
        exact IntsAre.append hy (.cons _ _ .nil)
      | false =>
        rw [if_neg (by decide)] at hq ⊢
        refine CompEnd.imp hq fun nn hn => ?_
        obtain ⟨rfl, hk⟩ := hn
        refine ih (i + 1) _ (by omega) ?_
        rw [et, List.filter_append, List.filter_cons_of_neg (by rw [hk]; decide), List.filter_nil, List.append_nil]
        exact hy
  exact key n 0 [] (by omega) (by simpa using IntsAre.nil)
theorem srcT_mk {Fin : Shared → List Value → List (Addr × Obj) → Prop} {ax : Addr} {vs : List Value} {cnt : Nat} {s₁ : Shared} {us : List Str} (keep : Str → Bool) (f : Str → Int)
    (hh : A.handled = none) (F : Fr h₀ L s₁.heap m) (N : News h₀ L s₁.heap news) (hm : (ax, W.listOf vs.toArray cnt) ∈ news) (hi : StrsAre vs us) (hsz : us.length ≤ 1000)
    (turn : ∀ hp, TestAt prog w A h₀ L m env ct elt x scope cl { s₁ with heap := hp } (SrcAt h₀ ax vs.toArray) news us keep f)
    (fin : ∀ hp ys, IntsAre ys ((us.filter keep).map f) → Fin { s₁ with heap := hp } ys news) : LCt.CompSrcT prog w A h₀ L m env ct elt x scope cl Fin (.ref ax) s₁ := by
  refine LCt.CompSrcT.ledger hh F N hm (by rw [List.size_toArray, hi.len_eq, sizeLine_eq]; omega) fun hp => ?_
  exact cmt_rest keep f (by rw [List.size_toArray, hi.len_eq]) (fun i v _ hv => by
    obtain ⟨u, t, e, hu⟩ := hi.item i v (by simpa using hv)
    exact ⟨u, t, hu, e⟩) (turn hp) (fun ys hy => fin hp ys hy)
end
end Mine
end
section
open PySem PySem.Spec PySem.Calls PySem.W PyProof.Rows PyProof.Rows.LCg
set_option maxRecDepth 100000
set_option maxHeartbeats 0
namespace Mine
/-! comprehensions with a test whose element is a text: over a text's signs, over a list of ints -/
theorem strs_app {a b : List Value} {x y : List Str} (h : StrsAre a x) (k : StrsAre b y) : StrsAre (a ++ b) (x ++ y) := by
  obtain ⟨l1, rfl, rfl⟩ := strsAre_values h
  obtain ⟨l2, rfl, rfl⟩ := strsAre_values k
  rw [← List.map_append, show strValues l1 ++ strValues l2 = strValues (l1 ++ l2) by simp [strValues]]
  exact strsAre_of_values _
theorem strs_one (x : Str) (t : Tok) : StrsAre [.str x t] [x] := strsAre_of_values [(x, t)]
section
variable {prog : Program} {w : World} {A : Around} {s : Shared} {h₀ : Heap} {L : Addr} {m : Str → Option Value} {env : Env} {ct elt : Expr} {x : Str} {scope : Scope} {cl : List (Str × Addr)} {S : List (Addr × Obj) → Prop} {P : Nat → Value → Prop} {Fin : List Value → List (Addr × Obj) → Prop} {news : List (Addr × Obj)}
noncomputable def TestX (prog : Program) (w : World) (A : Around) (h₀ : Heap) (L : Addr) (m : Str → Option Value) (env : Env) (ct elt : Expr) (x : Str) (scope : Scope) (cl : List (Str × Addr)) (s : Shared) (S : List (Addr × Obj) → Prop) (news : List (Addr × Obj)) (keep : Bool) (f : Str) (v : Value) : Prop :=
  ∀ I oI C oC D m₂ ys h tk (E' : Value → Shared → Prop), NsObj oC m₂ → m₂ x = some v → Fr h₀ L h m → News h₀ L h ((I, oI) :: (C, oC) :: (D, lst ys) :: news) → Off3 I C D news →
    wpAny (model prog w) A (isTrue ct (compEnvC scope cl C env) (eval ct (compEnvC scope cl C env))) (fun ok s' => if ok = true then
      wpAny (model prog w) A (eval elt (compEnvC scope cl C env)) (CompEnd h₀ L m { s with heap := h, toks := tk } I oI C oC D (lst ys) S (fun y news' => news' = news ∧ keep = true ∧ ∃ t, y = .str f t)) E' s'
      else CompEnd h₀ L m { s with heap := h, toks := tk } I oI C oC D (lst ys) S (fun _ news' => news' = news ∧ keep = false) Value.none s') E' { s with heap := h, toks := tk }
theorem CompEnd.impX {s₁ : Shared} {I C D : Addr} {oI oC oD : Obj} {rest rest' : Value → List (Addr × Obj) → Prop} {y : Value} {s₂ : Shared} (h : CompEnd h₀ L m s₁ I oI C oC D oD S rest y s₂) (k : ∀ n, rest y n → rest' y n) : CompEnd h₀ L m s₁ I oI C oC D oD S rest' y s₂ := by
  obtain ⟨h', tk, news', e, F, N, o, hS, r⟩ := h
  exact ⟨h', tk, news', e, F, N, o, hS, k _ r⟩
theorem cmx_rest {α : Type} {n : Nat} {us : List α} (isV : α → Value → Prop) (keep : α → Bool) (f : α → Str) (hus : us.length = n) (hP : ∀ i v, i < n → P i v → ∃ u, us[i]? = some u ∧ isV u v)
    (turn : ∀ u v, u ∈ us → isV u v → TestX prog w A h₀ L m env ct elt x scope cl s S news (keep u) (f u) v)
    (fin : ∀ ys, StrsAre ys ((us.filter keep).map f) → Fin ys news) : LCt.CompRestT prog w A h₀ L m env ct elt x scope cl s S P Fin n 0 [] news := by
  have key : ∀ (j i : Nat) (ys : List Value), i + j = n → StrsAre ys (((us.take i).filter keep).map f) → LCt.CompRestT prog w A h₀ L m env ct elt x scope cl s S P Fin j i ys news := by
    intro j
    induction j with
    | zero =>
      intro i ys hi hy
      have e : i = us.length := by omega
      subst e
      rw [List.take_length] at hy
      exact LCt.CompRestT.zero (fin ys hy)
    | succ j ih =>
      intro i ys hi hy
      refine LCt.CompRestT.succ ?_
      intro v I oI C oC D m₂ h tk E' hv hC hx F N off _
      obtain ⟨u, hu, hvu⟩ := hP i v (by omega) hv
      have et : us.take (i + 1) = us.take i ++ [u] := by rw [List.take_add_one, hu]; rfl
      refine wpAny_mono (turn u v (List.mem_of_getElem? hu) hvu I oI C oC D m₂ ys h tk E' hC hx F N off) (fun ok s₂ hq => ?_) fun _ _ e => e
      cases ok with
      | true =>
        rw [if_pos rfl] at hq ⊢
        refine wpAny_mono hq (fun y s₃ he => ?_) fun _ _ e => e
        refine CompEnd.impX he fun nn hn => ?_
        obtain ⟨rfl, hk, t', rfl⟩ := hn
        refine ih (i + 1) _ (by omega) ?_
        rw [et, List.filter_append, List.filter_cons_of_pos hk, List.filter_nil, List.map_append]
        exact strs_app hy (strs_one _ _)
      | false =>
        rw [if_neg (by decide)] at hq ⊢
        refine CompEnd.impX hq fun nn hn => ?_
        obtain ⟨rfl, hk⟩ := hn
        refine ih (i + 1) _ (by omega) ?_
        rw [et, List.filter_append, List.filter_cons_of_neg (by rw [hk]; decide), List.filter_nil, List.append_nil]
        exact hy
  exact key n 0 [] (by omega) (by rw [List.take_zero]; exact strsAre_of_values [])
theorem srcI_txt {Fin : Shared → List Value → List (Addr × Obj) → Prop} {ax : Addr} {vs : List Value} {cnt : Nat} {s₁ : Shared} {ns : List Int} (keep : Int → Bool) (f : Int → Str)
    (hh : A.handled = none) (F : Fr h₀ L s₁.heap m) (N : News h₀ L s₁.heap news) (hm : (ax, W.listOf vs.toArray cnt) ∈ news) (hi : IntsAre vs ns) (hsz : ns.length ≤ 1000)
    (turn : ∀ hp k t, k ∈ ns → TestX prog w A h₀ L m env ct elt x scope cl { s₁ with heap := hp } (SrcAt h₀ ax vs.toArray) news (keep k) (f k) (.int k t))
    (fin : ∀ hp ys, StrsAre ys ((ns.filter keep).map f) → Fin { s₁ with heap := hp } ys news) : LCt.CompSrcT prog w A h₀ L m env ct elt x scope cl Fin (.ref ax) s₁ := by
  refine LCt.CompSrcT.ledger hh F N hm (by rw [List.size_toArray, hi.length, sizeLine_eq]; omega) fun hp => ?_
  refine cmx_rest (fun k v => ∃ t, v = .int k t) keep f (by rw [List.size_toArray, hi.length]) (fun i v hlt hv => ?_) (fun k v hk hv => by obtain ⟨t, rfl⟩ := hv; exact turn hp k t hk) (fun ys hy => fin hp ys hy)
  rw [List.size_toArray, hi.length] at hlt
  obtain ⟨t, e⟩ := hi.get i _ (List.getElem?_eq_getElem hlt)
  have hv' : vs[i]? = some v := by simpa using hv
  rw [e] at hv'
  cases hv'
  exact ⟨_, List.getElem?_eq_getElem hlt, t, rfl⟩
/-- the source is a text -/
noncomputable def SrcST (prog : Program) (w : World) (A : Around) (h₀ : Heap) (L : Addr) (m : Str → Option Value) (env : Env) (ct elt : Expr) (x : Str) (scope : Scope) (cl : List (Str × Addr)) (Fin : Shared → List Value → List (Addr × Obj) → Prop) (xv : Value) (s₁ : Shared) : Prop :=
  ∃ tx t news, xv = .str tx t ∧ A.handled = none ∧ Fr h₀ L s₁.heap m ∧ News h₀ L s₁.heap news ∧ tx.cps.size ≤ sizeLine ∧
    ∀ g, LCt.CompRestT prog w A h₀ L m env ct elt x scope cl { s₁ with heap := g } (fun _ => True) (SignAt tx) (Fin { s₁ with heap := g }) tx.cps.size 0 [] news
theorem srcS_mk {Fin : Shared → List Value → List (Addr × Obj) → Prop} {tx : Str} {tt : Tok} {s₁ : Shared} {cs : List Nat} (keep : Nat → Bool) (f : Nat → Str)
    (hh : A.handled = none) (F : Fr h₀ L s₁.heap m) (N : News h₀ L s₁.heap news) (htx : tx = ⟨cs.toArray⟩) (hsz : cs.length ≤ 1000)
    (turn : ∀ hp c t, c ∈ cs → TestX prog w A h₀ L m env ct elt x scope cl { s₁ with heap := hp } (fun _ => True) news (keep c) (f c) (.str ⟨#[c]⟩ t))
    (fin : ∀ hp ys, StrsAre ys ((cs.filter keep).map f) → Fin { s₁ with heap := hp } ys news) : SrcST prog w A h₀ L m env ct elt x scope cl Fin (.str tx tt) s₁ := by
  subst htx
  refine ⟨_, _, news, rfl, hh, F, N, by show cs.toArray.size ≤ _; rw [List.size_toArray, sizeLine_eq]; omega, fun hp => ?_⟩
  refine cmx_rest (fun c v => ∃ t, v = .str ⟨#[c]⟩ t) keep f (by show _ = cs.toArray.size; simp) (fun i v hlt hv => ?_) (fun c v hc hv => by obtain ⟨t, rfl⟩ := hv; exact turn hp c t hc) (fun ys hy => fin hp ys hy)
  obtain ⟨c, u, hc, rfl⟩ := hv
  exact ⟨c, by simpa using hc, u, rfl⟩
theorem str_st {T : String} {tx : Str} {t : Tok} {I : Addr} : ∀ i (h h' : Heap) (o : Obj) (nw : List (Addr × Obj)), h.IsStrIter I T tx t i → h.get? I = some o → h'.get? I = some o → (∀ b o, h₀.get? b = some o → h'.get? b = some o) → News h₀ L h' nw → True → h'.IsStrIter I T tx t i :=
  fun i h h' o nw st e e' _ _ _ => by
    obtain ⟨o', q, r⟩ := st
    rw [e] at q
    cases q
    exact ⟨o, e', r⟩
theorem ListComp_TS {E : Value → Shared → Prop} {iter : Expr} {px : Pos} {pos : Pos} {Q : Value → Shared → Prop} (_F₀ : Fr h₀ L s.heap m)
    (hclos : closureFor scope env = pure cl) (hcell : ∀ y ∈ scope.names, y.2 ≠ .cell) (hkind : scope.kind = .function)
    (hnames : ∀ y ∈ scope.names, y.2 = .local → scope.names.lookup y.1 = some .local) (hx : scope.names.lookup x = some .local)
    (h : wpAny (model prog w) A (eval iter env) (SrcST prog w A h₀ L m env ct elt x scope cl (fun s₂ => FinE h₀ L m s₂ Q)) E s)
    (hs : ∀ x, foldedSetIterable iter env x = pure x) :
    wpAny (model prog w) A (eval (.ListComp elt [⟨.Name x px, iter, [ct], 0⟩] scope pos) env) Q E s := by
  rw [eval_ListComp]
  refine wpAny_comprehension_free (use := none) rfl hs hclos hkind hnames (wpAny_mono h (fun xv s₁ h₁ => ?_) fun _ _ e => e)
  obtain ⟨tx, t, news, rfl, hh, F, N, hsz, R⟩ := h₁
  cases ha : tx.cps.all (· < 128)
  · refine wpAny_pyIter_wide ha ?_
    refine LCt.block_T (Walks.strWide hh s₁.heap.objs.size tx t) hsz (fun i h st => by obtain ⟨o, e, _⟩ := st; exact ⟨o, e⟩) str_st hcell hkind hx ⟨_, Heap.get?_push_size _ rfl, rfl, rfl⟩ (fun a ha => ?_)
      (F.keeps fun _ _ e => Heap.get?_push_of_some _ e) (N.grown fun _ _ e => Heap.get?_push_of_some _ e) (Nat.ne_of_lt F.ns.lt) (next_is_new F) (fun p hp => Nat.ne_of_lt (Heap.lt_size (N p hp).1)) trivial (R _) ?_
    · rw [List.mem_singleton.mp ha]
      show s₁.heap.objs.size < (s₁.heap.push _).objs.size
      rw [Heap.size_push]; exact Nat.lt_succ_self _
    · intro D C h tk m' ys news' F' N' o1 hn hC₀ hD₀ hCL hDL hCD offC fin
      refine ⟨m', hn, fun h'' hs'' => fin D h'' tk (F'.change hs'' hCL hC₀) (fun p hp => ?_) o1⟩
      refine ⟨hs''.extBut _ _ ?_ (N' p hp).1, (N' p hp).2⟩
      rcases List.mem_cons.mp hp with rfl | hp
      · exact Ne.symm hCD
      · exact offC p hp
  · refine wpAny_pyIter_ascii ha ?_
    refine LCt.block_T (Walks.strAscii hh s₁.heap.objs.size tx t) hsz (fun i h st => by obtain ⟨o, e, _⟩ := st; exact ⟨o, e⟩) str_st hcell hkind hx ⟨_, Heap.get?_push_size _ rfl, rfl, rfl⟩ (fun a ha => ?_)
      (F.keeps fun _ _ e => Heap.get?_push_of_some _ e) (N.grown fun _ _ e => Heap.get?_push_of_some _ e) (Nat.ne_of_lt F.ns.lt) (next_is_new F) (fun p hp => Nat.ne_of_lt (Heap.lt_size (N p hp).1)) trivial (R _) ?_
    · rw [List.mem_singleton.mp ha]
      show s₁.heap.objs.size < (s₁.heap.push _).objs.size
      rw [Heap.size_push]; exact Nat.lt_succ_self _
    · intro D C h tk m' ys news' F' N' o1 hn hC₀ hD₀ hCL hDL hCD offC fin
      refine ⟨m', hn, fun h'' hs'' => fin D h'' tk (F'.change hs'' hCL hC₀) (fun p hp => ?_) o1⟩
      refine ⟨hs''.extBut _ _ ?_ (N' p hp).1, (N' p hp).2⟩
      rcases List.mem_cons.mp hp with rfl | hp
      · exact Ne.symm hCD
      · exact offC p hp
end
end Mine
end
section
open PySem PySem.W PyProof.Rows PyProof.V PySem.Spec PySem.Calls
set_option maxRecDepth 100000
set_option maxHeartbeats 0
namespace Mine
/-! list(zip(xs, ys)) of two lists of equal length, one item or more -/
noncomputable abbrev ZipB (h : Heap) (z TI TO T : Addr) (b : Bool) : Prop :=
  h.get? z = some { cls := .type "zip", dict := none, data := .fields #[rawInt T, .bool b, .bool false, .ref TI, .ref TO], slots := #[] }
section
variable {prog : Program} {w : World} {A : Around} {E : Value → Shared → Prop} {s : Shared}
theorem zip_out {z TI TO T i1 i2 l1 l2 : Addr} {b : Bool} {oT : Obj} {k1 k2 : Nat} {xs ys : Array Value} {x y : Value} {Q : Option Value → Shared → Prop} (D : ZipApart z TI TO i1 i2 l1 l2)
    (hz : ZipB s.heap z TI TO T b) (hT : s.heap.get? T = some oT) (hTI : IsPair s.heap TI (.ref i1) (.ref i2))
    (h1 : s.heap.IsListIter i1 l1 k1) (h2 : s.heap.IsListIter i2 l2 k2) (hl1 : s.heap.IsList l1 xs) (hl2 : s.heap.IsList l2 ys) (hx : xs[k1]? = some x) (hy : ys[k2]? = some y)
    (hQ : ∀ h', ZipB h' z TI TO T true → h'.IsListIter i1 l1 (k1 + 1) → h'.IsListIter i2 l2 (k2 + 1) → IsPair h' s.heap.objs.size x y →
      (∀ c o, c ≠ z → c ≠ i1 → c ≠ i2 → s.heap.get? c = some o → h'.get? c = some o) → Q (some (.ref s.heap.objs.size)) { s with heap := h' }) :
    wpAny (model prog w) A (pyNext (.ref z)) Q E s := by
  have hTy : s.TypeIs (.ref z) "zip" := ⟨_, hz, rfl⟩
  unfold pyNext
  refine wpAny_bind (wpAny_attempt (wpAny_callSpecial?_slot (name := Str.ofString "__next__") hTy F.slot_zip_next
    (wpAny_call_entry F.slot_zip_next hTy F.entry_zip_next ?_ (F.args_zip_next_1 _))))
  show wpAny _ _ (field (.ref z) 2 >>= _) _ _ _
  refine wpAny_bind (wpAny_field hz rfl (x := .bool false) rfl ?_)
  show wpAny _ _ (field (.ref z) 3 >>= _) _ _ _
  refine wpAny_bind (wpAny_field hz rfl (x := .ref TI) rfl ?_)
  refine wpAny_bind (wpAny_seqItems hTI rfl ?_)
  show wpAny _ _ (Builtin.SmallTypes.ownedTupleIsFree (.ref z) >>= _) _ _ _
  refine wpAny_bind ?_
  unfold Builtin.SmallTypes.ownedTupleIsFree
  refine wpAny_bind (wpAny_field hz rfl (x := rawInt T) rfl ?_)
  show wpAny _ _ (loadIfAlive ((T : Int).toNat) >>= _) _ _ _
  rw [Int.toNat_natCast]
  refine wpAny_bind (kdx_alive hT ?_)
  simp only [Option.isNone_some, Bool.false_eq_true, if_false]
  refine wpAny_bind (wpAny_field hz rfl (x := .bool b) rfl ?_)
  refine wpAny_mono (Q := fun r s' => r = false ∧ ∃ h₃, s' = { s with heap := h₃ } ∧ ZipB h₃ z TI TO T true ∧ Heap.SameBut z s.heap h₃) ?_ ?_ (fun _ _ e => e)
  · cases b with
    | true =>
      rw [if_neg (show ¬ ((Value.bool true != Value.bool true) = true) from Bool.false_ne_true)]
      exact wpAny_pure ⟨rfl, s.heap, rfl, hz, Heap.SameBut.refl _ _⟩
    | false =>
      rw [if_pos (show (Value.bool false != Value.bool true) = true from rfl)]
      refine wpAny_bind (wpAny_setField_rec hz (by simp) fun h₃ he₃ hs₃ => ?_)
      exact wpAny_pure ⟨rfl, h₃, rfl, he₃, hs₃⟩
  rintro r s' ⟨rfl, h₁, rfl, hz₁, hs₁⟩
  simp only [Bool.false_eq_true, if_false]
  simp only [List.forIn_toArray, List.forIn_cons, List.forIn_nil]
  have hkz : ∀ c o, c ≠ z → s.heap.get? c = some o → h₁.get? c = some o := fun c o hc e => hs₁.extBut c o hc e
  have h1₁ := h1.extBut hs₁.extBut D.i1z
  have h2₁ := h2.extBut hs₁.extBut D.i2z
  have hl1₁ := hl1.extBut hs₁.extBut D.l1z
  have hl2₁ := hl2.extBut hs₁.extBut D.l2z
  refine wpAny_bind (wpAny_bind (wpAny_bind (wpAny_holding ?_)))
  show wpAny _ _ (Builtin.SmallTypes.nextOf (.ref i1) >>= _) _ _ _
  refine wpAny_bind (wpAny_nextOf_list_item h1₁ hl1₁ hx fun h₂ h1₂ hs₂ => wpAny_pure ?_)
  refine wpAny_pure ?_
  dsimp only
  refine wpAny_bind (wpAny_bind (wpAny_holding ?_))
  show wpAny _ _ (Builtin.SmallTypes.nextOf (.ref i2) >>= _) _ _ _
  have h2₂ := h2₁.extBut hs₂.extBut D.i12.symm
  have hl2₂ := hl2₁.extBut hs₂.extBut D.l2i1
  refine wpAny_bind (wpAny_nextOf_list_item h2₂ hl2₂ hy fun h₃ h2₃ hs₃ => wpAny_pure ?_)
  refine wpAny_pure (wpAny_pure ?_)
  dsimp only
  refine wpAny_bind (wpAny_newTuple (hsz := by show 2 ≤ sizeLine; rw [sizeLine_eq]; decide) ?_)
  have hsz : h₃.objs.size = s.heap.objs.size := by rw [hs₃.1, hs₂.1, hs₁.1]
  have hz₃ : ZipB h₃ z TI TO T true := hs₃.extBut _ _ D.i2z.symm (hs₂.extBut _ _ D.i1z.symm hz₁)
  have h1₃ := h1₂.extBut hs₃.extBut D.i12
  refine wpAny_pure ⟨_, rfl, wpAny_pure ?_⟩
  dsimp only
  rw [hsz]
  refine hQ _ (Heap.get?_push_of_some _ hz₃) (h1₃.at fun o e => Heap.get?_push_of_some _ e) (h2₃.at fun o e => Heap.get?_push_of_some _ e) ?_ (fun c o c1 c2 c3 e => Heap.get?_push_of_some _ (hs₃.extBut _ _ c3 (hs₂.extBut _ _ c2 (hs₁.extBut _ _ c1 e))))
  rw [← hsz]
  exact Heap.get?_push_size _ rfl
theorem zip_stop {z TI TO T i1 i2 l1 l2 : Addr} {b : Bool} {oT : Obj} {k1 : Nat} {xs : Array Value} {Q : Option Value → Shared → Prop} (hh : A.handled = none) (D : ZipApart z TI TO i1 i2 l1 l2)
    (hz : ZipB s.heap z TI TO T b) (hT : s.heap.get? T = some oT) (hTI : IsPair s.heap TI (.ref i1) (.ref i2))
    (h1 : s.heap.IsListIter i1 l1 k1) (hl1 : s.heap.IsList l1 xs) (hx : xs[k1]? = none)
    (hQ : ∀ h', (∀ c o, c ≠ z → c ≠ i1 → s.heap.get? c = some o → h'.get? c = some o) → Q none { s with heap := h' }) :
    wpAny (model prog w) A (pyNext (.ref z)) Q E s := by
  have hTy : s.TypeIs (.ref z) "zip" := ⟨_, hz, rfl⟩
  unfold pyNext
  refine wpAny_bind (wpAny_attempt (wpAny_callSpecial?_slot (name := Str.ofString "__next__") hTy F.slot_zip_next
    (wpAny_call_entry F.slot_zip_next hTy F.entry_zip_next ?_ (F.args_zip_next_1 _))))
  show wpAny _ _ (field (.ref z) 2 >>= _) _ _ _
  refine wpAny_bind (wpAny_field hz rfl (x := .bool false) rfl ?_)
  show wpAny _ _ (field (.ref z) 3 >>= _) _ _ _
  refine wpAny_bind (wpAny_field hz rfl (x := .ref TI) rfl ?_)
  refine wpAny_bind (wpAny_seqItems hTI rfl ?_)
  show wpAny _ _ (Builtin.SmallTypes.ownedTupleIsFree (.ref z) >>= _) _ _ _
  refine wpAny_bind ?_
  unfold Builtin.SmallTypes.ownedTupleIsFree
  refine wpAny_bind (wpAny_field hz rfl (x := rawInt T) rfl ?_)
  show wpAny _ _ (loadIfAlive ((T : Int).toNat) >>= _) _ _ _
  rw [Int.toNat_natCast]
  refine wpAny_bind (kdx_alive hT ?_)
  simp only [Option.isNone_some, Bool.false_eq_true, if_false]
  refine wpAny_bind (wpAny_field hz rfl (x := .bool b) rfl ?_)
  refine wpAny_mono (Q := fun r s' => r = false ∧ ∃ h₃, s' = { s with heap := h₃ } ∧ Heap.SameBut z s.heap h₃) ?_ ?_ (fun _ _ e => e)
  · cases b with
    | true =>
      rw [if_neg (show ¬ ((Value.bool true != Value.bool true) = true) from Bool.false_ne_true)]
      exact wpAny_pure ⟨rfl, s.heap, rfl, Heap.SameBut.refl _ _⟩
    | false =>
      rw [if_pos (show (Value.bool false != Value.bool true) = true from rfl)]
      refine wpAny_bind (wpAny_setField_rec hz (by simp) fun h₃ he₃ hs₃ => ?_)
      exact wpAny_pure ⟨rfl, h₃, rfl, hs₃⟩
  rintro r s' ⟨rfl, h₁, rfl, hs₁⟩
  simp only [Bool.false_eq_true, if_false]
  simp only [List.forIn_toArray, List.forIn_cons, List.forIn_nil]
  have h1₁ := h1.extBut hs₁.extBut D.i1z
  have hl1₁ := hl1.extBut hs₁.extBut D.l1z
  refine wpAny_bind (wpAny_bind (wpAny_bind (wpAny_holding ?_)))
  show wpAny _ _ (Builtin.SmallTypes.nextOf (.ref i1) >>= _) _ _ _
  refine wpAny_bind (wpAny_nextOf_list_end hh h1₁ hl1₁ hx fun h₂ e hs₂ he => ?_)
  obtain ⟨o, ho, hc⟩ := he
  refine wpAny_bind (wpAny_isInstance (T := "StopIteration") (b := true) ⟨o, ho, hc⟩ isSubtype_stop ?_)
  exact wpAny_pure (hQ _ fun c o c1 c2 e => hs₂ _ _ c2 (hs₁.extBut _ _ c1 e))
end
/-! the loop of list.extend over it -/
structure ZpSt (h : Heap) (z TI TO i1 i2 l1 l2 S : Addr) (xs ys : Array Value) (i : Nat) : Prop where
  st : (i = 0 ∧ IsZip h z TI TO .none ∧ ∃ a b, IsPair h TO a b) ∨ ∃ T b oT, ZipB h z TI TO T b ∧ h.get? T = some oT ∧ T ≠ z ∧ T ≠ i1 ∧ T ≠ i2 ∧ T ≠ S ∧ T ≠ TO
  ti : IsPair h TI (.ref i1) (.ref i2)
  a1 : h.IsListIter i1 l1 i
  a2 : h.IsListIter i2 l2 i
  b1 : h.IsList l1 xs
  b2 : h.IsList l2 ys
structure ZpOff (z TI TO i1 i2 l1 l2 S : Addr) : Prop where
  z : z ≠ S
  TI : TI ≠ S
  TO : TO ≠ S
  i1 : i1 ≠ S
  i2 : i2 ≠ S
  l1 : l1 ≠ S
  l2 : l2 ≠ S
theorem ZpSt.keep {h h' : Heap} {z TI TO i1 i2 l1 l2 S : Addr} {xs ys : Array Value} {i : Nat} (x : ZpSt h z TI TO i1 i2 l1 l2 S xs ys i) (O : ZpOff z TI TO i1 i2 l1 l2 S) (hk : ∀ b o, b ≠ S → h.get? b = some o → h'.get? b = some o) : ZpSt h' z TI TO i1 i2 l1 l2 S xs ys i where
  st := by
    rcases x.st with ⟨e, hz, a, b, ht⟩ | ⟨T, b, oT, hz, hT, n1, n2, n3, n4, n5⟩
    · exact .inl ⟨e, hk _ _ O.z hz, a, b, hk _ _ O.TO ht⟩
    · exact .inr ⟨T, b, oT, hk _ _ O.z hz, hk _ _ n4 hT, n1, n2, n3, n4, n5⟩
  ti := hk _ _ O.TI x.ti
  a1 := x.a1.at fun o e => hk _ o O.i1 e
  a2 := x.a2.at fun o e => hk _ o O.i2 e
  b1 := x.b1.at fun o e => hk _ o O.l1 e
  b2 := x.b2.at fun o e => hk _ o O.l2 e
section
variable {prog : Program} {w : World} {A : Around} {E : Value → Shared → Prop} {s : Shared}
theorem zp_item {z TI TO i1 i2 l1 l2 S : Addr} {xs ys : Array Value} {i : Nat} {x y : Value} {Q : Option Value → Shared → Prop} (D : ZipApart z TI TO i1 i2 l1 l2) (X : ZpSt s.heap z TI TO i1 i2 l1 l2 S xs ys i) (hS : S < s.heap.objs.size) (hx : xs[i]? = some x) (hy : ys[i]? = some y)
    (hQ : ∀ h', ZpSt h' z TI TO i1 i2 l1 l2 S xs ys (i + 1) → IsPair h' s.heap.objs.size x y → (∀ c o, c ≠ z → c ≠ TO → c ≠ i1 → c ≠ i2 → s.heap.get? c = some o → h'.get? c = some o) → Q (some (.ref s.heap.objs.size)) { s with heap := h' }) :
    wpAny (model prog w) A (pyNext (.ref z)) Q E s := by
  have lt : ∀ {c o}, s.heap.get? c = some o → s.heap.objs.size ≠ c := fun e => Nat.ne_of_gt (Heap.lt_size e)
  have li : ∀ {it l : Addr} {k : Nat}, s.heap.IsListIter it l k → s.heap.objs.size ≠ it := fun h => by obtain ⟨_, e, _⟩ := h; exact lt e
  rcases X.st with ⟨rfl, hz, a, b, ht⟩ | ⟨T, b, oT, hz, hT, n1, n2, n3, n4, n5⟩
  · refine wpAny_pyNext_zip_item D hz X.ti ht X.a1 X.a2 X.b1 X.b2 hx hy fun h' c1 c2 c3 c4 c5 _ hk => ?_
    exact hQ h' ⟨.inr ⟨_, _, _, c1, c5, lt hz, li X.a1, li X.a2, Nat.ne_of_gt hS, lt ht⟩, hk _ _ D.TIz D.TITO D.TIi1 D.TIi2 X.ti, c3, c4, X.b1.at fun o e => hk _ o D.l1z D.l1TO D.l1i1 D.l1i2 e, X.b2.at fun o e => hk _ o D.l2z D.l2TO D.l2i1 D.l2i2 e⟩ c5 hk
  · refine zip_out D hz hT X.ti X.a1 X.a2 X.b1 X.b2 hx hy fun h' c1 c3 c4 c5 hk => ?_
    exact hQ h' ⟨.inr ⟨T, true, oT, c1, hk _ _ n1 n2 n3 hT, n1, n2, n3, n4, n5⟩, hk _ _ D.TIz D.TIi1 D.TIi2 X.ti, c3, c4, X.b1.at fun o e => hk _ o D.l1z D.l1i1 D.l1i2 e, X.b2.at fun o e => hk _ o D.l2z D.l2i1 D.l2i2 e⟩ c5 (fun c o k1 _ k3 k4 e => hk c o k1 k3 k4 e)
structure ZpG (lo : Addr) (xs ys : Array Value) (h : Heap) (as : List Addr) : Prop where
  above : ∀ a ∈ as, lo < a
  pairs : ∀ (j : Nat) (a : Addr), as[j]? = some a → ∃ x y, xs[j]? = some x ∧ ys[j]? = some y ∧ IsPair h a x y
theorem zp_loop {z TI TO i1 i2 l1 l2 S : Addr} {xs ys : Array Value} {R : Result → Shared → Prop} (hh : A.handled = none) (D : ZipApart z TI TO i1 i2 l1 l2) (O : ZpOff z TI TO i1 i2 l1 l2 S) (hlo : z < S ∧ TO < S ∧ i1 < S ∧ i2 < S) (hl : xs.size = ys.size) (hn : xs.size ≤ sizeLine) (hn1 : 0 < xs.size) (res : Value) {h₁ : Heap}
    (hR : ∀ h' tk acc c as, (∀ b o, b ≠ S → b ≠ z → b ≠ TO → b ≠ i1 → b ≠ i2 → h₁.get? b = some o → h'.get? b = some o) → h'.get? S = some { cls := .type "list", dict := none, data := .seq acc c, slots := #[] } → as.length = xs.size → ZpG S xs ys h' as →
      acc.toList = as.map Value.ref → R (.ok (.ret res)) { s with heap := h', toks := tk }) :
    ∀ (k i : Nat) (h : Heap) (tk c : Nat) (acc : Array Value) (as : List Addr), xs.size - i = k → i ≤ xs.size → ZpSt h z TI TO i1 i2 l1 l2 S xs ys i → (∀ b o, b ≠ S → b ≠ z → b ≠ TO → b ≠ i1 → b ≠ i2 → h₁.get? b = some o → h.get? b = some o) →
      h.get? S = some { cls := .type "list", dict := none, data := .seq acc c, slots := #[] } → acc.toList = as.map Value.ref → as.length = i → ZpG S xs ys h as →
      codeAny (model prog w) A (.builtin "list.extend.loop" ⟨[.ref S, .ref z, res], []⟩) R { s with heap := h, toks := tk } := by
  intro k
  induction k with
  | zero =>
    intro i h tk c acc as hk hi hst hkeep hS hacc hal hG
    have hin : i = xs.size := by omega
    refine codeAny_builtin PySem.F.entry_extend_loop ?_
    rw [Around.under_plainId PySem.F.plain_extend_loop _]
    show wpAny _ A.in1 (pyNext (.ref z) >>= _) _ _ _
    rcases hst.st with ⟨e, _⟩ | ⟨T, b, oT, hz, hT, _⟩
    · omega
    refine wpAny_bind (zip_stop (s := { s with heap := h, toks := tk }) (A := A.in1) hh D hz hT hst.ti hst.a1 hst.b1 (Array.getElem?_eq_none (by omega)) fun h' he => ?_)
    refine wpAny_pure (hR h' tk acc c as (fun b o c1 c2 c3 c4 c5 e => he b o c2 c4 (hkeep b o c1 c2 c3 c4 c5 e)) (he S _ O.z.symm O.i1.symm hS) (by omega) ⟨hG.above, fun j a hj => ?_⟩ hacc)
    obtain ⟨x, y, e1, e2, e3⟩ := hG.pairs j a hj
    have ha := hG.above a (List.mem_of_getElem? hj)
    exact ⟨x, y, e1, e2, he a _ (Nat.ne_of_gt (Nat.lt_trans hlo.1 ha)) (Nat.ne_of_gt (Nat.lt_trans hlo.2.2.1 ha)) e3⟩
  | succ k ih =>
    intro i h tk c acc as hk hi hst hkeep hS hacc hal hG
    have hlt : i < xs.size := by omega
    obtain ⟨x, hx⟩ : ∃ p, xs[i]? = some p := ⟨xs[i], Array.getElem?_eq_getElem hlt⟩
    obtain ⟨y, hy⟩ : ∃ p, ys[i]? = some p := ⟨ys[i], Array.getElem?_eq_getElem (by omega)⟩
    have hsz : acc.size = i := by rw [← Array.length_toList, hacc, List.length_map, hal]
    refine codeAny_builtin PySem.F.entry_extend_loop ?_
    rw [Around.under_plainId PySem.F.plain_extend_loop _]
    show wpAny _ A.in1 (pyNext (.ref z) >>= _) _ _ _
    refine wpAny_bind (zp_item (s := { s with heap := h, toks := tk }) D hst (Heap.lt_size hS) hx hy fun h' hst' ht hkp => ?_)
    dsimp only at ht hkp ⊢
    have hS' := hkp S _ O.z.symm O.TO.symm O.i1.symm O.i2.symm hS
    have up : ∀ b o, b ≠ S → h'.get? b = some o → (h'.update S (Obj.mapSeq (·.push (Value.ref h.objs.size)))).get? b = some o := fun b o hb e => (Heap.get?_update_other _ _ (Ne.symm hb)).trans e
    have hSl : S < h.objs.size := Heap.lt_size hS
    show wpAny _ A.in1 (updateSeq S (·.push (Value.ref h.objs.size)) >>= _) _ _ _
    refine wpAny_bind ?_
    refine wpAny_updateSeq hS' rfl (wpAny_pure ⟨plainId_quiet PySem.F.plain_extend_loop _, ih (i + 1) _ tk _ (acc.push (Value.ref h.objs.size)) (as ++ [h.objs.size]) (by omega) hlt (hst'.keep O up)
      (fun b o c1 c2 c3 c4 c5 e => up b o c1 (hkp b o c2 c3 c4 c5 (hkeep b o c1 c2 c3 c4 c5 e))) (Heap.get?_update_self _ hS' rfl) (by rw [Array.toList_push, hacc, List.map_append]; rfl) (by rw [List.length_append, hal]; rfl) ⟨?_, ?_⟩⟩) (by rw [hsz]; omega) (by show (acc.push (Value.ref h.objs.size)).size ≤ sizeLine + 1; rw [Array.size_push, hsz]; omega)
    · intro a ha
      rcases List.mem_append.mp ha with ha | ha
      · exact hG.above a ha
      · rw [List.mem_singleton.mp ha]; exact hSl
    · intro j b hj
      rcases Nat.lt_trichotomy j as.length with h1 | h1 | h1
      · rw [List.getElem?_append_left h1] at hj
        obtain ⟨x', y', e1, e2, e3⟩ := hG.pairs j b hj
        have hb := hG.above b (List.mem_of_getElem? hj)
        exact ⟨x', y', e1, e2, up b _ (Nat.ne_of_gt hb) (hkp b _ (Nat.ne_of_gt (Nat.lt_trans hlo.1 hb)) (Nat.ne_of_gt (Nat.lt_trans hlo.2.1 hb)) (Nat.ne_of_gt (Nat.lt_trans hlo.2.2.1 hb)) (Nat.ne_of_gt (Nat.lt_trans hlo.2.2.2 hb)) e3)⟩
      · subst h1
        have hb : h.objs.size = b := by simpa using hj
        subst hb
        exact ⟨x, y, by rw [hal]; exact hx, by rw [hal]; exact hy, up _ _ (Nat.ne_of_gt hSl) ht⟩
      · have hnone : (as ++ [h.objs.size])[j]? = none := List.getElem?_eq_none (by rw [List.length_append, List.length_singleton]; omega)
        rw [hnone] at hj; cases hj
theorem zip_len : typeLookup (.type "zip") "__len__" = pure none := by rw [typeLookup_type, builtinLookup_eq_fast]; kernel_rfl
theorem zip_hint0 : typeLookup (.type "zip") "__length_hint__" = pure none := by rw [typeLookup_type, builtinLookup_eq_fast]; kernel_rfl
theorem zip_hint {z : Addr} (hT : s.TypeIs (.ref z) "zip") {Q : Bool → Shared → Prop} (h : Q true s) : wpAny (model prog w) A (Builtin.List.listLengthHint (.ref z)) Q E s := by
  unfold Builtin.List.listLengthHint
  refine wpAny_bind (wpAny_specialOf hT zip_len ?_)
  show wpAny _ _ (specialOf (.ref z) (Str.ofString "__length_hint__") >>= _) _ _ _
  refine wpAny_bind (wpAny_specialOf hT zip_hint0 ?_)
  exact wpAny_pure h
theorem zip_list {z TI TO i1 i2 l1 l2 : Addr} {xs ys : Array Value} {Q : Value → Shared → Prop} (hh : A.handled = none) (D : ZipApart z TI TO i1 i2 l1 l2) (hlo : z < s.heap.objs.size ∧ TI < s.heap.objs.size ∧ TO < s.heap.objs.size ∧ i1 < s.heap.objs.size ∧ i2 < s.heap.objs.size ∧ l1 < s.heap.objs.size ∧ l2 < s.heap.objs.size)
    (X : IsZip s.heap z TI TO .none ∧ (∃ a b, IsPair s.heap TO a b) ∧ IsPair s.heap TI (.ref i1) (.ref i2) ∧ s.heap.IsListIter i1 l1 0 ∧ s.heap.IsListIter i2 l2 0 ∧ s.heap.IsList l1 xs ∧ s.heap.IsList l2 ys) (hl : xs.size = ys.size) (hn : xs.size ≤ sizeLine) (hn1 : 0 < xs.size)
    (hQ : ∀ h' tk acc c as, (∀ b o, b ≠ z → b ≠ TO → b ≠ i1 → b ≠ i2 → s.heap.get? b = some o → h'.get? b = some o) → h'.get? s.heap.objs.size = some { cls := .type "list", dict := none, data := .seq acc c, slots := #[] } → as.length = xs.size → ZpG s.heap.objs.size xs ys h' as →
      acc.toList = as.map Value.ref → Q (.ref s.heap.objs.size) { s with heap := h', toks := tk }) :
    wpAny (model prog w) A (call (.type "list") [.ref z]) Q E s := by
  obtain ⟨hz, ht, hTI, h1, h2, hl1, hl2⟩ := X
  obtain ⟨q1, q2, q3, q4, q5, q6, q7⟩ := hlo
  refine callType_codes (Q₁ := fun obj s₁ => obj = .ref s.heap.objs.size ∧ s₁ = { s with heap := s.heap.push { cls := .type "list", data := .seq #[] } }) PySem.F.called_list (PySem.F.typeCall_list_1 _) PySem.F.entry_list_init
    (code_list_new _ ⟨rfl, rfl⟩) fun obj s₁ h₁ => ?_
  obtain ⟨rfl, rfl⟩ := h₁
  have hS : (s.heap.push { cls := .type "list", data := .seq #[] }).get? s.heap.objs.size = some { cls := .type "list", data := .seq #[] } := Heap.get?_push_size _ rfl
  have old : ∀ b o, s.heap.get? b = some o → (s.heap.push { cls := .type "list", data := .seq #[] }).get? b = some o := fun b o e => Heap.get?_push_of_some _ e
  have lt0 : ∀ b o, s.heap.get? b = some o → b ≠ s.heap.objs.size := fun b o e => Nat.ne_of_lt (Heap.lt_size e)
  refine ⟨⟨_, hS, rfl⟩, PySem.F.args_list_init_2 _ _, ?_⟩
  generalize s.heap.objs.size = S at *
  generalize s.heap.push { cls := .type "list", data := .seq #[] } = hp at *
  have O : ZpOff z TI TO i1 i2 l1 l2 S := ⟨Nat.ne_of_lt q1, Nat.ne_of_lt q2, Nat.ne_of_lt q3, Nat.ne_of_lt q4, Nat.ne_of_lt q5, Nat.ne_of_lt q6, Nat.ne_of_lt q7⟩
  have X0 : ZpSt hp z TI TO i1 i2 l1 l2 S xs ys 0 := ⟨.inl ⟨rfl, old _ _ hz, by obtain ⟨a, b, ht⟩ := ht; exact ⟨a, b, old _ _ ht⟩⟩, old _ _ hTI, h1.at fun o e => old _ o e, h2.at fun o e => old _ o e, hl1.at fun o e => old _ o e, hl2.at fun o e => old _ o e⟩
  show wpAny _ _ (do let old ← Builtin.List.listItems (.ref S); Builtin.List.listUpdate (.ref S) (fun _ => #[]); letGo old.toList.reverse; Builtin.List.listExtendWith (.ref S) (.ref z) .none) _ _ _
  refine wpAny_bind ?_
  unfold Builtin.List.listItems
  refine wpAny_bind (wpAny_seqItems hS rfl (wpAny_pure ?_))
  show wpAny _ _ (updateSeq S (fun _ => #[]) >>= fun _ => letGo (#[] : Array Value).toList.reverse >>= fun _ => Builtin.List.listExtendWith (.ref S) (.ref z) .none) _ _ _
  refine wpAny_bind (wpAny_updateSeq hS rfl ?_)
  have hS₂ := Heap.get?_update_self (Obj.mapSeq (fun _ => (#[] : Array Value))) hS rfl
  have oth : ∀ b o, b ≠ S → hp.get? b = some o → (hp.update S (Obj.mapSeq (fun _ => (#[] : Array Value)))).get? b = some o := fun b o hb e => (Heap.get?_update_other _ _ (Ne.symm hb)).trans e
  have X1 := X0.keep O oth
  have hk1 : ∀ b o, s.heap.get? b = some o → (hp.update S (Obj.mapSeq (fun _ => (#[] : Array Value)))).get? b = some o := fun b o e => oth b o (lt0 b o e) (old b o e)
  generalize hp.update S (Obj.mapSeq (fun _ => (#[] : Array Value))) = hp2 at *
  refine wpAny_bind (wpAny_letGo ?_)
  unfold Builtin.List.listExtendWith
  have hz1 : IsZip hp2 z TI TO .none := hk1 _ _ hz
  refine wpAny_bind (wpAny_typeOf (T := "zip") ⟨_, hz1, rfl⟩ ?_)
  have p1 : Builtin.List.listSameRef (.ref S) (.ref z) = false := by simp [Builtin.List.listSameRef, O.z.symm]
  have p2 : (Value.type "zip" == Value.type "list") = false := by decide
  have p3 : (Value.type "zip" == Value.type "tuple") = false := by decide
  simp only [p1, p2, p3, Bool.or_false, Bool.false_eq_true, if_false]
  refine wpAny_bind (wpAny_pyIter_zip hz1 ?_)
  refine wpAny_bind (wpAny_holding (zip_hint ⟨_, hz1, rfl⟩ ?_))
  show wpAny _ _ (rule "list.extend.makes-room" >>= fun _ => Builtin.List.listTouch (.ref S) >>= fun _ => again (.builtin "list.extend.loop" ⟨[.ref S, .ref z, .none], []⟩)) _ _ _
  refine wpAny_bind (wpAny_rule ?_)
  refine wpAny_bind ?_
  show wpAny _ _ (updateSeq S (·.push .none) >>= fun _ => updateSeq S (·.pop)) _ _ _
  refine wpAny_bind (wpAny_updateSeq hS₂ rfl ?_)
  have hS₃ := Heap.get?_update_self (Obj.mapSeq (·.push Value.none)) hS₂ rfl
  refine wpAny_updateSeq (hz := by seq_fits) hS₃ rfl ?_
  have hS₄ := Heap.get?_update_self (Obj.mapSeq (·.pop)) hS₃ rfl
  have oth2 : ∀ b o, b ≠ S → hp2.get? b = some o → ((hp2.update S (Obj.mapSeq (·.push Value.none))).update S (Obj.mapSeq (·.pop))).get? b = some o := fun b o hb e => (Heap.get?_update_other _ _ (Ne.symm hb)).trans ((Heap.get?_update_other _ _ (Ne.symm hb)).trans e)
  refine wpAny_pure ⟨plainId_quiet PySem.F.plain_extend_loop _, ?_⟩
  refine zp_loop (s := s) (h₁ := s.heap) (A := A.in1) hh D O ⟨q1, q3, q4, q5⟩ hl hn hn1 .none (fun h' tk' acc c as hk' hS' hlen hG hacc => ?_) xs.size 0 _ _ _ #[] [] (Nat.sub_zero _) (Nat.zero_le _) (X1.keep O oth2) (fun b o c1 _ _ _ _ e => oth2 b o c1 (hk1 b o e)) hS₄ rfl rfl ⟨(fun _ ha => nomatch ha), (fun j a hj => by simp at hj)⟩
  exact ⟨rfl, hQ h' tk' acc c as (fun b o c2 c3 c4 c5 e => hk' b o (lt0 b o e) c2 c3 c4 c5 e) hS' hlen hG hacc⟩
end
/-! on the ledger -/
structure ZpIs (h₀ h : Heap) (L : Addr) (news : List (Addr × Obj)) (z : Addr) (xs ys : Array Value) : Prop where
  ex : ∃ TI TO i1 i2 l1 l2, ZipApart z TI TO i1 i2 l1 l2 ∧ (IsZip h z TI TO .none ∧ (∃ a b, IsPair h TO a b) ∧ IsPair h TI (.ref i1) (.ref i2) ∧ h.IsListIter i1 l1 0 ∧ h.IsListIter i2 l2 0 ∧ h.IsList l1 xs ∧ h.IsList l2 ys) ∧
    (L < z ∧ L < TO ∧ L < i1 ∧ L < i2) ∧ (∀ q ∈ news, q.1 ≠ z ∧ q.1 ≠ TO ∧ q.1 ≠ i1 ∧ q.1 ≠ i2)
section
variable {prog : Program} {w : World} {A : Around} {E : Value → Shared → Prop} {s : Shared} {h₀ : Heap} {L : Addr} {m : Str → Option Value} {news : List (Addr × Obj)}
theorem zip_led {l1 l2 : Addr} {xs ys : List Value} {n1 n2 : Nat} {Q : Value → Shared → Prop} (F : Fr h₀ L s.heap m) (N : News h₀ L s.heap news) (m1 : (l1, W.listOf xs.toArray n1) ∈ news) (m2 : (l2, W.listOf ys.toArray n2) ∈ news)
    (h : ∀ z h', Fr h₀ L h' m → News h₀ L h' news → ZpIs h₀ h' L news z xs.toArray ys.toArray → Q (.ref z) { s with heap := h' }) : wpAny (model prog w) A (call (.type "zip") [.ref l1, .ref l2]) Q E s := by
  have hl1 : s.heap.IsList l1 xs.toArray := ⟨_, (N _ m1).1, rfl, n1, rfl⟩
  have hl2 : s.heap.IsList l2 ys.toArray := ⟨_, (N _ m2).1, rfl, n2, rfl⟩
  refine zip_rows F hl1 hl2 fun h' z TI TO i1 i2 D X F' hk b1 b2 b3 b4 hL => h z h' F' (fun q hq => ⟨hk _ _ (N q hq).1, (N q hq).2⟩) ⟨⟨TI, TO, i1, i2, l1, l2, D, ⟨X.1, X.2.2.1, X.2.1, X.2.2.2⟩, hL, fun q hq => ?_⟩⟩
  have lt := Heap.lt_size (N q hq).1
  exact ⟨Nat.ne_of_lt (Nat.lt_of_lt_of_le lt b1), Nat.ne_of_lt (Nat.lt_of_lt_of_le lt b2), Nat.ne_of_lt (Nat.lt_of_lt_of_le lt b3), Nat.ne_of_lt (Nat.lt_of_lt_of_le lt b4)⟩
noncomputable abbrev tupO (x y : Value) : Obj := { cls := .type "tuple", data := .seq #[x, y] }
theorem zip_list_led {z : Addr} {xs ys : List Value} {Q : Value → Shared → Prop} (hh : A.handled = none) (F : Fr h₀ L s.heap m) (N : News h₀ L s.heap news) (Z : ZpIs h₀ s.heap L news z xs.toArray ys.toArray) (hl : xs.length = ys.length) (hn : xs.length ≤ 1000) (hn1 : 0 < xs.length)
    (h : ∀ (S : Addr) (as : List Addr) (c : Nat) h' tk rest, (∀ q ∈ news, q ∈ rest) → as.length = xs.length → (∀ (j : Nat) (a : Addr), as[j]? = some a → ∃ x y, xs[j]? = some x ∧ ys[j]? = some y ∧ (a, tupO x y) ∈ rest) → Fr h₀ L h' m → News h₀ L h' ((S, W.listOf (as.map Value.ref).toArray c) :: rest) → Q (.ref S) { s with heap := h', toks := tk }) :
    wpAny (model prog w) A (call (.type "list") [.ref z]) Q E s := by
  obtain ⟨TI, TO, i1, i2, l1, l2, D, X, hL, off⟩ := Z
  have none_of : ∀ a, L < a → h₀.get? a = none := fun a ha => Heap.get?_none_of_le (Nat.le_trans F.above (Nat.le_of_lt ha))
  have li : ∀ {it l : Addr} {k : Nat}, s.heap.IsListIter it l k → it < s.heap.objs.size := fun h => by obtain ⟨_, e, _⟩ := h; exact Heap.lt_size e
  have ll : ∀ {l : Addr} {v : Array Value}, s.heap.IsList l v → l < s.heap.objs.size := fun h => by obtain ⟨_, e, _⟩ := h; exact Heap.lt_size e
  refine zip_list hh D ⟨Heap.lt_size X.1, Heap.lt_size X.2.2.1, by obtain ⟨_, _, e⟩ := X.2.1; exact Heap.lt_size e, li X.2.2.2.1, li X.2.2.2.2.1, ll X.2.2.2.2.2.1, ll X.2.2.2.2.2.2⟩ X (by simpa using hl) (by rw [List.size_toArray, sizeLine_eq]; omega) (by simpa using hn1) fun h' tk acc c as hk hS hlen hG hacc => ?_
  have hLS : L < s.heap.objs.size := F.ns.lt
  generalize hSz : s.heap.objs.size = S at *
  have F' : Fr h₀ L h' m := by
    refine ⟨F.ns.at' fun o e => hk L o (Nat.ne_of_lt hL.1) (Nat.ne_of_lt hL.2.1) (Nat.ne_of_lt hL.2.2.1) (Nat.ne_of_lt hL.2.2.2) e, fun b o e => ?_, F.above⟩
    have hb : b < L := Nat.lt_of_lt_of_le (Heap.lt_size e) F.above
    exact hk b o (Nat.ne_of_lt (Nat.lt_trans hb hL.1)) (Nat.ne_of_lt (Nat.lt_trans hb hL.2.1)) (Nat.ne_of_lt (Nat.lt_trans hb hL.2.2.1)) (Nat.ne_of_lt (Nat.lt_trans hb hL.2.2.2)) (F.keep b o e)
  have hacc' : acc = (as.map Value.ref).toArray := by rw [← hacc]
  subst hacc'
  refine h S as c h' tk (as.filterMap (fun a => (h'.get? a).map fun o => (a, o)) ++ news) (fun q hq => List.mem_append_right _ hq) (by simpa using hlen) (fun j a hj => ?_) F' (fun q hq => ?_)
  · obtain ⟨x, y, e1, e2, e3⟩ := hG.pairs j a hj
    refine ⟨x, y, by simpa using e1, by simpa using e2, List.mem_append_left _ (List.mem_filterMap.mpr ⟨a, List.mem_of_getElem? hj, ?_⟩)⟩
    rw [show h'.get? a = some (tupO x y) from e3]
    rfl
  · rcases List.mem_cons.mp hq with rfl | hq
    · exact ⟨hS, Nat.ne_of_gt hLS, none_of _ hLS⟩
    · rcases List.mem_append.mp hq with hq | hq
      · obtain ⟨a, ha, e⟩ := List.mem_filterMap.mp hq
        obtain ⟨o, ho, rfl⟩ := Option.map_eq_some_iff.mp e
        have hLa : L < a := Nat.lt_trans hLS (hG.above a ha)
        exact ⟨ho, Nat.ne_of_gt hLa, none_of _ hLa⟩
      · obtain ⟨n1, n2, n3, n4⟩ := off q hq
        exact ⟨hk _ _ n1 n2 n3 n4 (N q hq).1, (N q hq).2⟩
end
/-! a list comprehension over a list of pairs -/
section
variable {prog : Program} {w : World} {A : Around} {s : Shared} {h₀ : Heap} {L : Addr} {m : Str → Option Value} {env : Env}
theorem srcP_mk {elt : Expr} {x x₂ : Str} {scope : Scope} {cl : List (Str × Addr)} {Fin : Shared → List Value → List (Addr × Obj) → Prop} {ax : Addr} {as : List Addr} {c : Nat} {news : List (Addr × Obj)} {s₁ : Shared} {xV yV : List Value} {xs ys : List Int} (g : Int → Int → Int)
    (hh : A.handled = none) (F : Fr h₀ L s₁.heap m) (N : News h₀ L s₁.heap news) (hm : (ax, W.listOf (as.map Value.ref).toArray c) ∈ news) (hx : IntsAre xV xs) (hy : IntsAre yV ys) (hlx : as.length = xV.length) (hlen : xs.length = ys.length) (hsz : xs.length ≤ 1000)
    (hT : ∀ (j : Nat) (a : Addr), as[j]? = some a → ∃ x y, xV[j]? = some x ∧ yV[j]? = some y ∧ (a, tupO x y) ∈ news)
    (turn : ∀ hp a b ta tb I oI C oC D m₂ zs h tk (E' : Value → Shared → Prop), a ∈ xs → b ∈ ys → LCg.NsObj oC m₂ → m₂ x = some (.int a ta) → m₂ x₂ = some (.int b tb) → Fr h₀ L h m → News h₀ L h ((I, oI) :: (C, oC) :: (D, LCg.lst zs) :: news) → LCg.Off3 I C D news → ((@Ne Nat I C) ∧ (@Ne Nat I D) ∧ (@Ne Nat C D)) →
      wpAny (model prog w) A (eval elt (compEnvC scope cl C env)) (LCg.CompEnd h₀ L m { { s₁ with heap := hp } with heap := h, toks := tk } I oI C oC D (LCg.lst zs) (LCg.SrcAt h₀ ax (as.map Value.ref).toArray) (fun y news' => KCfEl news (g a b) y news')) E' { { s₁ with heap := hp } with heap := h, toks := tk })
    (fin : ∀ hp zs, IntsAre zs (List.zipWith g xs ys) → Fin { s₁ with heap := hp } zs news) : LCp.SrcLP prog w A h₀ L m env elt x x₂ scope cl Fin (.ref ax) s₁ := by
  have hxl := hx.length
  have hyl := hy.length
  refine LCp.SrcLP.ledger hh F N hm (by rw [List.size_toArray, List.length_map, sizeLine_eq]; omega) fun hp => ?_
  have key : ∀ (j i : Nat) (zs : List Value), i + j = as.length → IntsAre zs (List.zipWith g (xs.take i) (ys.take i)) → LCp.CompRestP prog w A h₀ L m env elt x x₂ scope cl { s₁ with heap := hp } (LCg.SrcAt h₀ ax (as.map Value.ref).toArray) (fun i v => (as.map Value.ref).toArray[i]? = some v) (Fin { s₁ with heap := hp }) j i zs news := by
    intro j
    induction j with
    | zero =>
      intro i zs hi hz
      rw [List.take_of_length_le (by omega), List.take_of_length_le (by omega)] at hz
      exact LCp.CompRestP.zero (fin hp zs hz)
    | succ j ih =>
      intro i zs hi hz
      refine LCp.CompRestP.succ ?_
      intro v hv
      have hv' : (as.map Value.ref)[i]? = some v := by simpa using hv
      rw [List.getElem?_map] at hv'
      obtain ⟨a, ha, rfl⟩ := Option.map_eq_some_iff.mp hv'
      obtain ⟨x', y', e1, e2, e3⟩ := hT i a ha
      obtain ⟨xi, hxi⟩ : ∃ p, xs[i]? = some p := ⟨xs[i]'(by omega), List.getElem?_eq_getElem _⟩
      obtain ⟨yi, hyi⟩ : ∃ p, ys[i]? = some p := ⟨ys[i]'(by omega), List.getElem?_eq_getElem _⟩
      obtain ⟨tx, ex⟩ := hx.get i _ hxi
      obtain ⟨ty, ey⟩ := hy.get i _ hyi
      rw [e1] at ex
      rw [e2] at ey
      cases ex
      cases ey
      refine ⟨a, tupO _ _, _, _, 0, rfl, e3, rfl, rfl, ?_⟩
      intro I oI C oC D m₂ h tk E' hC h1 h2 F' N' off ne
      refine wpAny_mono (turn hp xi yi tx ty I oI C oC D m₂ zs h tk E' (List.mem_of_getElem? hxi) (List.mem_of_getElem? hyi) hC h1 h2 F' N' off ne) (fun y s₂ hq => ?_) fun _ _ e => e
      obtain ⟨h', tk', news', e, F₂, N₂, o, hS, r⟩ := hq
      obtain ⟨rfl, t, rfl⟩ := r
      refine ⟨h', tk', news', e, F₂, N₂, o, hS, ih (i + 1) _ (by omega) ?_⟩
      rw [List.take_add_one, List.take_add_one, hxi, hyi, List.zipWith_append (by rw [List.length_take, List.length_take]; omega)]
      exact IntsAre.append hz (.cons _ _ .nil)
  have := key as.length 0 [] (by omega) (by simpa using IntsAre.nil)
  simpa using this
end
end Mine
end
section
open PySem PySem.W PyProof.Rows
set_option maxRecDepth 100000
namespace Mine
/-! The law of row 01 in plain Lean: programs over the exchanges of three places. -/
noncomputable def B3 (t : List Int) : Prop := ∀ x ∈ t, x = 0 ∨ x = 1 ∨ x = 2
noncomputable def loF (l h : Int) : Int := (-(l + h)).fmod 3
noncomputable def hiF (l h : Int) : Int := (h - l).fmod 3
noncomputable def progT : Nat → List Int → List Int
  | 0, t => if t.getD 0 0 = 0 then [] else if t.getD 0 0 = 1 then [62, 63] else [63, 62]
  | b + 1, t => progT b (List.zipWith loF (t.take (2 ^ b)) (t.drop (2 ^ b))) ++ [(b : Int)] ++ progT b (List.zipWith hiF (t.take (2 ^ b)) (t.drop (2 ^ b))) ++ [(b : Int)]
noncomputable def laidF (pt : Int) (f : Int) : Int := if f < 62 ∧ Builtin.bitAnd (pt.fdiv (2 ^ f.toNat)) 1 = 1 then 62 else f
noncomputable def actF (s : Nat) (f : Int) : Nat := if f = 62 then (if s = 0 then 1 else if s = 1 then 0 else s) else if f = 63 then (if s = 0 then 2 else if s = 2 then 0 else s) else s
noncomputable def runF (s : Nat) (fs : List Int) : Nat := fs.foldl actF s
theorem runF_append (s : Nat) (x y : List Int) : runF s (x ++ y) = runF (runF s x) y := by simp [runF]
theorem fmod3_in (x : Int) : x.fmod 3 = 0 ∨ x.fmod 3 = 1 ∨ x.fmod 3 = 2 := by
  rw [Int.fmod_eq_emod_of_nonneg _ (by decide)]
  omega
theorem zip3 {f : Int → Int → Int} (hf : ∀ x y, f x y = 0 ∨ f x y = 1 ∨ f x y = 2) : ∀ (a b : List Int), B3 (List.zipWith f a b)
  | [], _, x, h => by simp at h
  | _ :: _, [], x, h => by simp at h
  | a :: as, b :: bs, x, h => by
    rw [List.zipWith_cons_cons] at h
    rcases List.mem_cons.mp h with rfl | h
    · exact hf a b
    · exact zip3 hf as bs x h
theorem prog_in : ∀ (b : Nat) (t : List Int), b ≤ 4 → ∀ f ∈ progT b t, (0 ≤ f ∧ f < 4) ∨ f = 62 ∨ f = 63
  | 0, t, _, f, h => by
    unfold progT at h
    split at h
    · simp at h
    · split at h <;> simp at h <;> omega
  | b + 1, t, hb, f, h => by
    unfold progT at h
    simp only [List.mem_append, List.mem_singleton] at h
    rcases h with ((h | h) | h) | h
    · exact prog_in b _ (by omega) f h
    · left; omega
    · exact prog_in b _ (by omega) f h
    · left; omega
theorem prog_len : ∀ (b : Nat) (t : List Int), (progT b t).length + 2 ≤ 4 * 2 ^ b
  | 0, t => by
    unfold progT
    split
    · simp
    · split <;> simp
  | b + 1, t => by
    have h1 := prog_len b (List.zipWith loF (t.take (2 ^ b)) (t.drop (2 ^ b)))
    have h2 := prog_len b (List.zipWith hiF (t.take (2 ^ b)) (t.drop (2 ^ b)))
    unfold progT
    simp only [List.length_append, List.length_singleton]
    rw [Nat.pow_succ]
    omega
theorem getD_cases {t : List Int} (ht : B3 t) (j : Nat) (hj : j < t.length) : t.getD j 0 = 0 ∨ t.getD j 0 = 1 ∨ t.getD j 0 = 2 := by
  rw [List.getD_eq_getElem?_getD, List.getElem?_eq_getElem hj]
  exact ht _ (List.getElem_mem hj)
theorem zip_getD {f : Int → Int → Int} {a b : List Int} {j : Nat} (ha : j < a.length) (hb : j < b.length) : (List.zipWith f a b).getD j 0 = f (a.getD j 0) (b.getD j 0) := by
  simp only [List.getD_eq_getElem?_getD, List.getElem?_zipWith, List.getElem?_eq_getElem ha, List.getElem?_eq_getElem hb, Option.getD_some]
theorem take_getD {t : List Int} {n j : Nat} (h : j < n) : (t.take n).getD j 0 = t.getD j 0 := by
  simp only [List.getD_eq_getElem?_getD, List.getElem?_take, if_pos h]
theorem drop_getD {t : List Int} {n j : Nat} : (t.drop n).getD j 0 = t.getD (n + j) 0 := by
  simp only [List.getD_eq_getElem?_getD, List.getElem?_drop]
theorem laid_bit (pt b : Nat) (hb : b < 62) : laidF (pt : Int) (b : Int) = if pt / 2 ^ b % 2 = 1 then 62 else (b : Int) := by
  unfold laidF
  have e : Builtin.bitAnd (((pt : Nat) : Int).fdiv (2 ^ ((b : Nat) : Int).toNat)) 1 = ((pt / 2 ^ b % 2 : Nat) : Int) := by
    rw [bitAnd_m1, Int.toNat_natCast, Int.fdiv_eq_ediv_of_nonneg _ (Int.le_of_lt (kbt_pos b))]
    push_cast
    rfl
  rw [e]
  have hb' : (b : Int) < 62 := by omega
  by_cases h : pt / 2 ^ b % 2 = 1
  · rw [if_pos h, if_pos ⟨hb', by rw [h]; rfl⟩]
  · rw [if_neg h, if_neg (fun q => h (by have := q.2; omega))]
theorem bit_split (pt b : Nat) : pt % 2 ^ (b + 1) = (if pt / 2 ^ b % 2 = 1 then 2 ^ b else 0) + pt % 2 ^ b := by
  have h : pt % (2 ^ b * 2) = pt % 2 ^ b + 2 ^ b * (pt / 2 ^ b % 2) := Nat.mod_mul
  rw [Nat.pow_succ, h]
  split
  · rename_i q; rw [q]; omega
  · rename_i q
    have : pt / 2 ^ b % 2 = 0 := by omega
    rw [this]; omega
/-- a program turns the place by its figure -/
theorem run_prog : ∀ (b : Nat) (t : List Int) (pt s : Nat), b ≤ 4 → B3 t → t.length = 2 ^ b → s < 3 →
    runF s ((progT b t).map (laidF (pt : Int))) = (s + (t.getD (pt % 2 ^ b) 0).toNat) % 3
  | 0, t, pt, s, _, ht, hl, hs => by
    have hx := getD_cases ht 0 (by rw [hl]; decide)
    rw [Nat.pow_zero, Nat.mod_one]
    unfold progT
    have l2 : ∀ p : Int, laidF p 62 = 62 := fun p => if_neg (fun q => absurd q.1 (by decide))
    have l3 : ∀ p : Int, laidF p 63 = 63 := fun p => if_neg (fun q => absurd q.1 (by decide))
    have hs' : s = 0 ∨ s = 1 ∨ s = 2 := by omega
    rcases hx with e | e | e <;> rw [e]
    · rw [if_pos rfl]; rcases hs' with rfl | rfl | rfl <;> rfl
    · rw [if_neg (by decide), if_pos rfl, List.map_cons, List.map_cons, List.map_nil, l2, l3]; rcases hs' with rfl | rfl | rfl <;> decide
    · rw [if_neg (by decide), if_neg (by decide), List.map_cons, List.map_cons, List.map_nil, l2, l3]; rcases hs' with rfl | rfl | rfl <;> decide
  | b + 1, t, pt, s, hb, ht, hl, hs => by
    have hp : 2 ^ (b + 1) = 2 ^ b * 2 := Nat.pow_succ 2 b
    have l1 : (t.take (2 ^ b)).length = 2 ^ b := by rw [List.length_take]; omega
    have l2 : (t.drop (2 ^ b)).length = 2 ^ b := by rw [List.length_drop]; omega
    have hj : pt % 2 ^ b < 2 ^ b := Nat.mod_lt _ (Nat.pow_pos (by decide))
    have z : ∀ f : Int → Int → Int, (List.zipWith f (t.take (2 ^ b)) (t.drop (2 ^ b))).length = 2 ^ b := fun f => by rw [List.length_zipWith, l1, l2]; omega
    have g : ∀ f : Int → Int → Int, (List.zipWith f (t.take (2 ^ b)) (t.drop (2 ^ b))).getD (pt % 2 ^ b) 0 = f (t.getD (pt % 2 ^ b) 0) (t.getD (2 ^ b + pt % 2 ^ b) 0) := fun f => by
      rw [zip_getD (by omega) (by omega), take_getD hj, drop_getD]
    have i1 := fun s' hs' => run_prog b _ pt s' (by omega) (zip3 (f := loF) (fun x y => fmod3_in _) _ _) (z loF) hs'
    have i2 := fun s' hs' => run_prog b _ pt s' (by omega) (zip3 (f := hiF) (fun x y => fmod3_in _) _ _) (z hiF) hs'
    rw [g] at i1 i2
    have hx := getD_cases ht (pt % 2 ^ b) (by omega)
    have hy := getD_cases ht (2 ^ b + pt % 2 ^ b) (by omega)
    rw [bit_split]
    unfold progT
    rw [List.map_append, List.map_append, List.map_append, runF_append, runF_append, runF_append, List.map_cons, List.map_nil, laid_bit pt b (by omega)]
    have lt3 : ∀ n, n % 3 < 3 := fun n => Nat.mod_lt _ (by decide)
    rw [i1 s hs]
    generalize ex : t.getD (pt % 2 ^ b) 0 = x at i1 i2 hx ⊢
    have hs' : s = 0 ∨ s = 1 ∨ s = 2 := by omega
    by_cases q : pt / 2 ^ b % 2 = 1
    · rw [if_pos q, if_pos q]
      generalize t.getD (2 ^ b + pt % 2 ^ b) 0 = y at i1 i2 hy ⊢
      have e : ∀ r, r < 3 → runF r [62] < 3 := by decide
      rw [i2 _ (e _ (lt3 _))]
      rcases hx with rfl | rfl | rfl <;> rcases hy with rfl | rfl | rfl <;> rcases hs' with rfl | rfl | rfl <;> decide
    · rw [if_neg q, if_neg q, Nat.zero_add]
      generalize t.getD (2 ^ b + pt % 2 ^ b) 0 = y at i1 i2 hy ⊢
      have nf : ∀ r, runF r [(b : Int)] = r := fun r => by
        show actF r (b : Int) = r
        unfold actF
        rw [if_neg (by omega), if_neg (by omega)]
      rw [nf, nf, i2 _ (lt3 _), ex]
      rcases hx with rfl | rfl | rfl <;> rcases hy with rfl | rfl | rfl <;> rcases hs' with rfl | rfl | rfl <;> decide
/-! the line and the lexer's run over it -/
noncomputable def padN (l : Nat) : Nat := (-(l : Int)).fmod 4 |>.toNat
noncomputable def laidT (pt : Int) (prog : List Int) : List Int := prog.map (laidF pt) ++ List.replicate (padN prog.length) 61
theorem pad_lt (l : Nat) : padN l < 4 ∧ (l + padN l) % 4 = 0 := by
  unfold padN
  rw [Int.fmod_eq_emod_of_nonneg _ (by decide)]
  omega
noncomputable def chF (f : Int) : Nat := (chA 39 34 f).toNat
noncomputable def okF (f : Int) : Prop := 0 ≤ f ∧ f < 64
theorem laid_ok {b : Nat} {t : List Int} {pt : Int} (hb : b ≤ 4) : F64 (laidT pt (progT b t)) := by
  intro f hf
  unfold laidT at hf
  rcases List.mem_append.mp hf with hf | hf
  · obtain ⟨g, hg, rfl⟩ := List.mem_map.mp hf
    have := prog_in b t hb g hg
    unfold laidF
    split <;> omega
  · rw [List.eq_of_mem_replicate hf]
    decide
theorem laid_len {b : Nat} {t : List Int} {pt : Int} (hb : b ≤ 4) : (laidT pt (progT b t)).length % 4 = 0 ∧ (laidT pt (progT b t)).length ≤ 65 := by
  have h := prog_len b t
  have p := pad_lt (progT b t).length
  have e : 2 ^ b ≤ 2 ^ 4 := Nat.pow_le_pow_right (by decide) hb
  unfold laidT
  rw [List.length_append, List.length_map, List.length_replicate]
  omega
noncomputable def modeS (s : Nat) : Mode := if s = 0 then .a else if s = 1 then .q1 else .q2
noncomputable def outS (s : Nat) (f : Int) : List Nat := if f = 62 then (if s = 2 then [39] else []) else if f = 63 then (if s = 1 then [34] else []) else [chF f]
noncomputable def outF : Nat → List Int → List Nat
  | _, [] => []
  | s, f :: r => outS s f ++ outF (actF s f) r
theorem chF_let {f : Int} (h : 0 ≤ f ∧ f < 62) : isLet (chF f) = true := by
  have : ∀ k < 62, isLet (chF ((k : Nat) : Int)) = true := by decide +kernel
  obtain ⟨k, rfl⟩ := Int.eq_ofNat_of_zero_le h.1
  exact this k (by omega)
theorem let_ne1 {c : Nat} (h : isLet c = true) : c ≠ 39 ∧ c ≠ 34 ∧ c ≠ 92 := by
  simp only [isLet, Bool.or_eq_true, Bool.and_eq_true, decide_eq_true_eq] at h
  omega
theorem act_lt {s : Nat} (hs : s < 3) (f : Int) : actF s f < 3 := by
  unfold actF
  split
  · split
    · decide
    · split <;> omega
  · split
    · split
      · decide
      · split <;> omega
    · exact hs
theorem step_sign {s : Nat} {f : Int} (hs : s < 3) (hf : 0 ≤ f ∧ f < 64) : stepM (modeS s) (chF f) = (modeS (actF s f), outS s f) := by
  have hs' : s = 0 ∨ s = 1 ∨ s = 2 := by omega
  by_cases h2 : f = 62
  · subst h2
    rcases hs' with rfl | rfl | rfl <;> decide +kernel
  · by_cases h3 : f = 63
    · subst h3
      rcases hs' with rfl | rfl | rfl <;> decide +kernel
    · obtain ⟨n1, n2, n3⟩ := let_ne1 (chF_let (f := f) (by omega))
      have ea : actF s f = s := by unfold actF; rw [if_neg h2, if_neg h3]
      have eo : outS s f = [chF f] := by unfold outS; rw [if_neg h2, if_neg h3]
      rw [ea, eo]
      generalize chF f = c at *
      rcases hs' with rfl | rfl | rfl
      · show stepM .a c = _
        simp only [stepM, if_neg n1, if_neg n2, if_neg n3]; rfl
      · show stepM .q1 c = _
        simp only [stepM, if_neg n1]; rfl
      · show stepM .q2 c = _
        simp only [stepM, if_neg n2, if_neg n3]; rfl
theorem run_line : ∀ (fs : List Int) (s : Nat) (tl : List Nat), s < 3 → F64 fs →
    runM (modeS s) (fs.map chF ++ tl) = (outF s fs ++ (runM (modeS (runF s fs)) tl).1, (runM (modeS (runF s fs)) tl).2)
  | [], _, _, _, _ => rfl
  | f :: r, s, tl, hs, h => by
    have ih := run_line r (actF s f) tl (act_lt hs f) (fun x hx => h x (List.mem_cons_of_mem _ hx))
    rw [List.map_cons, List.cons_append, runM, step_sign hs (h f (by simp))]
    dsimp only
    rw [ih, outF]
    simp [runF]
noncomputable def endS (s : Nat) : List Nat := if s = 0 then [39, 34, 92] else if s = 1 then [92, 34, 92] else [92, 39, 39, 39]
theorem run_endS {s : Nat} (hs : s < 3) : runM (modeS s) [92, 39, 39, 34, 92, 39] = (endS s, .a) := by
  have hs' : s = 0 ∨ s = 1 ∨ s = 2 := by omega
  rcases hs' with rfl | rfl | rfl <;> rfl
theorem run_w (l : List Nat) (h : l ≠ []) : runM .w l = runM .a l := by
  cases l with
  | nil => exact absurd rfl h
  | cons c r => rfl
noncomputable def textP (fs : List Int) : List Nat := fs.map chF ++ [92, 39, 39, 34, 92, 39]
noncomputable def outP (fs : List Int) : List Nat := outF 0 fs ++ endS (runF 0 fs)
theorem runF_lt : ∀ (fs : List Int) (s : Nat), s < 3 → runF s fs < 3
  | [], _, h => h
  | f :: r, s, h => runF_lt r (actF s f) (act_lt h f)
theorem run_textP {fs : List Int} (h : F64 fs) : runM .w (textP fs) = (outP fs, .a) := by
  have hn : textP fs ≠ [] := by unfold textP; simp
  rw [run_w _ hn]
  have := run_line fs 0 [92, 39, 39, 34, 92, 39] (by decide) h
  unfold textP
  show runM (modeS 0) _ = _
  rw [this, run_endS (runF_lt fs 0 (by decide))]
  rfl
theorem textP_ok {fs : List Int} (h : F64 fs) : ∀ c ∈ textP fs, okC c := by
  intro c hc
  unfold textP at hc
  rcases List.mem_append.mp hc with hc | hc
  · obtain ⟨f, hf, rfl⟩ := List.mem_map.mp hc
    have hb := h f hf
    by_cases h2 : f = 62
    · subst h2; exact .inr (.inl (by decide +kernel))
    · by_cases h3 : f = 63
      · subst h3; exact .inr (.inr (.inl (by decide +kernel)))
      · exact .inl (chF_let (by omega))
  · simp only [List.mem_cons, List.not_mem_nil, or_false] at hc
    unfold okC
    rcases hc with rfl | rfl | rfl | rfl | rfl | rfl <;> decide
theorem endS_len (s : Nat) : 3 ≤ (endS s).length ∧ (endS s).length ≤ 4 := by
  unfold endS
  split
  · decide
  · split <;> decide
theorem outS_len (s : Nat) (f : Int) : (outS s f).length ≤ 1 := by
  unfold outS
  split
  · split <;> decide
  · split
    · split <;> decide
    · exact Nat.le_refl 1
theorem outF_len : ∀ (fs : List Int) (s : Nat), (outF s fs).length ≤ fs.length
  | [], _ => Nat.le_refl _
  | f :: r, s => by
    have := outF_len r (actF s f)
    have := outS_len s f
    rw [outF, List.length_append, List.length_cons]
    omega
theorem outP_len (fs : List Int) : (outP fs).length ≤ fs.length + 4 ∧ outP fs ≠ [] := by
  have := outF_len fs 0
  have h := endS_len (runF 0 fs)
  unfold outP
  constructor
  · rw [List.length_append]; omega
  · intro e
    have := (List.append_eq_nil_iff.mp e).2
    rw [this] at h
    simp at h
theorem textP_len (fs : List Int) : (textP fs).length = fs.length + 6 ∧ textP fs ≠ [] := by
  unfold textP
  constructor
  · simp
  · simp
/-! the letters that are left -/
theorem outS_let {s : Nat} {f : Int} (hf : 0 ≤ f ∧ f < 64) : (outS s f).filter isLet = if f < 62 then [chF f] else [] := by
  unfold outS
  by_cases h2 : f = 62
  · subst h2
    rw [if_pos rfl]
    split <;> rfl
  · by_cases h3 : f = 63
    · subst h3
      rw [if_neg (by decide), if_pos rfl]
      split <;> rfl
    · rw [if_neg h2, if_neg h3, if_pos (by omega)]
      rw [List.filter_cons_of_pos (chF_let (by omega))]
      rfl
theorem outF_let : ∀ (fs : List Int) (s : Nat), F64 fs → (outF s fs).filter isLet = (fs.filter (fun f => decide (f < 62))).map chF
  | [], _, _ => rfl
  | f :: r, s, h => by
    have ih := outF_let r (actF s f) (fun x hx => h x (List.mem_cons_of_mem _ hx))
    rw [outF, List.filter_append, ih, outS_let (h f (by simp))]
    by_cases q : f < 62
    · rw [if_pos q, List.filter_cons_of_pos (by simpa using q)]
      rfl
    · rw [if_neg q, List.filter_cons_of_neg (by simpa using q)]
      rfl
theorem endS_let (s : Nat) : (endS s).filter isLet = [] := by
  unfold endS
  split
  · rfl
  · split <;> rfl
theorem outP_let {fs : List Int} (h : F64 fs) : (outP fs).filter isLet = (fs.filter (fun f => decide (f < 62))).map chF := by
  unfold outP
  rw [List.filter_append, outF_let fs 0 h, endS_let, List.append_nil]
theorem pad_run (s n : Nat) : runF s (List.replicate n 61) = s := by
  induction n with
  | zero => rfl
  | succ n ih => exact ih
/-- what the law tells -/
theorem laid_run {b : Nat} {t : List Int} {pt : Nat} (hb : b ≤ 4) (ht : B3 t) (hl : t.length = 2 ^ b) (hp : pt < 2 ^ b) : runF 0 (laidT (pt : Int) (progT b t)) = (t.getD pt 0).toNat := by
  unfold laidT
  rw [runF_append, pad_run, run_prog b t pt 0 hb ht hl (by decide), Nat.mod_eq_of_lt hp, Nat.zero_add]
  rcases getD_cases ht pt (by omega) with e | e | e <;> rw [e] <;> rfl
end Mine
end
section
open PySem PySem.W PyProof.Rows
set_option Elab.async false
set_option maxRecDepth 100000
set_option maxHeartbeats 0
namespace Mine
/-! A head of my own: the whole top by one evaluation over tree heaps. -/
noncomputable def topR (tb : String → Option Builtin) (p : Program) (w : World) (n₀ : Nat) (ann : Option Value) (n : Nat) : SharedT → Thread → Option SharedT :=
  @Nat.rec (fun _ => SharedT → Thread → Option SharedT) (fun _ _ => none) (fun _ ih s t =>
    @Bool.rec (fun _ => Option SharedT) (@Bool.rec (fun _ => Option SharedT) none (@Option.rec (SharedT × Thread) (fun _ => Option SharedT) none (fun r => @Prod.rec SharedT Thread (fun _ => Option SharedT) (fun s' t' => ih s' t') r) (stepT (denote tb) p w s t)) (stepOk n₀ ann t)) (some s) (through t)) n
theorem topR_succ {tb : String → Option Builtin} {p : Program} {w : World} {n₀ : Nat} {ann : Option Value} {n : Nat} {s : SharedT} {t : Thread} : topR tb p w n₀ ann (n + 1) s t =
    @Bool.rec (fun _ => Option SharedT) (@Bool.rec (fun _ => Option SharedT) none (@Option.rec (SharedT × Thread) (fun _ => Option SharedT) none (fun r => @Prod.rec SharedT Thread (fun _ => Option SharedT) (fun s' t' => topR tb p w n₀ ann n s' t') r) (stepT (denote tb) p w s t)) (stepOk n₀ ann t)) (some s) (through t) := rfl
theorem topR_of {tb : String → Option Builtin} {p : Program} {w : World} {n₀ : Nat} {ann : Option Value} : ∀ {n : Nat} {s s' : SharedT} {t : Thread}, topR tb p w n₀ ann n s t = some s' → topRun tb p w n₀ ann n s.abs t = some s'.abs
  | 0, _, _, _, h => by cases h
  | n + 1, s, s', t, h => by
    rw [topR_succ] at h
    unfold topRun
    cases he : through t with
    | true => rw [he] at h; cases h; rfl
    | false =>
      rw [he] at h
      cases hk : stepOk n₀ ann t with
      | false => rw [hk] at h; cases h
      | true =>
        rw [hk] at h
        cases hs : stepT (denote tb) p w s t with
        | none => rw [hs] at h; cases h
        | some r => obtain ⟨s₂, t₂⟩ := r; rw [hs] at h; rw [stepT_spec hs]; exact topR_of h

noncomputable def impR (tb : String → Option Builtin) (p : Program) (w : World) (n : Nat) : SharedT → Thread → Option SharedT :=
  @Nat.rec (fun _ => SharedT → Thread → Option SharedT) (fun _ _ => none) (fun _ ih s t =>
    @Option.rec (List Value) (fun _ => Option SharedT) (@Option.rec (SharedT × Thread) (fun _ => Option SharedT) none (fun r => @Prod.rec SharedT Thread (fun _ => Option SharedT) (fun s' t' => ih s' t') r) (stepT (denote tb) p w s t))
      (fun l => @List.rec Value (fun _ => Option SharedT) (some s) (fun _ _ _ => none) l) t.atExitBegin) n
theorem impR_succ {tb : String → Option Builtin} {p : Program} {w : World} {n : Nat} {s : SharedT} {t : Thread} : impR tb p w (n + 1) s t =
    @Option.rec (List Value) (fun _ => Option SharedT) (@Option.rec (SharedT × Thread) (fun _ => Option SharedT) none (fun r => @Prod.rec SharedT Thread (fun _ => Option SharedT) (fun s' t' => impR tb p w n s' t') r) (stepT (denote tb) p w s t))
      (fun l => @List.rec Value (fun _ => Option SharedT) (some s) (fun _ _ _ => none) l) t.atExitBegin := rfl
theorem impR_of {tb : String → Option Builtin} {p : Program} {w : World} : ∀ {n : Nat} {s s' : SharedT} {t : Thread}, impR tb p w n s t = some s' → importEnds tb p w n s.abs t = some s'.abs
  | 0, _, _, _, h => by cases h
  | n + 1, s, s', t, h => by
    rw [impR_succ] at h
    unfold importEnds
    cases he : t.atExitBegin with
    | some l =>
      rw [he] at h
      cases l with
      | nil => cases h; rfl
      | cons => cases h
    | none =>
      rw [he] at h
      cases hs : stepT (denote tb) p w s t with
      | none => rw [hs] at h; cases h
      | some r => obtain ⟨s₂, t₂⟩ := r; rw [hs] at h; rw [stepT_spec hs]; exact impR_of h

noncomputable def startR (p : Program) : SharedT := ⟨.nil, 0, (start p).1.heap.life, (start p).1.gens, (start p).1.drawn, (start p).1.toks, (start p).1.os⟩
theorem startR_abs (p : Program) : (startR p).abs = (start p).1 := rfl

/-- a heap as a tree -/
noncomputable def layR (l : List Obj) : BT → Nat → Option (BT × Nat) :=
  @List.rec Obj (fun _ => BT → Nat → Option (BT × Nat)) (fun T n => some (T, n)) (fun o _ ih T n => @Bool.rec (fun _ => Option (BT × Nat)) none (ih (T.ins n o) (n + 1)) ((T.ins n o).get n).isSome) l
theorem layR_of {life : Life} : ∀ {l : List Obj} {T T' : BT} {n n' : Nat}, layR l T n = some (T', n') → absHeap T' n' life = ⟨(absHeap T n life).objs ++ l.toArray, life⟩
  | [], T, T', n, n', h => by cases h; simp [absHeap]
  | o :: l, T, T', n, n', h => by
    have h' : @Bool.rec (fun _ => Option (BT × Nat)) none (layR l (T.ins n o) (n + 1)) ((T.ins n o).get n).isSome = some (T', n') := h
    cases hb : ((T.ins n o).get n).isSome with
    | false => rw [hb] at h'; cases h'
    | true =>
      rw [hb] at h'
      rw [layR_of (life := life) h', absHeap_ins hb]
      simp [Heap.push]
noncomputable def toR (s : Shared) : Option SharedT := (layR s.heap.objs.toList .nil 0).map fun r => ⟨r.1, r.2, s.heap.life, s.gens, s.drawn, s.toks, s.os⟩
theorem toR_abs {s : Shared} {r : SharedT} (h : toR s = some r) : r.abs = s := by
  unfold toR at h
  obtain ⟨⟨T, n⟩, h1, h2⟩ := Option.map_eq_some_iff.mp h
  subst h2
  have e := layR_of (life := s.heap.life) h1
  show (⟨absHeap T n s.heap.life, s.gens, s.drawn, s.toks, s.os⟩ : Shared) = s
  rw [e]
  obtain ⟨⟨objs, life⟩, gens, drawn, toks, os⟩ := s
  simp [absHeap, BT.list]

noncomputable def getsR (as : List Addr) (r : SharedT) : List (Option Obj) := as.map fun a => @Bool.rec (fun _ => Option Obj) none ((r.tree.get a).bind alive) (Nat.blt a r.n)
theorem getsR_of {r : SharedT} : ∀ {as : List Addr} {l : List Obj}, getsR as r = l.map some → as.map r.abs.heap.get? = l.map some
  | [], [], _ => rfl
  | [], _ :: _, h => by cases h
  | _ :: _, [], h => by cases h
  | a :: as, o :: l, h => by
    have h' : (@Bool.rec (fun _ => Option Obj) none ((r.tree.get a).bind alive) (Nat.blt a r.n)) :: getsR as r = some o :: l.map some := h
    obtain ⟨h1, h2⟩ := List.cons.inj h'
    have e := getsR_of h2
    rw [List.map_cons, List.map_cons, e]
    congr 1
    cases hb : Nat.blt a r.n with
    | false => rw [hb] at h1; cases h1
    | true =>
      rw [hb] at h1
      have lt : a < r.n := Nat.le_of_ble_eq_true hb
      obtain ⟨o', g, al⟩ := Option.bind_eq_some_iff.mp h1
      show (absHeap r.tree r.n r.life).get? a = some o
      rw [abs_get lt g, al]

noncomputable def leftR (p q : Program) (loose : List Str) (Xt : Shared → Bool) (as : List Addr) (N : Nat) (w : World) :=
  (impR treeTable (opening p) w N (startR (opening p)) (start (opening p)).2).bind fun s => (fenceModules? p s.abs).bind fun s₀ => (toR s₀).bind fun r₀ =>
    (topR treeTable p w s₀.heap.objs.size (s₀.heap.nsMap mainGlobals "__annotations__") N r₀ (topStub p)).map fun r =>
      ((s₀.heap.isNs mainGlobals && s₀.gens.size == 0, staticsOk (importedModules p.main.body) s₀.heap r.abs.heap && namesBound p r.abs.heap && gensDone r.abs && laidKept s₀.heap r.abs.heap), openSeen q loose (importedModules p.main.body) Xt true r.abs, getsR as r)
theorem left_of {p q : Program} {loose : List Str} {Xt : Shared → Bool} {K : Params → Frag} {as : List Addr} {N : Nat}
    (h : ∀ w, leftR p q loose Xt as N w = some ((true, true), openGood q loose, (K w.params).map fun x => some x.2)) : LeftO p q loose Xt (fun s => as.map s.heap.get?) (fun w => (K w.params).map fun x => some x.2) N := fun w => by
  have e := h w
  unfold leftR at e
  obtain ⟨s, h1, e⟩ := Option.bind_eq_some_iff.mp e
  obtain ⟨s₀, h2, e⟩ := Option.bind_eq_some_iff.mp e
  obtain ⟨r₀, h3, e⟩ := Option.bind_eq_some_iff.mp e
  obtain ⟨r, h4, e⟩ := Option.map_eq_some_iff.mp e
  obtain ⟨⟨z1, z2⟩, z3, z4⟩ : (_ ∧ _) ∧ _ ∧ _ := by simpa only [Prod.mk.injEq] using e
  have z5 : as.map r.abs.heap.get? = (K w.params).map fun x => some x.2 := by
    have e' : ((K w.params).map fun x => some x.2) = ((K w.params).map (·.2)).map some := by rw [List.map_map]; rfl
    rw [e'] at z4 ⊢
    exact getsR_of z4
  have i := impR_of h1
  rw [startR_abs] at i
  have t := topR_of h4
  rw [toR_abs h3] at t
  have tf : topFrom treeTable p w N s₀ = some r.abs := by
    unfold topFrom
    rw [z1, t]
    show (match staticsOk (importedModules p.main.body) s₀.heap r.abs.heap && namesBound p r.abs.heap && gensDone r.abs && laidKept s₀.heap r.abs.heap with | true => _ | false => _) = _
    rw [z2]
  unfold openEnds fencedOpening
  rw [i]
  show ((fenceModules? p s.abs).bind (topFrom treeTable p w N)).map _ = _
  rw [h2]
  show (topFrom treeTable p w N s₀).map _ = _
  rw [tf]
  exact congrArg some (Prod.ext z3 z5)

theorem and2 {a b : Bool} (ha : a = true) (hb : b = true) : (a && b) = true := by rw [ha, hb]; rfl
theorem said01 : Challenge.rw_op0202_01.wellSaid = true := by
  unfold OpenLaw.wellSaid
  unfold OpenRow.wellSaid OpenRow.partSaid looksOpen
  repeat' (with_reducible refine and2 ?_ ?_)
  all_goals decide +kernel
noncomputable def goodR (q : Program) (loose : List Str) := openGood q loose
lay_quick Mine.leftR Mine.goodR
noncomputable def Q01 : Program := view Challenge.pw_op0202_01 [0, 1, 3, 4, 5, 6, 7, 8, 9, 10, 12, 13, 14, 15, 16, 17, 19, 22, 23, 24, 29, 30, 31, 32, 33, 34, 35, 36, 37, 39, 40, 41, 42, 43]
noncomputable abbrev loose01 : List Str := ["UnsupportedOperation", "IOBase", "BufferedIOBase", "TextIOBase", "BytesIO", "StringIO", "shlex", "split", "b2a_base64", "b64encode"]
local macro_rules | `(tactic| o_law) => `(tactic| refine holds_law said01 fun said => ?_)
set_option hygiene false in
local macro_rules | `(tactic| o_head $H) => `(tactic| (
  refine holds_open (q := Q01) (loose := loose01) (Xt := fun s => xlAt Q01 [] s && recOk [] s) (XP := XL Q01 []) (Yf := Hook.obs $H) (Ya := Hook.val $H) (YP := Hook.says $H) (N := 6000) ?hl (Hook.of $H) (Hook.keeps $H) (fun s e => xl_of s (Bool.and_eq_true_iff.mp e).1) XL.keeps (by rfl) (by rfl) (by rfl) (fun s e => recFacts_of (Bool.and_eq_true_iff.mp e).2) (by rfl) (by first | assumption | decide +kernel) (by decide +kernel) ⟨rfl, rfl, rfl, rfl, rfl, by decide +kernel⟩ ?hw ?hc
  case hl =>
    refine left_of (p := Challenge.pw_op0202_01) ?_
    intro w
    show leftR Challenge.pw_op0202_01 Q01 loose01 _ _ 6000 w = some ((true, true), goodR Q01 loose01, _)
    rw [PySem.W.Fast.te11439460737713216136, PySem.W.Fast.te6507052236452232414]
    kernel_rfl))
open_top hd01 for PySem.Challenge.rw_op0202_01
theorem execs_one {M : Model} {A : Around} {E : Value → Shared → Prop} {s : Shared} {env : Env} {st : Stmt} {Q : Flow → Shared → Prop} (h : wpAny M A (exec st env) Q E s) : wpAny M A (execs [st] env) Q E s :=
  wpAny_execs_cons (wpAny_mono h (fun f s' hq => by cases f <;> first | exact wpAny_execs_nil hq | exact hq) fun _ _ e => e)
end Mine
end
section
open PySem PySem.W PyProof.Rows
set_option Elab.async false
set_option maxRecDepth 100000
set_option maxHeartbeats 0
namespace Mine
local macro_rules | `(tactic| k_room) => `(tactic| ktr_room)
local macro_rules | `(tactic| k_units) => `(tactic| ktr_units)
local macro_rules | `(tactic| k_all) => `(tactic| assumption)
local macro_rules | `(tactic| k_mem) => `(tactic| assumption)
local macro_rules | `(tactic| walk_at "execs cons") => `(tactic| (k_here; with_reducible refine execs_one ?_))
local macro_rules | `(tactic| walk_at "exec If") => `(tactic| refine wpAny_If ?_)
local macro_rules | `(tactic| walk_at "getAttr ref") => `(tactic| (k_here; k_dflt (refine' get_own ?k1 ?k2 ?k3 ?k4 ?k5 ?k6 ?k7 ?k8 ?k9 ?_; (case k1 => k_asm); (case k2 => k_asm); (case k3 => k_inst); (case k4 => k_is); (case k5 => k_is); (case k6 => k_is); (case k7 => k_is); (case k8 => k_get); (case k9 => k_handed); k_whole)))
local macro_rules | `(tactic| walk_at "eval Name") => `(tactic| (k_here; k_dflt (refine' ld ?k1 ?k2 ?_; (case k1 => k_asm); (case k2 => exact rfl); k_whole)))
local macro_rules | `(tactic| walk_at "ite") => `(tactic| first | with_reducible refine ite_tt ?_ | with_reducible refine ite_ff ?_)
section
theorem off_IO : True := by
  w_top off
  trivial
noncomputable def ioD (h1 h2 h3 : Int) (t1 t2 t3 t4 t5 t6 : Tok) (nl buf : Str) (pos : Int) : List DictEntry :=
  [⟨h1, .str "_StringIO__newline" t1, .str nl t2⟩, ⟨h2, .str "_StringIO__buf" t3, .str buf t4⟩, ⟨h3, .str "_StringIO__pos" t5, .int pos t6⟩]

theorem c_read (w : World) (rest : List (Addr × Obj)) (io dio : Addr) (h1 h2 h3 : Int) (t1 t2 t3 t4 t5 t6 t7 : Tok) (nl : Str) (pre post : List Nat) (c : Nat)
   (m1 : (io, instObj 587 dio) ∈ rest) (hne : ∀ p ∈ rest, p.1 ≠ dio) (hsz : pre.length + post.length < 1000) (buf : Str) (hbuf : buf = ⟨(pre ++ c :: post).toArray⟩) (pos : Int) (hpos : pos = (pre.length : Int))
   (news : List (Addr × Obj)) (hnews : news = (dio, dictOf (ioD h1 h2 h3 t1 t2 t3 t4 t5 t6 nl buf pos) 3) :: rest) :
  ∀ (p : Program) (loose : List Str) (mean : ExcName → Option Value) (mg mb : Str → Option Value) (dp un : Nat) (gd : Option (List Code)) (cn : Str) (cs : Scope) (a : Addr) (ccd : Value) (cl : List (Str × Addr)) (outer : List Env) (A₀ : Around) (base h₀ : Heap) (L : Addr) (m : Str → Option Value) (s : Shared) (Q E : Value → Shared → Prop),
    Below A₀ base outer h₀ → Fr h₀ L s.heap m → (hd01.heap_1 w.params).In h₀ → News h₀ L s.heap news → Top p loose mean mg mb h₀ → cs.kind = .function → dp + 5 < recursionLimit → un + 40 < cLine →
    (∀ t t' h' tk', Fr h₀ L h' m → News h₀ L h' ((dio, dictOf (ioD h1 h2 h3 t1 t2 t3 t4 t5 t' nl buf (pos + 1)) 3) :: rest) → Q (.str ⟨#[c]⟩ t) { s with heap := h', toks := tk' }) →
    wpAny (model Challenge.rw_op0202_01.row.prog w) (ktrTop dp un gd cn cs L a ccd cl outer) (call (.ref 533) [.ref io, .int 1 t7]) Q E s := by
  subst hnews
  have hlen : buf.length = pre.length + 1 + post.length := by
    subst hbuf
    show (pre ++ c :: post).toArray.size = _
    simp; omega
  have hsl : Txt.slice buf (some pos) (some (pos + 1)) = ⟨#[c]⟩ := by subst hbuf hpos; exact slice_one pre c post
  have hp0 : 0 ≤ pos := by omega
  have hp1 : pos < buf.length := by omega
  have hs1 : buf.length ≤ 1000 := by omega
  clear hbuf hpos hlen hsz
  k_fill
  intros
  rename_i hret
  (refine wpAny_call ?_; k_dflt (refine' code_def ?k1 ?k2 ?k3 ?k4 ?k5 ?kA ?kF ?kK ?k6 ?k7 ?k8 ?k9 ?kB ?_ ?c2 ?c3 ?c4 ?c5; (case kA => exact rfl); (case kF => exact rfl); (case kK => assumption); (case k1 => k_asm); (case k2 => k_asm); (case k3 => k_asm); (case k4 => k_asm); (case k5 => k_asm); (case k6 => k_is); (case k7 => k_is); (case k8 => ktr_room); (case k9 => first | exact BindsTo.of_eq rfl | exact binds_K (by k_in) rfl (by k_is) rfl rfl rfl); (case c5 => decide); (case kB => exact locs rfl); (case c2 => exact rfl); (case c3 => exact rfl); (case c4 => exact rfl); k_whole; intro g' L' h' FG' F' N' B' X' T'; (try dsimp only); (try k_lift B'); (try k_fold)))
  k_steps
  · rw [hsl]
    exact hret _ _ _ _ (by k_asm) (by k_asm)
  · have e : (buf.length : Int) = pos + 1 := by simp only [decide_eq_false_iff_not] at *; omega
    rename News _ _ _ _ => N
    rw [e] at N
    rw [e, hsl]
    exact hret _ _ _ _ (by k_asm) N

theorem c_read_end (w : World) (news : List (Addr × Obj)) (io dio : Addr) (h1 h2 h3 : Int) (t1 t2 t3 t4 t5 t6 t7 : Tok) (nl buf : Str) (pos : Int)
   (m1 : (io, instObj 587 dio) ∈ news) (m2 : (dio, dictOf (ioD h1 h2 h3 t1 t2 t3 t4 t5 t6 nl buf pos) 3) ∈ news) (hp1 : buf.length ≤ pos) (hs1 : buf.length ≤ 1000) :
  ∀ (p : Program) (loose : List Str) (mean : ExcName → Option Value) (mg mb : Str → Option Value) (dp un : Nat) (gd : Option (List Code)) (cn : Str) (cs : Scope) (a : Addr) (ccd : Value) (cl : List (Str × Addr)) (outer : List Env) (A₀ : Around) (base h₀ : Heap) (L : Addr) (m : Str → Option Value) (s : Shared) (Q E : Value → Shared → Prop),
    Below A₀ base outer h₀ → Fr h₀ L s.heap m → (hd01.heap_1 w.params).In h₀ → News h₀ L s.heap news → Top p loose mean mg mb h₀ → cs.kind = .function → dp + 5 < recursionLimit → un + 40 < cLine →
    (∀ t h' tk', Fr h₀ L h' m → News h₀ L h' news → Q (.str "" t) { s with heap := h', toks := tk' }) →
    wpAny (model Challenge.rw_op0202_01.row.prog w) (ktrTop dp un gd cn cs L a ccd cl outer) (call (.ref 533) [.ref io, .int 1 t7]) Q E s := by
  k_fill
  intros
  rename_i hret
  (refine wpAny_call ?_; k_dflt (refine' code_def ?k1 ?k2 ?k3 ?k4 ?k5 ?kA ?kF ?kK ?k6 ?k7 ?k8 ?k9 ?kB ?_ ?c2 ?c3 ?c4 ?c5; (case kA => exact rfl); (case kF => exact rfl); (case kK => assumption); (case k1 => k_asm); (case k2 => k_asm); (case k3 => k_asm); (case k4 => k_asm); (case k5 => k_asm); (case k6 => k_is); (case k7 => k_is); (case k8 => ktr_room); (case k9 => first | exact BindsTo.of_eq rfl | exact binds_K (by k_in) rfl (by k_is) rfl rfl rfl); (case c5 => decide); (case kB => exact locs rfl); (case c2 => exact rfl); (case c3 => exact rfl); (case c4 => exact rfl); k_whole; intro g' L' h' FG' F' N' B' X' T'; (try dsimp only); (try k_lift B'); (try k_fold)))
  k_steps
  exact hret _ _ _ (by k_asm) (by k_asm)
end
section
local macro_rules | `(tactic| walk_at "none OP 0") => `(tactic| fail)

theorem off_OP : True := by
  w_top off
  trivial
theorem c_add (w : World) (news : List (Addr × Obj)) (x y : Int) (tx ty : Tok) :
  ∀ (p : Program) (loose : List Str) (mean : ExcName → Option Value) (mg mb : Str → Option Value) (dp un : Nat) (gd : Option (List Code)) (cn : Str) (cs : Scope) (a : Addr) (ccd : Value) (cl : List (Str × Addr)) (outer : List Env) (A₀ : Around) (base h₀ : Heap) (L : Addr) (m : Str → Option Value) (s : Shared) (Q E : Value → Shared → Prop),
    Below A₀ base outer h₀ → Fr h₀ L s.heap m → (hd01.heap_1 w.params).In h₀ → News h₀ L s.heap news → Top p loose mean mg mb h₀ → cs.kind = .function → dp + 1 < recursionLimit → un + 8 < cLine →
    (∀ t h' tk', Fr h₀ L h' m → News h₀ L h' news → Q (.int (x + y) t) { s with heap := h', toks := tk' }) →
    wpAny (model Challenge.rw_op0202_01.row.prog w) (ktrTop dp un gd cn cs L a ccd cl outer) (call (.ref 771) [.int x tx, .int y ty]) Q E s := by
  k_fill
  intros
  rename_i hret
  (refine wpAny_call ?_; k_dflt (refine' code_def ?k1 ?k2 ?k3 ?k4 ?k5 ?kA ?kF ?kK ?k6 ?k7 ?k8 ?k9 ?kB ?_ ?c2 ?c3 ?c4 ?c5; (case kA => exact rfl); (case kF => exact rfl); (case kK => assumption); (case k1 => k_asm); (case k2 => k_asm); (case k3 => k_asm); (case k4 => k_asm); (case k5 => k_asm); (case k6 => k_is); (case k7 => k_is); (case k8 => ktr_room); (case k9 => first | exact BindsTo.of_eq rfl | exact binds_K (by k_in) rfl (by k_is) rfl rfl rfl); (case c5 => decide); (case kB => exact locs rfl); (case c2 => exact rfl); (case c3 => exact rfl); (case c4 => exact rfl); k_whole; intro g' L' h' FG' F' N' B' X' T'; (try dsimp only); (try k_lift B'); (try k_fold)))
  k_steps
  exact hret _ _ _ (by k_asm) (by k_asm)
theorem c_and_ (w : World) (news : List (Addr × Obj)) (x y : Int) (tx ty : Tok) :
  ∀ (p : Program) (loose : List Str) (mean : ExcName → Option Value) (mg mb : Str → Option Value) (dp un : Nat) (gd : Option (List Code)) (cn : Str) (cs : Scope) (a : Addr) (ccd : Value) (cl : List (Str × Addr)) (outer : List Env) (A₀ : Around) (base h₀ : Heap) (L : Addr) (m : Str → Option Value) (s : Shared) (Q E : Value → Shared → Prop),
    Below A₀ base outer h₀ → Fr h₀ L s.heap m → (hd01.heap_1 w.params).In h₀ → News h₀ L s.heap news → Top p loose mean mg mb h₀ → cs.kind = .function → dp + 1 < recursionLimit → un + 8 < cLine →
    (∀ t h' tk', Fr h₀ L h' m → News h₀ L h' news → Q (.int (Builtin.bitAnd x y) t) { s with heap := h', toks := tk' }) →
    wpAny (model Challenge.rw_op0202_01.row.prog w) (ktrTop dp un gd cn cs L a ccd cl outer) (call (.ref 778) [.int x tx, .int y ty]) Q E s := by
  k_fill
  intros
  rename_i hret
  (refine wpAny_call ?_; k_dflt (refine' code_def ?k1 ?k2 ?k3 ?k4 ?k5 ?kA ?kF ?kK ?k6 ?k7 ?k8 ?k9 ?kB ?_ ?c2 ?c3 ?c4 ?c5; (case kA => exact rfl); (case kF => exact rfl); (case kK => assumption); (case k1 => k_asm); (case k2 => k_asm); (case k3 => k_asm); (case k4 => k_asm); (case k5 => k_asm); (case k6 => k_is); (case k7 => k_is); (case k8 => ktr_room); (case k9 => first | exact BindsTo.of_eq rfl | exact binds_K (by k_in) rfl (by k_is) rfl rfl rfl); (case c5 => decide); (case kB => exact locs rfl); (case c2 => exact rfl); (case c3 => exact rfl); (case c4 => exact rfl); k_whole; intro g' L' h' FG' F' N' B' X' T'; (try dsimp only); (try k_lift B'); (try k_fold)))
  k_steps
  exact hret _ _ _ (by k_asm) (by k_asm)
theorem c_floordiv (w : World) (news : List (Addr × Obj)) (x : Int) (tx ty : Tok) :
  ∀ (p : Program) (loose : List Str) (mean : ExcName → Option Value) (mg mb : Str → Option Value) (dp un : Nat) (gd : Option (List Code)) (cn : Str) (cs : Scope) (a : Addr) (ccd : Value) (cl : List (Str × Addr)) (outer : List Env) (A₀ : Around) (base h₀ : Heap) (L : Addr) (m : Str → Option Value) (s : Shared) (Q E : Value → Shared → Prop),
    Below A₀ base outer h₀ → Fr h₀ L s.heap m → (hd01.heap_1 w.params).In h₀ → News h₀ L s.heap news → Top p loose mean mg mb h₀ → cs.kind = .function → dp + 1 < recursionLimit → un + 8 < cLine →
    (∀ t h' tk', Fr h₀ L h' m → News h₀ L h' news → Q (.int (x.fdiv 3) t) { s with heap := h', toks := tk' }) →
    wpAny (model Challenge.rw_op0202_01.row.prog w) (ktrTop dp un gd cn cs L a ccd cl outer) (call (.ref 785) [.int x tx, .int 3 ty]) Q E s := by
  k_fill
  intros
  rename_i hret
  (refine wpAny_call ?_; k_dflt (refine' code_def ?k1 ?k2 ?k3 ?k4 ?k5 ?kA ?kF ?kK ?k6 ?k7 ?k8 ?k9 ?kB ?_ ?c2 ?c3 ?c4 ?c5; (case kA => exact rfl); (case kF => exact rfl); (case kK => assumption); (case k1 => k_asm); (case k2 => k_asm); (case k3 => k_asm); (case k4 => k_asm); (case k5 => k_asm); (case k6 => k_is); (case k7 => k_is); (case k8 => ktr_room); (case k9 => first | exact BindsTo.of_eq rfl | exact binds_K (by k_in) rfl (by k_is) rfl rfl rfl); (case c5 => decide); (case kB => exact locs rfl); (case c2 => exact rfl); (case c3 => exact rfl); (case c4 => exact rfl); k_whole; intro g' L' h' FG' F' N' B' X' T'; (try dsimp only); (try k_lift B'); (try k_fold)))
  k_steps
  exact hret _ _ _ (by k_asm) (by k_asm)
theorem c_lshift (w : World) (news : List (Addr × Obj)) (x y : Int) (tx ty : Tok) (hy : 0 ≤ y) (hy2 : y ≤ 1000000) (ha : x.natAbs < 2 ^ 64) :
  ∀ (p : Program) (loose : List Str) (mean : ExcName → Option Value) (mg mb : Str → Option Value) (dp un : Nat) (gd : Option (List Code)) (cn : Str) (cs : Scope) (a : Addr) (ccd : Value) (cl : List (Str × Addr)) (outer : List Env) (A₀ : Around) (base h₀ : Heap) (L : Addr) (m : Str → Option Value) (s : Shared) (Q E : Value → Shared → Prop),
    Below A₀ base outer h₀ → Fr h₀ L s.heap m → (hd01.heap_1 w.params).In h₀ → News h₀ L s.heap news → Top p loose mean mg mb h₀ → cs.kind = .function → dp + 1 < recursionLimit → un + 8 < cLine →
    (∀ t h' tk', Fr h₀ L h' m → News h₀ L h' news → Q (.int (x * 2 ^ y.toNat) t) { s with heap := h', toks := tk' }) →
    wpAny (model Challenge.rw_op0202_01.row.prog w) (ktrTop dp un gd cn cs L a ccd cl outer) (call (.ref 792) [.int x tx, .int y ty]) Q E s := by
  k_fill
  intros
  rename_i hret
  (refine wpAny_call ?_; k_dflt (refine' code_def ?k1 ?k2 ?k3 ?k4 ?k5 ?kA ?kF ?kK ?k6 ?k7 ?k8 ?k9 ?kB ?_ ?c2 ?c3 ?c4 ?c5; (case kA => exact rfl); (case kF => exact rfl); (case kK => assumption); (case k1 => k_asm); (case k2 => k_asm); (case k3 => k_asm); (case k4 => k_asm); (case k5 => k_asm); (case k6 => k_is); (case k7 => k_is); (case k8 => ktr_room); (case k9 => first | exact BindsTo.of_eq rfl | exact binds_K (by k_in) rfl (by k_is) rfl rfl rfl); (case c5 => decide); (case kB => exact locs rfl); (case c2 => exact rfl); (case c3 => exact rfl); (case c4 => exact rfl); k_whole; intro g' L' h' FG' F' N' B' X' T'; (try dsimp only); (try k_lift B'); (try k_fold)))
  k_steps
  exact hret _ _ _ (by k_asm) (by k_asm)
theorem c_mod (w : World) (news : List (Addr × Obj)) (x y : Int) (tx ty : Tok) (hy : 0 < y) :
  ∀ (p : Program) (loose : List Str) (mean : ExcName → Option Value) (mg mb : Str → Option Value) (dp un : Nat) (gd : Option (List Code)) (cn : Str) (cs : Scope) (a : Addr) (ccd : Value) (cl : List (Str × Addr)) (outer : List Env) (A₀ : Around) (base h₀ : Heap) (L : Addr) (m : Str → Option Value) (s : Shared) (Q E : Value → Shared → Prop),
    Below A₀ base outer h₀ → Fr h₀ L s.heap m → (hd01.heap_1 w.params).In h₀ → News h₀ L s.heap news → Top p loose mean mg mb h₀ → cs.kind = .function → dp + 1 < recursionLimit → un + 8 < cLine →
    (∀ t h' tk', Fr h₀ L h' m → News h₀ L h' news → Q (.int (x.fmod y) t) { s with heap := h', toks := tk' }) →
    wpAny (model Challenge.rw_op0202_01.row.prog w) (ktrTop dp un gd cn cs L a ccd cl outer) (call (.ref 799) [.int x tx, .int y ty]) Q E s := by
  k_fill
  intros
  rename_i hret
  (refine wpAny_call ?_; k_dflt (refine' code_def ?k1 ?k2 ?k3 ?k4 ?k5 ?kA ?kF ?kK ?k6 ?k7 ?k8 ?k9 ?kB ?_ ?c2 ?c3 ?c4 ?c5; (case kA => exact rfl); (case kF => exact rfl); (case kK => assumption); (case k1 => k_asm); (case k2 => k_asm); (case k3 => k_asm); (case k4 => k_asm); (case k5 => k_asm); (case k6 => k_is); (case k7 => k_is); (case k8 => ktr_room); (case k9 => first | exact BindsTo.of_eq rfl | exact binds_K (by k_in) rfl (by k_is) rfl rfl rfl); (case c5 => decide); (case kB => exact locs rfl); (case c2 => exact rfl); (case c3 => exact rfl); (case c4 => exact rfl); k_whole; intro g' L' h' FG' F' N' B' X' T'; (try dsimp only); (try k_lift B'); (try k_fold)))
  k_steps
  exact hret _ _ _ (by k_asm) (by k_asm)
theorem c_neg (w : World) (news : List (Addr × Obj)) (x : Int) (tx : Tok) :
  ∀ (p : Program) (loose : List Str) (mean : ExcName → Option Value) (mg mb : Str → Option Value) (dp un : Nat) (gd : Option (List Code)) (cn : Str) (cs : Scope) (a : Addr) (ccd : Value) (cl : List (Str × Addr)) (outer : List Env) (A₀ : Around) (base h₀ : Heap) (L : Addr) (m : Str → Option Value) (s : Shared) (Q E : Value → Shared → Prop),
    Below A₀ base outer h₀ → Fr h₀ L s.heap m → (hd01.heap_1 w.params).In h₀ → News h₀ L s.heap news → Top p loose mean mg mb h₀ → cs.kind = .function → dp + 1 < recursionLimit → un + 8 < cLine →
    (∀ t h' tk', Fr h₀ L h' m → News h₀ L h' news → Q (.int (-x) t) { s with heap := h', toks := tk' }) →
    wpAny (model Challenge.rw_op0202_01.row.prog w) (ktrTop dp un gd cn cs L a ccd cl outer) (call (.ref 806) [.int x tx]) Q E s := by
  k_fill
  intros
  rename_i hret
  (refine wpAny_call ?_; k_dflt (refine' code_def ?k1 ?k2 ?k3 ?k4 ?k5 ?kA ?kF ?kK ?k6 ?k7 ?k8 ?k9 ?kB ?_ ?c2 ?c3 ?c4 ?c5; (case kA => exact rfl); (case kF => exact rfl); (case kK => assumption); (case k1 => k_asm); (case k2 => k_asm); (case k3 => k_asm); (case k4 => k_asm); (case k5 => k_asm); (case k6 => k_is); (case k7 => k_is); (case k8 => ktr_room); (case k9 => first | exact BindsTo.of_eq rfl | exact binds_K (by k_in) rfl (by k_is) rfl rfl rfl); (case c5 => decide); (case kB => exact locs rfl); (case c2 => exact rfl); (case c3 => exact rfl); (case c4 => exact rfl); k_whole; intro g' L' h' FG' F' N' B' X' T'; (try dsimp only); (try k_lift B'); (try k_fold)))
  k_steps
  exact hret _ _ _ (by k_asm) (by k_asm)
theorem c_or_ (w : World) (news : List (Addr × Obj)) (x y : Int) (tx ty : Tok) :
  ∀ (p : Program) (loose : List Str) (mean : ExcName → Option Value) (mg mb : Str → Option Value) (dp un : Nat) (gd : Option (List Code)) (cn : Str) (cs : Scope) (a : Addr) (ccd : Value) (cl : List (Str × Addr)) (outer : List Env) (A₀ : Around) (base h₀ : Heap) (L : Addr) (m : Str → Option Value) (s : Shared) (Q E : Value → Shared → Prop),
    Below A₀ base outer h₀ → Fr h₀ L s.heap m → (hd01.heap_1 w.params).In h₀ → News h₀ L s.heap news → Top p loose mean mg mb h₀ → cs.kind = .function → dp + 1 < recursionLimit → un + 8 < cLine →
    (∀ t h' tk', Fr h₀ L h' m → News h₀ L h' news → Q (.int (Builtin.bitOr x y) t) { s with heap := h', toks := tk' }) →
    wpAny (model Challenge.rw_op0202_01.row.prog w) (ktrTop dp un gd cn cs L a ccd cl outer) (call (.ref 813) [.int x tx, .int y ty]) Q E s := by
  k_fill
  intros
  rename_i hret
  (refine wpAny_call ?_; k_dflt (refine' code_def ?k1 ?k2 ?k3 ?k4 ?k5 ?kA ?kF ?kK ?k6 ?k7 ?k8 ?k9 ?kB ?_ ?c2 ?c3 ?c4 ?c5; (case kA => exact rfl); (case kF => exact rfl); (case kK => assumption); (case k1 => k_asm); (case k2 => k_asm); (case k3 => k_asm); (case k4 => k_asm); (case k5 => k_asm); (case k6 => k_is); (case k7 => k_is); (case k8 => ktr_room); (case k9 => first | exact BindsTo.of_eq rfl | exact binds_K (by k_in) rfl (by k_is) rfl rfl rfl); (case c5 => decide); (case kB => exact locs rfl); (case c2 => exact rfl); (case c3 => exact rfl); (case c4 => exact rfl); k_whole; intro g' L' h' FG' F' N' B' X' T'; (try dsimp only); (try k_lift B'); (try k_fold)))
  k_steps
  exact hret _ _ _ (by k_asm) (by k_asm)
theorem c_rshift (w : World) (news : List (Addr × Obj)) (x y : Int) (tx ty : Tok) (hy : 0 ≤ y) :
  ∀ (p : Program) (loose : List Str) (mean : ExcName → Option Value) (mg mb : Str → Option Value) (dp un : Nat) (gd : Option (List Code)) (cn : Str) (cs : Scope) (a : Addr) (ccd : Value) (cl : List (Str × Addr)) (outer : List Env) (A₀ : Around) (base h₀ : Heap) (L : Addr) (m : Str → Option Value) (s : Shared) (Q E : Value → Shared → Prop),
    Below A₀ base outer h₀ → Fr h₀ L s.heap m → (hd01.heap_1 w.params).In h₀ → News h₀ L s.heap news → Top p loose mean mg mb h₀ → cs.kind = .function → dp + 1 < recursionLimit → un + 8 < cLine →
    (∀ t h' tk', Fr h₀ L h' m → News h₀ L h' news → Q (.int (x.fdiv (2 ^ y.toNat)) t) { s with heap := h', toks := tk' }) →
    wpAny (model Challenge.rw_op0202_01.row.prog w) (ktrTop dp un gd cn cs L a ccd cl outer) (call (.ref 820) [.int x tx, .int y ty]) Q E s := by
  k_fill
  intros
  rename_i hret
  (refine wpAny_call ?_; k_dflt (refine' code_def ?k1 ?k2 ?k3 ?k4 ?k5 ?kA ?kF ?kK ?k6 ?k7 ?k8 ?k9 ?kB ?_ ?c2 ?c3 ?c4 ?c5; (case kA => exact rfl); (case kF => exact rfl); (case kK => assumption); (case k1 => k_asm); (case k2 => k_asm); (case k3 => k_asm); (case k4 => k_asm); (case k5 => k_asm); (case k6 => k_is); (case k7 => k_is); (case k8 => ktr_room); (case k9 => first | exact BindsTo.of_eq rfl | exact binds_K (by k_in) rfl (by k_is) rfl rfl rfl); (case c5 => decide); (case kB => exact locs rfl); (case c2 => exact rfl); (case c3 => exact rfl); (case c4 => exact rfl); k_whole; intro g' L' h' FG' F' N' B' X' T'; (try dsimp only); (try k_lift B'); (try k_fold)))
  k_steps
  exact hret _ _ _ (by k_asm) (by k_asm)
theorem c_sub (w : World) (news : List (Addr × Obj)) (x y : Int) (tx ty : Tok) :
  ∀ (p : Program) (loose : List Str) (mean : ExcName → Option Value) (mg mb : Str → Option Value) (dp un : Nat) (gd : Option (List Code)) (cn : Str) (cs : Scope) (a : Addr) (ccd : Value) (cl : List (Str × Addr)) (outer : List Env) (A₀ : Around) (base h₀ : Heap) (L : Addr) (m : Str → Option Value) (s : Shared) (Q E : Value → Shared → Prop),
    Below A₀ base outer h₀ → Fr h₀ L s.heap m → (hd01.heap_1 w.params).In h₀ → News h₀ L s.heap news → Top p loose mean mg mb h₀ → cs.kind = .function → dp + 1 < recursionLimit → un + 8 < cLine →
    (∀ t h' tk', Fr h₀ L h' m → News h₀ L h' news → Q (.int (x - y) t) { s with heap := h', toks := tk' }) →
    wpAny (model Challenge.rw_op0202_01.row.prog w) (ktrTop dp un gd cn cs L a ccd cl outer) (call (.ref 827) [.int x tx, .int y ty]) Q E s := by
  k_fill
  intros
  rename_i hret
  (refine wpAny_call ?_; k_dflt (refine' code_def ?k1 ?k2 ?k3 ?k4 ?k5 ?kA ?kF ?kK ?k6 ?k7 ?k8 ?k9 ?kB ?_ ?c2 ?c3 ?c4 ?c5; (case kA => exact rfl); (case kF => exact rfl); (case kK => assumption); (case k1 => k_asm); (case k2 => k_asm); (case k3 => k_asm); (case k4 => k_asm); (case k5 => k_asm); (case k6 => k_is); (case k7 => k_is); (case k8 => ktr_room); (case k9 => first | exact BindsTo.of_eq rfl | exact binds_K (by k_in) rfl (by k_is) rfl rfl rfl); (case c5 => decide); (case kB => exact locs rfl); (case c2 => exact rfl); (case c3 => exact rfl); (case c4 => exact rfl); k_whole; intro g' L' h' FG' F' N' B' X' T'; (try dsimp only); (try k_lift B'); (try k_fold)))
  k_steps
  exact hret _ _ _ (by k_asm) (by k_asm)
end
section
local macro_rules | `(tactic| walk_at "none B6 0") => `(tactic| fail)

local macro_rules | `(tactic| walk_at "call type:type") => `(tactic| ((with_reducible show wpAny _ _ (call _ [Value.bytes _ _]) _ _ _); refine call_type_of (Tx := "bytes") rfl (by decide +kernel) ?_))
theorem off_B6 : True := by
  w_top off
  trivial
theorem c_buffer (w : World) (news : List (Addr × Obj)) (b : Array UInt8) (tb : Tok) :
  ∀ (p : Program) (loose : List Str) (mean : ExcName → Option Value) (mg mb : Str → Option Value) (dp un : Nat) (gd : Option (List Code)) (cn : Str) (cs : Scope) (a : Addr) (ccd : Value) (cl : List (Str × Addr)) (outer : List Env) (A₀ : Around) (base h₀ : Heap) (L : Addr) (m : Str → Option Value) (s : Shared) (Q E : Value → Shared → Prop),
    Below A₀ base outer h₀ → Fr h₀ L s.heap m → (hd01.heap_1 w.params).In h₀ → News h₀ L s.heap news → Top p loose mean mg mb h₀ → cs.kind = .function → dp + 2 < recursionLimit → un + 16 < cLine →
    (∀ h' tk', Fr h₀ L h' m → News h₀ L h' news → Q (.bytes b tb) { s with heap := h', toks := tk' }) →
    wpAny (model Challenge.rw_op0202_01.row.prog w) (ktrTop dp un gd cn cs L a ccd cl outer) (call (.ref 741) [.bytes b tb]) Q E s := by
  k_fill
  intros
  rename_i hret
  (refine wpAny_call ?_; k_dflt (refine' code_def ?k1 ?k2 ?k3 ?k4 ?k5 ?kA ?kF ?kK ?k6 ?k7 ?k8 ?k9 ?kB ?_ ?c2 ?c3 ?c4 ?c5; (case kA => exact rfl); (case kF => exact rfl); (case kK => assumption); (case k1 => k_asm); (case k2 => k_asm); (case k3 => k_asm); (case k4 => k_asm); (case k5 => k_asm); (case k6 => k_is); (case k7 => k_is); (case k8 => ktr_room); (case k9 => first | exact BindsTo.of_eq rfl | exact binds_K (by k_in) rfl (by k_is) rfl rfl rfl); (case c5 => decide); (case kB => exact locs rfl); (case c2 => exact rfl); (case c3 => exact rfl); (case c4 => exact rfl); k_whole; intro g' L' h' FG' F' N' B' X' T'; (try dsimp only); (try k_lift B'); (try k_fold)))
  k_steps
  exact hret _ _ (by k_asm) (by k_asm)
theorem c_truth (w : World) (news : List (Addr × Obj)) :
  ∀ (p : Program) (loose : List Str) (mean : ExcName → Option Value) (mg mb : Str → Option Value) (dp un : Nat) (gd : Option (List Code)) (cn : Str) (cs : Scope) (a : Addr) (ccd : Value) (cl : List (Str × Addr)) (outer : List Env) (A₀ : Around) (base h₀ : Heap) (L : Addr) (m : Str → Option Value) (s : Shared) (Q E : Value → Shared → Prop),
    Below A₀ base outer h₀ → Fr h₀ L s.heap m → (hd01.heap_1 w.params).In h₀ → News h₀ L s.heap news → Top p loose mean mg mb h₀ → cs.kind = .function → dp + 2 < recursionLimit → un + 16 < cLine →
    (∀ h' tk', Fr h₀ L h' m → News h₀ L h' news → Q (.bool false) { s with heap := h', toks := tk' }) →
    wpAny (model Challenge.rw_op0202_01.row.prog w) (ktrTop dp un gd cn cs L a ccd cl outer) (call (.ref 748) [.bool false]) Q E s := by
  k_fill
  intros
  rename_i hret
  (refine wpAny_call ?_; k_dflt (refine' code_def ?k1 ?k2 ?k3 ?k4 ?k5 ?kA ?kF ?kK ?k6 ?k7 ?k8 ?k9 ?kB ?_ ?c2 ?c3 ?c4 ?c5; (case kA => exact rfl); (case kF => exact rfl); (case kK => assumption); (case k1 => k_asm); (case k2 => k_asm); (case k3 => k_asm); (case k4 => k_asm); (case k5 => k_asm); (case k6 => k_is); (case k7 => k_is); (case k8 => ktr_room); (case k9 => first | exact BindsTo.of_eq rfl | exact binds_K (by k_in) rfl (by k_is) rfl rfl rfl); (case c5 => decide); (case kB => exact locs rfl); (case c2 => exact rfl); (case c3 => exact rfl); (case c4 => exact rfl); k_whole; intro g' L' h' FG' F' N' B' X' T'; (try dsimp only); (try k_lift B'); (try k_fold)))
  k_steps
  exact hret _ _ (by k_asm) (by k_asm)
local macro_rules | `(tactic| walk_at "binaryOp LShift int int") => `(tactic| (refine lshift_int_small (by decide) (by decide) (by first | exact nat_and3 _ | exact nat_and15 _ | omega) ?_))
local macro_rules | `(tactic| walk_at "subscriptTail") => `(tactic| ((with_reducible show wpAny _ _ (subscriptTail _ _ (Value.bytes _ _) (Value.int _ _)) _ _ _); refine KBw.item_K (ks := b64I) (by decide +kernel) (by decide) (by first | exact (idx63 _).1 | exact (idx3 _).1 | exact (idx15 _).1) (by first | exact (idx63 _).2 | exact (idx3 _).2 | exact (idx15 _).2) ?_; intro t9 k9 _ _; (try dsimp only)))
local macro_rules | `(tactic| walk_at "call ref") => `(tactic| k_extra "m call")
local macro_rules | `(tactic| walk_at "call type:bytes") => `(tactic| (k_here; (try simp only [List.push_toArray] at *); (with_reducible show wpAny _ _ (call (Value.type "bytes") [Value.ref _]) _ _ _); k_dflt (refine' KBa.make_K ?kbaF ?kbaN ?kbah ?kbal ?kbai ?kbar ?kban ?_; (case kbaF => k_asm); (case kbaN => k_asm); (case kbah => rfl); (case kbal => kba_isList); (case kbai => first | exact ints_snoc (ints_snoc (ints_snoc (by assumption))) | exact ints_snoc (ints_snoc (by assumption)) | kba_listInts); (case kbar => first | assumption | exact in_snoc (in_snoc (in_snoc (by assumption) (b64I_in _)) (by decide)) (by decide) | exact in_snoc (in_snoc (by assumption) (b64I_in _)) (by decide)); (case kban => kba_size)); intro _ _ _ F' N' _))
local macro_rules | `(tactic| kst_facts) => `(tactic| exact IntsAre.nil)
local macro_rules | `(tactic| kst_all) => `(tactic| ((try dsimp only); refine List.forall_mem_cons.mpr ⟨by exact rfl, List.forall_mem_cons.mpr ⟨by exact rfl, ?_⟩⟩; exact List.forall_mem_nil _))
local macro_rules | `(tactic| kst_p) => `(tactic| exact rfl)
theorem c_b2a (w : World) (news : List (Addr × Obj)) (b : Array UInt8) (tb : Tok) (hbs : b.toList.length < 2000) :
  ∀ (p : Program) (loose : List Str) (mean : ExcName → Option Value) (mg mb : Str → Option Value) (dp un : Nat) (gd : Option (List Code)) (cn : Str) (cs : Scope) (a : Addr) (ccd : Value) (cl : List (Str × Addr)) (outer : List Env) (A₀ : Around) (base h₀ : Heap) (L : Addr) (m : Str → Option Value) (s : Shared) (Q E : Value → Shared → Prop),
    Below A₀ base outer h₀ → Fr h₀ L s.heap m → (hd01.heap_1 w.params).In h₀ → News h₀ L s.heap news → Top p loose mean mg mb h₀ → cs.kind = .function → dp + 3 < recursionLimit → un + 24 < cLine →
    (∀ t h' tk', Fr h₀ L h' m → News h₀ L h' news → Q (.bytes (byteArr (b64out b)) t) { s with heap := h', toks := tk' }) →
    wpAny (model Challenge.rw_op0202_01.row.prog w) (ktrTop dp un gd cn cs L a ccd cl outer) (call (.ref 756) [.bytes b tb] [("newline", .bool false)]) Q E s := by
  k_fill
  intros
  rename_i hret
  k_with_none
  k_with "m call" =>
    first
    | ((with_reducible show wpAny _ _ (call (Value.ref 741) _) _ _ _); k_dflt (refine' c_buffer w _ _ _ _ _ _ _ _ _ _ _ _ _ _ _ _ _ _ _ _ _ _ _ _ _ ?k1 ?k2 ?k3 ?k4 ?k5 ?k6 ?k8 ?k9 ?_))
    | ((with_reducible show wpAny _ _ (call (Value.ref 748) _) _ _ _); k_dflt (refine' c_truth w _ _ _ _ _ _ _ _ _ _ _ _ _ _ _ _ _ _ _ _ _ _ _ ?k1 ?k2 ?k3 ?k4 ?k5 ?k6 ?k8 ?k9 ?_))
    (case k1 => k_asm)
    (case k2 => k_asm)
    (case k3 => k_asm)
    (case k4 => k_asm)
    (case k5 => k_asm)
    (case k6 => exact rfl)
    (case k8 => ktr_room)
    (case k9 => ktr_units)
    k_whole
    intro h9 tk9 F9 N9
    (try dsimp only)
    (try k_fold)
  (refine wpAny_call ?_; k_dflt (refine' code_def ?k1 ?k2 ?k3 ?k4 ?k5 ?kA ?kF ?kK ?k6 ?k7 ?k8 ?k9 ?kB ?_ ?c2 ?c3 ?c4 ?c5; (case kA => exact rfl); (case kF => exact rfl); (case kK => assumption); (case k1 => k_asm); (case k2 => k_asm); (case k3 => k_asm); (case k4 => k_asm); (case k5 => k_asm); (case k6 => k_is); (case k7 => k_is); (case k8 => ktr_room); (case k9 => first | exact BindsTo.of_eq rfl | exact binds_K (by k_in) rfl (by k_is) rfl rfl rfl); (case c5 => decide); (case kB => exact locs rfl); (case c2 => exact rfl); (case c3 => exact rfl); (case c4 => exact rfl); k_whole; intro g' L' h' FG' F' N' B' X' T'; (try dsimp only); (try k_lift B'); (try k_fold)))
  k_steps
  k_state (fun pre out lb lc => b64fold pre = (out, lb, lc)) "out" "leftbits" "leftchar"
  · have hlb := b64fold_lb kPre
    have hlc := b64fold_lc kPre
    have hln := b64fold_len kPre
    rw [kInv] at hlb hlc hln
    dsimp only at hlb hlc hln
    obtain ⟨hlc1, hlc2⟩ := hlc
    k_with "state" => (rw [b64fold_snoc, kInv]; exact rfl)
    rcases hlb with rfl | rfl | rfl
    all_goals k_steps
  · have hlb := b64fold_lb (List.map (fun c => ((UInt8.toNat c : Nat) : Int)) b.toList)
    have hlc := b64fold_lc (List.map (fun c => ((UInt8.toNat c : Nat) : Int)) b.toList)
    have hln := b64fold_len (List.map (fun c => ((UInt8.toNat c : Nat) : Int)) b.toList)
    have hin := b64fold_in (List.map (fun c => ((UInt8.toNat c : Nat) : Int)) b.toList)
    have hou : b64out b = b64tail (b64fold (List.map (fun c => ((UInt8.toNat c : Nat) : Int)) b.toList)) := rfl
    rw [kInv] at hlb hlc hln hin hou
    dsimp only at hlb hlc hln hin
    rw [List.length_map] at hln
    obtain ⟨hlc1, hlc2⟩ := hlc
    rcases hlb with rfl | rfl | rfl
    · k_steps
      rename News _ _ _ _ => kN9
      rename Fr _ _ _ _ => kF9
      rw [hou] at hret
      exact hret _ _ _ kF9 (fun p hp => kN9 p (.tail _ hp))
    · k_steps
      rename News _ _ _ _ => kN9
      rename Fr _ _ _ _ => kF9
      rw [hou] at hret
      exact hret _ _ _ kF9 (fun p hp => kN9 p (.tail _ hp))
    · k_steps
      rename News _ _ _ _ => kN9
      rename Fr _ _ _ _ => kF9
      rw [hou] at hret
      exact hret _ _ _ kF9 (fun p hp => kN9 p (.tail _ hp))
end
section
local macro_rules | `(tactic| walk_at "none B7 0") => `(tactic| fail)
local macro_rules | `(tactic| walk_at "none B7 1") => `(tactic| fail)
local macro_rules | `(tactic| walk_at "none B7 2") => `(tactic| fail)
local macro_rules | `(tactic| walk_at "none B7 3") => `(tactic| fail)
local macro_rules | `(tactic| walk_at "none B7 4") => `(tactic| fail)
local macro_rules | `(tactic| walk_at "none B7 5") => `(tactic| fail)

local macro_rules | `(tactic| walk_at "call ref") => `(tactic| k_extra "m call")
theorem off_B7 : True := by
  w_top off
  trivial
theorem c_b64p (w : World) (news : List (Addr × Obj)) (b : Array UInt8) (tb : Tok) (hbs : b.toList.length < 2000) :
  ∀ (p : Program) (loose : List Str) (mean : ExcName → Option Value) (mg mb : Str → Option Value) (dp un : Nat) (gd : Option (List Code)) (cn : Str) (cs : Scope) (a : Addr) (ccd : Value) (cl : List (Str × Addr)) (outer : List Env) (A₀ : Around) (base h₀ : Heap) (L : Addr) (m : Str → Option Value) (s : Shared) (Q E : Value → Shared → Prop),
    Below A₀ base outer h₀ → Fr h₀ L s.heap m → (hd01.heap_1 w.params).In h₀ → News h₀ L s.heap news → Top p loose mean mg mb h₀ → cs.kind = .function → dp + 5 < recursionLimit → un + 40 < cLine →
    (∀ t h' tk', Fr h₀ L h' m → News h₀ L h' news → Q (.bytes (byteArr (b64out b)) t) { s with heap := h', toks := tk' }) →
    wpAny (model Challenge.rw_op0202_01.row.prog w) (ktrTop dp un gd cn cs L a ccd cl outer) (call (.ref 764) [.bytes b tb]) Q E s := by
  k_fill
  intros
  rename_i hret
  k_with_none
  k_with "m call" =>
    first
    | ((with_reducible show wpAny _ _ (call (Value.ref 756) _ _) _ _ _); k_dflt (refine' c_b2a w _ b _ hbs _ _ _ _ _ _ _ _ _ _ _ _ _ _ _ _ _ _ _ _ _ _ ?k1 ?k2 ?k3 ?k4 ?k5 ?k6 ?k8 ?k9 ?_; (case k1 => k_asm); (case k2 => k_asm); (case k3 => k_asm); (case k4 => k_asm); (case k5 => k_asm); (case k6 => exact rfl); (case k8 => ktr_room); (case k9 => ktr_units); k_whole); intro t9 h9 tk9 F9 N9; (try dsimp only); (try k_fold))
  (refine wpAny_call ?_; k_dflt (refine' code_def ?k1 ?k2 ?k3 ?k4 ?k5 ?kA ?kF ?kK ?k6 ?k7 ?k8 ?k9 ?kB ?_ ?c2 ?c3 ?c4 ?c5; (case kA => exact rfl); (case kF => exact rfl); (case kK => assumption); (case k1 => k_asm); (case k2 => k_asm); (case k3 => k_asm); (case k4 => k_asm); (case k5 => k_asm); (case k6 => k_is); (case k7 => k_is); (case k8 => ktr_room); (case k9 => first | exact BindsTo.of_eq rfl | exact binds_K (by k_in) rfl (by k_is) rfl rfl rfl); (case c5 => decide); (case kB => exact locs rfl); (case c2 => exact rfl); (case c3 => exact rfl); (case c4 => exact rfl); k_whole; intro g' L' h' FG' F' N' B' X' T'; (try dsimp only); (try k_lift B'); (try k_fold)))
  k_steps
  exact hret _ _ _ (by k_asm) (by k_asm)
theorem bytes_no (a0 a1 : UInt8) (h : ((#[a0, a1] : Array UInt8).size : Int) ≠ 2) : False := h rfl
local macro_rules | `(tactic| walk_at "getMethod bytes") => `(tactic| (k_here; (with_reducible refine method_tr ?_)))
local macro_rules | `(tactic| walk_at "getMethod type:bytes") => `(tactic| (k_here; refine' method_type ?F ?X ?m (by decide +kernel) ?e ?h ?_; (case F => k_asm); (case X => k_asm); (case m => kernel_rfl); (case e => k_dflt k_is); (case h => k_handed)))
local macro_rules | `(tactic| walk_at "call builtin:bytes.maketrans") => `(tactic| (k_here; refine call_mt ?_; intro t8 k8))
theorem c_b64a (w : World) (news : List (Addr × Obj)) (b : Array UInt8) (tb ta : Tok) (a0 a1 : UInt8) (hbs : b.toList.length < 2000) :
  ∀ (p : Program) (loose : List Str) (mean : ExcName → Option Value) (mg mb : Str → Option Value) (dp un : Nat) (gd : Option (List Code)) (cn : Str) (cs : Scope) (a : Addr) (ccd : Value) (cl : List (Str × Addr)) (outer : List Env) (A₀ : Around) (base h₀ : Heap) (L : Addr) (m : Str → Option Value) (s : Shared) (Q E : Value → Shared → Prop),
    Below A₀ base outer h₀ → Fr h₀ L s.heap m → (hd01.heap_1 w.params).In h₀ → News h₀ L s.heap news → Top p loose mean mg mb h₀ → cs.kind = .function → dp + 5 < recursionLimit → un + 40 < cLine →
    (∀ t h' tk', Fr h₀ L h' m → News h₀ L h' news → Q (.bytes (byteArr ((b64out b).map (trA (a0.toNat : Int) (a1.toNat : Int)))) t) { s with heap := h', toks := tk' }) →
    wpAny (model Challenge.rw_op0202_01.row.prog w) (ktrTop dp un gd cn cs L a ccd cl outer) (call (.ref 764) [.bytes b tb, .bytes #[a0, a1] ta]) Q E s := by
  k_fill
  intros
  rename_i hret
  k_with_none
  k_with "m call" =>
    first
    | ((with_reducible show wpAny _ _ (call (Value.ref 756) _ _) _ _ _); k_dflt (refine' c_b2a w _ b _ hbs _ _ _ _ _ _ _ _ _ _ _ _ _ _ _ _ _ _ _ _ _ _ ?k1 ?k2 ?k3 ?k4 ?k5 ?k6 ?k8 ?k9 ?_; (case k1 => k_asm); (case k2 => k_asm); (case k3 => k_asm); (case k4 => k_asm); (case k5 => k_asm); (case k6 => exact rfl); (case k8 => ktr_room); (case k9 => ktr_units); k_whole); intro t9 h9 tk9 F9 N9; (try dsimp only); (try k_fold))
  (refine wpAny_call ?_; k_dflt (refine' code_def ?k1 ?k2 ?k3 ?k4 ?k5 ?kA ?kF ?kK ?k6 ?k7 ?k8 ?k9 ?kB ?_ ?c2 ?c3 ?c4 ?c5; (case kA => exact rfl); (case kF => exact rfl); (case kK => assumption); (case k1 => k_asm); (case k2 => k_asm); (case k3 => k_asm); (case k4 => k_asm); (case k5 => k_asm); (case k6 => k_is); (case k7 => k_is); (case k8 => ktr_room); (case k9 => first | exact BindsTo.of_eq rfl | exact binds_K (by k_in) rfl (by k_is) rfl rfl rfl); (case c5 => decide); (case kB => exact locs rfl); (case c2 => exact rfl); (case c3 => exact rfl); (case c4 => exact rfl); k_whole; intro g' L' h' FG' F' N' B' X' T'; (try dsimp only); (try k_lift B'); (try k_fold)))
  k_steps
  · k_dflt (refine' call_tr ?sz ?_; (case sz => rw [byteArr_size]; have := b64out_len b; omega); k_whole)
    intro t7 k7
    rw [tr_make (b64out_in _)]
    k_steps
    exact hret _ _ _ (by k_asm) (by k_asm)
  · exact (bytes_no _ _ (by assumption)).elim
end
section
local macro_rules | `(tactic| walk_at "call ref") => `(tactic| k_extra "m call")
local macro_rules | `(tactic| walk_at "call builtin:len") => `(tactic| (k_here; (with_reducible show wpAny _ _ (call (Value.builtin "len") [Value.ref _]) _ _ _); k_dflt (refine' kst_len ?k1 ?k2 ?k3 ?k4 ?_; (case k1 => k_asm); (case k2 => first | exact List.Mem.head _ | kst_mem); (case k3 => exact IntsAre.length (by assumption)); (case k4 => omega)); k_whole))
local macro_rules | `(tactic| walk_at "call builtin:list.extend") => `(tactic| (k_here; (with_reducible show wpAny _ _ (call (Value.builtin _) [Value.ref _, Value.ref _]) _ _ _); k_dflt (refine' ext_lst ?F ?N ?b ?ne ?U ?z ?_; (case F => k_asm); (case N => k_asm); (case b => exact List.Mem.head _); (case ne => exact Nat.succ_ne_zero _); (case U => k_upd); (case z => first | ((show _ + 3 ≤ _); omega) | ((simp only [List.length_cons, List.length_nil]); omega))); kl_rest))
local macro_rules | `(tactic| kst_facts) => `(tactic| (try dsimp only) <;> first | exact IntsAre.nil | exact .cons _ _ .nil | exact ints_snoc2 (by assumption) | exact ints_snoc3 (by assumption) | trace_state)
local macro_rules | `(tactic| walk_at "exec For Name Subscript cons nil") => `(tactic| (k_here; (rename Fr _ _ _ _ => lF'); (with_unfolding_all refine' For_invVF lF' ?k1 ?k2 ?_; (case k1 => exact rfl); (case k2 => exact rfl); k_whole)))
local macro_rules | `(tactic| walk_at "eval ListComp") => `(tactic| (k_here; (with_reducible show wpAny _ _ (eval (PySem.Expr.ListComp _ [⟨_, PySem.Expr.Call (PySem.Expr.Name (Str.ofString "b64encode") _) _ _ _, _, _⟩] _ _) _) _ _ _); k_dflt (refine ListComp_B (_F₀ := by k_asm) (by with_unfolding_all rfl) (by decide) (by rfl) (by decide) (by rfl) ?_)))
theorem off_L1 : True := by
  w_top off
  trivial
theorem lineP_bytes {fN oN : List Int} (h64 : F64 fN) (hl : fN.length % 4 = 0) (hP : oN = chunks fN) :
    (b64out (byteArr oN)).map (trA (((39 : UInt8).toNat : Nat) : Int) (((34 : UInt8).toNat : Nat) : Int)) = fN.map (chA 39 34) := by
  rw [hP, b64out_chunks h64 hl, List.map_map]
  rfl
theorem lineP_in (fN : List Int) : ∀ n ∈ fN.map (chA 39 34), 0 ≤ n ∧ n < 256 := by
  intro n hn
  obtain ⟨f, _, rfl⟩ := List.mem_map.mp hn
  exact chA_in (by decide) (by decide) f
theorem joinP (fN : List Int) : Txt.join "" ((fN.map (chA 39 34)).map fun k => (⟨#[k.toNat]⟩ : Str)) = ⟨(fN.map chF).toArray⟩ := by
  have := join_chars (fN.map chF)
  rw [List.map_map] at this ⊢
  exact this
theorem c_line1 (w : World) (news : List (Addr × Obj)) (fl : Addr) (fV : List Value) (nf : Nat) (fN : List Int) (hfl : (fl, listOf fV.toArray nf) ∈ news) (hI : IntsAre fV fN) (h64 : F64 fN) (hl4 : fN.length % 4 = 0) (hlen : fN.length ≤ 100) :
  ∀ (p : Program) (loose : List Str) (mean : ExcName → Option Value) (mg mb : Str → Option Value) (dp un : Nat) (gd : Option (List Code)) (cn : Str) (cs : Scope) (a : Addr) (ccd : Value) (cl : List (Str × Addr)) (outer : List Env) (A₀ : Around) (base h₀ : Heap) (L : Addr) (m : Str → Option Value) (s : Shared) (Q E : Value → Shared → Prop),
    Below A₀ base outer h₀ → Fr h₀ L s.heap m → (hd01.heap_1 w.params).In h₀ → News h₀ L s.heap news → Top p loose mean mg mb h₀ → cs.kind = .function → dp + 7 < recursionLimit → un + 56 < cLine →
    (∀ t h' tk', Fr h₀ L h' m → News h₀ L h' news → Q (.str ⟨(fN.map chF).toArray⟩ t) { s with heap := h', toks := tk' }) →
    wpAny (model Challenge.rw_op0202_01.row.prog w) (ktrTop dp un gd cn cs L a ccd cl outer) (call (.ref 844) [.ref fl]) Q E s := by
  k_fill
  intros
  rename_i hret
  rename News _ _ _ _ => N0
  have N1 := news_dup N0 hfl
  clear N0 hfl
  k_with_none
  k_with "m call" =>
    first
    | ((with_reducible show wpAny _ _ (call (Value.ref 820) _) _ _ _); k_dflt (refine' c_rshift w _ _ _ _ _ (by decide) _ _ _ _ _ _ _ _ _ _ _ _ _ _ _ _ _ _ _ _ _ _ ?k1 ?k2 ?k3 ?k4 ?k5 ?k6 ?k8 ?k9 ?_; (case k1 => k_asm); (case k2 => k_asm); (case k3 => k_asm); (case k4 => k_asm); (case k5 => k_asm); (case k6 => exact rfl); (case k8 => ktr_room); (case k9 => ktr_units); k_whole); intro t9 h9 tk9 F9 N9; (try dsimp only); (try k_fold))
    | ((with_reducible show wpAny _ _ (call (Value.ref 778) _) _ _ _); k_dflt (refine' c_and_ w _ _ _ _ _ _ _ _ _ _ _ _ _ _ _ _ _ _ _ _ _ _ _ _ _ _ _ ?k1 ?k2 ?k3 ?k4 ?k5 ?k6 ?k8 ?k9 ?_; (case k1 => k_asm); (case k2 => k_asm); (case k3 => k_asm); (case k4 => k_asm); (case k5 => k_asm); (case k6 => exact rfl); (case k8 => ktr_room); (case k9 => ktr_units); k_whole); intro t9 h9 tk9 F9 N9; (try dsimp only); (try k_fold))
    | ((with_reducible show wpAny _ _ (call (Value.ref 792) _) _ _ _); k_dflt (refine' c_lshift w _ _ _ _ _ (by decide) (by decide) (by assumption) _ _ _ _ _ _ _ _ _ _ _ _ _ _ _ _ _ _ _ _ _ _ ?k1 ?k2 ?k3 ?k4 ?k5 ?k6 ?k8 ?k9 ?_; (case k1 => k_asm); (case k2 => k_asm); (case k3 => k_asm); (case k4 => k_asm); (case k5 => k_asm); (case k6 => exact rfl); (case k8 => ktr_room); (case k9 => ktr_units); k_whole); intro t9 h9 tk9 F9 N9; (try dsimp only); (try k_fold))
    | ((with_reducible show wpAny _ _ (call (Value.ref 764) _) _ _ _); k_dflt (refine' c_b64a w _ _ _ _ 39 34 (by rw [Array.length_toList, byteArr_size]; omega) _ _ _ _ _ _ _ _ _ _ _ _ _ _ _ _ _ _ _ _ _ _ ?k1 ?k2 ?k3 ?k4 ?k5 ?k6 ?k8 ?k9 ?_; (case k1 => k_asm); (case k2 => k_asm); (case k3 => k_asm); (case k4 => k_asm); (case k5 => k_asm); (case k6 => exact rfl); (case k8 => ktr_room); (case k9 => ktr_units); k_whole); intro t9 h9 tk9 F9 N9; (try dsimp only); (try k_fold))
    | ((with_reducible show wpAny _ _ (call (Value.ref 813) _) _ _ _); k_dflt (refine' c_or_ w _ _ _ _ _ _ _ _ _ _ _ _ _ _ _ _ _ _ _ _ _ _ _ _ _ _ _ ?k1 ?k2 ?k3 ?k4 ?k5 ?k6 ?k8 ?k9 ?_; (case k1 => k_asm); (case k2 => k_asm); (case k3 => k_asm); (case k4 => k_asm); (case k5 => k_asm); (case k6 => exact rfl); (case k8 => ktr_room); (case k9 => ktr_units); k_whole); intro t9 h9 tk9 F9 N9; (try dsimp only); (try k_fold))
  (refine wpAny_call ?_; k_dflt (refine' code_def ?k1 ?k2 ?k3 ?k4 ?k5 ?kA ?kF ?kK ?k6 ?k7 ?k8 ?k9 ?kB ?_ ?c2 ?c3 ?c4 ?c5; (case kA => exact rfl); (case kF => exact rfl); (case kK => assumption); (case k1 => k_asm); (case k2 => k_asm); (case k3 => k_asm); (case k4 => k_asm); (case k5 => k_asm); (case k6 => k_is); (case k7 => k_is); (case k8 => ktr_room); (case k9 => first | exact BindsTo.of_eq rfl | exact binds_K (by k_in) rfl (by k_is) rfl rfl rfl); (case c5 => decide); (case kB => exact locs rfl); (case c2 => exact rfl); (case c3 => exact rfl); (case c4 => exact rfl); k_whole; intro g' L' h' FG' F' N' B' X' T'; (try dsimp only); (try k_lift B'); (try k_fold)))
  repeat' ((fail_if_success (with_reducible show wpAny _ _ (pyIter _) _ _ _)); first | (k_unfold; (try dsimp only)) | (k_end; wrow_close) | walk1 | (dsimp only; walk1) | (leave1; walk_say "STEP leave1"; try dsimp only) | fail "no step")
  obtain ⟨q, hq⟩ : ∃ q : Nat, fN.length = 4 * q := ⟨fN.length / 4, by omega⟩
  rename Fr _ _ _ _ => lF
  rename News _ _ _ _ => lN
  rename IsRange _ _ _ _ _ _ _ _ => lR
  rw [hq] at lR
  have hq2 : q < 1000 := by omega
  with_unfolding_all refine' ksr_range (σ := List Value × List Int × Nat) (fun c => (_, listOf c.1.toArray c.2.2) :: (fl, listOf fV.toArray nf) :: news) (fun _ => []) (fun c => IntsAre c.1 c.2.1) ["number", "figure"] (fun i c => c.2.1 = chunks (fN.take (4 * i))) ([], [], 0) rfl lR (small_four (by omega)) (rangeSize_four q) lF lN IntsAre.nil ?kk rfl ?turn ?done
  case kk => exact fun p hp => nomatch hp
  case turn =>
    clear lF lN lR
    rintro ⟨oV, oN, on⟩ i t u h tk own hi hoff hF hP F N
    dsimp only at hF hP
    dsimp only [kstB, List.cons_append] at F N
    repeat' ((fail_if_success (with_reducible show wpAny _ _ (pyIter _) _ _ _)); first | (k_unfold; (try dsimp only)) | (k_end; wrow_close) | walk1 | (dsimp only; walk1) | (leave1; walk_say "STEP leave1"; try dsimp only) | fail "no step")
    rename IntsAre _ _ => hI5
    rw [slice4_eq hq hi] at hI5
    have hol : oN.length ≤ 4 * i := by
      rw [hP]
      exact Nat.le_trans (chunks_len _) (by rw [List.length_take]; omega)
    have hsl := slice4_len hq hi
    have hs64 := slice4_64 (i := i) h64
    generalize hsle : (fN.drop (4 * i)).take 4 = sl at hI5 hsl hs64
    k_state (fun pre num => num = num6 pre ∧ 0 ≤ num ∧ num < 64 ^ pre.length) "number"
    · rename_i num ntk kl e1 e2 e3 q1 q2
      have hkn := hs64 kN (by rw [kEq]; simp)
      have hsm := num6_small (pre := kPre) (by omega) ⟨e1, e2, e3⟩
      k_with "state" => exact num6_word hkn ⟨e1, e2, e3⟩
      k_steps
    · rename _ = num6 _ => e1
      k_with "state" => exact chunks_state hq hi hsle hP e1
      k_steps
  case done =>
    rintro ⟨oV, oN, on⟩ u h tk hF hP F N
    dsimp only at hF hP
    dsimp only [kstB] at F N
    clear lF lN lR
    have hP2 : oN = chunks fN := by rw [hP, ← hq, List.take_length]
    have hin : ∀ n ∈ oN, 0 ≤ n ∧ n < 256 := by rw [hP2]; exact chunks_in fN h64
    have hol : oN.length ≤ 1000 := by rw [hP2]; exact Nat.le_trans (chunks_len _) (by omega)
    clear hP
    k_steps
    rw [lineP_bytes h64 hl4 hP2]
    k_dflt (refine' SrcB.mk (fun k => ⟨#[k.toNat]⟩) rfl ?k1 ?k2 (KBa.ints_make (lineP_in fN)) ?sz ?turn ?fin)
    case k1 => k_asm
    case k2 => k_asm
    case sz => (rw [List.length_map]; omega)
    case turn =>
      intro hp k t I oI C oC D m₂ ys h tk E' hk hC hx F' N' off ne mk
      have hkr := lineP_in fN k hk
      k_steps
      exact LCg.CompEnd.intro F' N' _ (fun p hp => hp) off trivial ⟨rfl, _, rfl⟩
    case fin =>
      intro hp ys hc D h tk F' N' off
      have hpl : (fN.map (chA 39 34)).length ≤ 100 := by rw [List.length_map]; exact hlen
      k_whole
      k_steps
      rename News _ _ _ _ => kN9
      rename Fr _ _ _ _ => kF9
      have hj := joinP fN
      rw [← hj] at hret
      exact hret _ _ _ kF9 (fun p hp => kN9 p (.tail _ (.tail _ (.tail _ hp))))
end
section
local macro_rules | `(tactic| walk_at "call ref") => `(tactic| k_extra "m call")
local macro_rules | `(tactic| walk_at "call builtin:len") => `(tactic| (k_here; (with_reducible show wpAny _ _ (call (Value.builtin "len") [Value.ref _]) _ _ _); k_dflt (refine' kst_len ?k1 ?k2 ?k3 ?k4 ?_; (case k1 => k_asm); (case k2 => first | exact List.Mem.head _ | kst_mem); (case k3 => exact IntsAre.length (by assumption)); (case k4 => omega)); k_whole))
theorem off_LD : True := by
  w_top off
  trivial
theorem laid_s1 {fs pre : List Int} {pt k : Int} (h : fs = pre.map (laidF pt)) (h1 : k < 62) (h2 : Builtin.bitAnd (pt.fdiv (2 ^ k.toNat)) 1 = 1) : fs ++ [62] = (pre ++ [k]).map (laidF pt) := by
  rw [List.map_append, ← h, List.map_singleton]
  unfold laidF
  rw [if_pos ⟨h1, h2⟩]
theorem laid_s2 {fs pre : List Int} {pt k : Int} (h : fs = pre.map (laidF pt)) (h2 : ¬ (k < 62 ∧ Builtin.bitAnd (pt.fdiv (2 ^ k.toNat)) 1 = 1)) : fs ++ [k] = (pre ++ [k]).map (laidF pt) := by
  rw [List.map_append, ← h, List.map_singleton]
  unfold laidF
  rw [if_neg h2]
theorem map_len {fs pre : List Int} {f : Int → Int} (h : fs = pre.map f) : fs.length = pre.length := by rw [h, List.length_map]
theorem mem_15 {α : Type} {a b c d e p : α} {r : List α} (h : p ∈ a :: r) : p ∈ a :: b :: c :: d :: e :: r := by
  rcases List.mem_cons.mp h with rfl | h
  · exact .head _
  · exact .tail _ (.tail _ (.tail _ (.tail _ (.tail _ h))))
theorem laid_eq {fs pN : List Int} {pt : Int} (h : fs = pN.map (laidF pt)) : fs ++ (List.replicate ((-(fs.length : Int)).fmod 4).toNat [(61 : Int)]).flatten = laidT pt pN := by
  unfold laidT padN
  rw [← h, map_len h]
  congr 1
  generalize ((-(pN.length : Int)).fmod 4).toNat = n
  induction n with
  | zero => rfl
  | succ n ih => rw [List.replicate_succ, List.flatten_cons, ih]; rfl
theorem c_laid (w : World) (news : List (Addr × Obj)) (pl : Addr) (pV : List Value) (np : Nat) (pN : List Int) (pt : Int) (tp : Tok) (hpl : (pl, listOf pV.toArray np) ∈ news) (hI : IntsAre pV pN) (h64 : F64 pN) (hlen : pN.length ≤ 62) :
  ∀ (p : Program) (loose : List Str) (mean : ExcName → Option Value) (mg mb : Str → Option Value) (dp un : Nat) (gd : Option (List Code)) (cn : Str) (cs : Scope) (a : Addr) (ccd : Value) (cl : List (Str × Addr)) (outer : List Env) (A₀ : Around) (base h₀ : Heap) (L : Addr) (m : Str → Option Value) (s : Shared) (Q E : Value → Shared → Prop),
    Below A₀ base outer h₀ → Fr h₀ L s.heap m → (hd01.heap_1 w.params).In h₀ → News h₀ L s.heap news → Top p loose mean mg mb h₀ → cs.kind = .function → dp + 2 < recursionLimit → un + 16 < cLine →
    (∀ fl fV nf h' tk', (∀ p ∈ news, p.1 < fl) → Fr h₀ L h' m → News h₀ L h' ((fl, listOf fV.toArray nf) :: news) → IntsAre fV (laidT pt pN) → Q (.ref fl) { s with heap := h', toks := tk' }) →
    wpAny (model Challenge.rw_op0202_01.row.prog w) (ktrTop dp un gd cn cs L a ccd cl outer) (call (.ref 839) [.ref pl, .int pt tp]) Q E s := by
  k_fill
  intros
  rename_i hret
  rename News _ _ _ _ => N0
  have N1 := news_dup N0 hpl
  clear N0 hpl
  k_with_none
  k_with "m call" =>
    first
    | ((with_reducible show wpAny _ _ (call (Value.ref 820) _) _ _ _); k_dflt (refine' c_rshift w _ _ _ _ _ (by omega) _ _ _ _ _ _ _ _ _ _ _ _ _ _ _ _ _ _ _ _ _ _ ?k1 ?k2 ?k3 ?k4 ?k5 ?k6 ?k8 ?k9 ?_; (case k1 => k_asm); (case k2 => k_asm); (case k3 => k_asm); (case k4 => k_asm); (case k5 => k_asm); (case k6 => exact rfl); (case k8 => ktr_room); (case k9 => ktr_units); k_whole); intro t9 h9 tk9 F9 N9; (try dsimp only); (try k_fold))
    | ((with_reducible show wpAny _ _ (call (Value.ref 778) _) _ _ _); k_dflt (refine' c_and_ w _ _ _ _ _ _ _ _ _ _ _ _ _ _ _ _ _ _ _ _ _ _ _ _ _ _ _ ?k1 ?k2 ?k3 ?k4 ?k5 ?k6 ?k8 ?k9 ?_; (case k1 => k_asm); (case k2 => k_asm); (case k3 => k_asm); (case k4 => k_asm); (case k5 => k_asm); (case k6 => exact rfl); (case k8 => ktr_room); (case k9 => ktr_units); k_whole); intro t9 h9 tk9 F9 N9; (try dsimp only); (try k_fold))
    | ((with_reducible show wpAny _ _ (call (Value.ref 806) _) _ _ _); k_dflt (refine' c_neg w _ _ _ _ _ _ _ _ _ _ _ _ _ _ _ _ _ _ _ _ _ _ _ _ _ ?k1 ?k2 ?k3 ?k4 ?k5 ?k6 ?k8 ?k9 ?_; (case k1 => k_asm); (case k2 => k_asm); (case k3 => k_asm); (case k4 => k_asm); (case k5 => k_asm); (case k6 => exact rfl); (case k8 => ktr_room); (case k9 => ktr_units); k_whole); intro t9 h9 tk9 F9 N9; (try dsimp only); (try k_fold))
    | ((with_reducible show wpAny _ _ (call (Value.ref 799) _) _ _ _); k_dflt (refine' c_mod w _ _ _ _ _ (by decide) _ _ _ _ _ _ _ _ _ _ _ _ _ _ _ _ _ _ _ _ _ _ ?k1 ?k2 ?k3 ?k4 ?k5 ?k6 ?k8 ?k9 ?_; (case k1 => k_asm); (case k2 => k_asm); (case k3 => k_asm); (case k4 => k_asm); (case k5 => k_asm); (case k6 => exact rfl); (case k8 => ktr_room); (case k9 => ktr_units); k_whole); intro t9 h9 tk9 F9 N9; (try dsimp only); (try k_fold))
  (refine wpAny_call ?_; k_dflt (refine' code_def ?k1 ?k2 ?k3 ?k4 ?k5 ?kA ?kF ?kK ?k6 ?k7 ?k8 ?k9 ?kB ?_ ?c2 ?c3 ?c4 ?c5; (case kA => exact rfl); (case kF => exact rfl); (case kK => assumption); (case k1 => k_asm); (case k2 => k_asm); (case k3 => k_asm); (case k4 => k_asm); (case k5 => k_asm); (case k6 => k_is); (case k7 => k_is); (case k8 => ktr_room); (case k9 => first | exact BindsTo.of_eq rfl | exact binds_K (by k_in) rfl (by k_is) rfl rfl rfl); (case c5 => decide); (case kB => exact locs rfl); (case c2 => exact rfl); (case c3 => exact rfl); (case c4 => exact rfl); k_whole; intro g' L' h' FG' F' N' B' X' T'; (try dsimp only); (try k_lift B'); (try k_fold)))
  repeat' ((fail_if_success (with_reducible show wpAny _ _ (pyIter _) _ _ _)); first | (k_unfold; (try dsimp only)) | (k_end; wrow_close) | walk1 | (dsimp only; walk1) | (leave1; walk_say "STEP leave1"; try dsimp only) | fail "no step")
  k_state (fun pre figures => figures = pre.map (laidF pt)) "figures"
  · have hkn := h64 kN (by rw [kEq]; simp)
    have hml := map_len kInv
    have hpl : kPre.length < pN.length := by rw [kEq]; simp
    k_with "state" => first | exact rfl | exact laid_s1 kInv (by assumption) (by assumption) | exact laid_s2 kInv (fun q => absurd q.2 (by assumption)) | exact laid_s2 kInv (fun q => absurd q.1 (by omega))
    k_steps
  · have hml := map_len kInv
    k_steps
    rename News _ _ _ _ => kN9
    rename Fr _ _ _ _ => kF9
    rename _ ∧ _ ∧ _ ∧ _ ∧ AllLt _ _ => kA9
    rename IntsAre _ (_ ++ _) => kI9
    exact hret _ _ _ _ _ (kst_ltOf kA9.2.2.2.2) kF9 (fun p hp => kN9 p (mem_15 hp)) (by rw [laid_eq kInv] at kI9; exact kI9)
end
section
local macro_rules | `(tactic| walk_at "call ref") => `(tactic| k_extra "m call")
local macro_rules | `(tactic| walk_at "call builtin:len") => `(tactic| (k_here; (with_reducible show wpAny _ _ (call (Value.builtin "len") [Value.ref _]) _ _ _); k_dflt (refine' kst_len ?k1 ?k2 ?k3 ?k4 ?_; (case k1 => k_asm); (case k2 => first | exact List.Mem.head _ | kst_mem); (case k3 => exact IntsAre.length (by assumption)); (case k4 => omega)); k_whole))
local macro_rules | `(tactic| walk_at "subscriptTail Name Constant ref int") => `(tactic| (k_here; (with_reducible show wpAny _ _ (subscriptTail _ _ (Value.ref _) (Value.int _ _)) _ _ _); k_dflt (refine' item_lstV ?k1 ?k2 ?k3 ?k4 ?k5 ?k6 ?k7 ?_; (case k1 => k_asm); (case k2 => repeat (first | exact List.Mem.head _ | refine List.Mem.tail _ ?_)); (case k3 => assumption); (case k4 => omega); (case k5 => omega); (case k6 => omega); (case k7 => assumption)); k_whole; intro t6; (try dsimp only)))
theorem off_PG : True := by
  w_top off
  trivial
theorem iteb_pos {a b : Int} {P R : Prop} (h : a = b) (x : P) : if (a == b) = true then P else R := by rw [if_pos (by rw [h]; exact beq_self_eq_true b)]; exact x
theorem iteb_neg {a b : Int} {P R : Prop} (h : ¬ a = b) (x : R) : if (a == b) = true then P else R := by rw [if_neg (by simpa using h)]; exact x
local macro_rules | `(tactic| walk_at "ite") => `(tactic| first | with_reducible refine iteb_pos rfl ?_ | with_reducible refine iteb_neg (by omega) ?_)
theorem b3lo (a b : List Int) : B3 (List.zipWith loF a b) := zip3 (fun _ _ => fmod3_in _) a b
theorem b3hi (a b : List Int) : B3 (List.zipWith hiF a b) := zip3 (fun _ _ => fmod3_in _) a b
theorem zpick {h₀ h : Heap} {L : Addr} {x1 x2 x3 x4 x5 : Addr × Obj} {r : List (Addr × Obj)} (N : News h₀ L h (x1 :: x2 :: x3 :: x4 :: x5 :: r)) : News h₀ L h (x4 :: r) ∧ News h₀ L h (x3 :: r) ∧ News h₀ L h (x2 :: r) := by
  refine ⟨fun p hp => N p ?_, fun p hp => N p ?_, fun p hp => N p ?_⟩ <;> (simp only [List.mem_cons] at hp ⊢; rcases hp with hp | hp <;> simp [hp])
theorem c_half (w : World) (news : List (Addr × Obj)) (l n : Nat) (tx ty : Tok) (hl : l = n + n) :
  ∀ (p : Program) (loose : List Str) (mean : ExcName → Option Value) (mg mb : Str → Option Value) (dp un : Nat) (gd : Option (List Code)) (cn : Str) (cs : Scope) (a : Addr) (ccd : Value) (cl : List (Str × Addr)) (outer : List Env) (A₀ : Around) (base h₀ : Heap) (L : Addr) (m : Str → Option Value) (s : Shared) (Q E : Value → Shared → Prop),
    Below A₀ base outer h₀ → Fr h₀ L s.heap m → (hd01.heap_1 w.params).In h₀ → News h₀ L s.heap news → Top p loose mean mg mb h₀ → cs.kind = .function → dp + 1 < recursionLimit → un + 8 < cLine →
    (∀ t h' tk', Fr h₀ L h' m → News h₀ L h' news → Q (.int (n : Int) t) { s with heap := h', toks := tk' }) →
    wpAny (model Challenge.rw_op0202_01.row.prog w) (ktrTop dp un gd cn cs L a ccd cl outer) (call (.ref 820) [.int (l : Int) tx, .int 1 ty]) Q E s := by
  have e : (l : Int).fdiv (2 ^ (1 : Int).toNat) = (n : Int) := by
    rw [Int.fdiv_eq_ediv_of_nonneg _ (by decide), hl]
    show ((n + n : Nat) : Int) / 2 = _
    omega
  have := c_rshift w news (l : Int) 1 tx ty (by decide)
  rw [e] at this
  exact this
theorem c_prog (w : World) : ∀ (b : Nat), b ≤ 4 → ∀ (news : List (Addr × Obj)) (tl : Addr) (tV : List Value) (nt : Nat) (tN : List Int) (bi : Int) (tb : Tok) (htl : (tl, listOf tV.toArray nt) ∈ news) (hI : IntsAre tV tN) (ht : B3 tN) (hl : tN.length = 2 ^ b) (hbi : bi = (b : Int)),
  ∀ (p : Program) (loose : List Str) (mean : ExcName → Option Value) (mg mb : Str → Option Value) (dp un : Nat) (gd : Option (List Code)) (cn : Str) (cs : Scope) (a : Addr) (ccd : Value) (cl : List (Str × Addr)) (outer : List Env) (A₀ : Around) (base h₀ : Heap) (L : Addr) (m : Str → Option Value) (s : Shared) (Q E : Value → Shared → Prop),
    Below A₀ base outer h₀ → Fr h₀ L s.heap m → (hd01.heap_1 w.params).In h₀ → News h₀ L s.heap news → Top p loose mean mg mb h₀ → cs.kind = .function → dp + (b + 3) < recursionLimit → un + 8 * (b + 3) < cLine →
    (∀ pl pV np h' tk', Fr h₀ L h' m → News h₀ L h' ((pl, listOf pV.toArray np) :: news) → IntsAre pV (progT b tN) → Q (.ref pl) { s with heap := h', toks := tk' }) →
    wpAny (model Challenge.rw_op0202_01.row.prog w) (ktrTop dp un gd cn cs L a ccd cl outer) (call (.ref 832) [.ref tl, .int bi tb]) Q E s := by
  intro b
  induction b with
  | zero =>
    intro hb4 news tl tV nt tN bi tb htl hI ht hl hbi
    k_fill
    intros
    rename_i hret
    rename News _ _ _ _ => N0
    have N1 := news_dup N0 htl
    clear N0 htl
    have hbi0 : bi = (0 : Int) := hbi
    clear hbi
    subst hbi0
    k_with_none
    (refine wpAny_call ?_; k_dflt (refine' code_def ?k1 ?k2 ?k3 ?k4 ?k5 ?kA ?kF ?kK ?k6 ?k7 ?k8 ?k9 ?kB ?_ ?c2 ?c3 ?c4 ?c5; (case kA => exact rfl); (case kF => exact rfl); (case kK => assumption); (case k1 => k_asm); (case k2 => k_asm); (case k3 => k_asm); (case k4 => k_asm); (case k5 => k_asm); (case k6 => k_is); (case k7 => k_is); (case k8 => ktr_room); (case k9 => first | exact BindsTo.of_eq rfl | exact binds_K (by k_in) rfl (by k_is) rfl rfl rfl); (case c5 => decide); (case kB => exact locs rfl); (case c2 => exact rfl); (case c3 => exact rfl); (case c4 => exact rfl); k_whole; intro g' L' h' FG' F' N' B' X' T'; (try dsimp only); (try k_lift B'); (try k_fold)))
    have hx := getD_cases ht 0 (by rw [hl]; decide)
    have hl1 : tN.length = 1 := hl
    generalize hv : tN.getD 0 0 = x at hx
    repeat' ((fail_if_success (with_reducible show wpAny _ _ (subscriptTail (PySem.Expr.Name (Str.ofString "_") _) _ (Value.ref _) (Value.int _ _)) _ _ _)); first | (k_unfold; (try dsimp only)) | (k_end; wrow_close) | walk1 | (dsimp only; walk1) | (leave1; walk_say "STEP leave1"; try dsimp only) | fail "no step")
    have e0 : progT 0 tN = if x = 0 then [] else if x = 1 then [62, 63] else [63, 62] := by rw [← hv]; rfl
    rcases hx with rfl | rfl | rfl
    all_goals k_steps
    all_goals (rename News _ _ _ _ => kN9; rename Fr _ _ _ _ => kF9)
    · rw [if_pos rfl] at e0
      rw [e0] at hret
      exact hret _ _ _ _ _ kF9 (zpick kN9).1 .nil
    · rw [if_neg (by decide), if_pos rfl] at e0
      rw [e0] at hret
      exact hret _ _ _ _ _ kF9 (zpick kN9).2.1 (.cons _ _ (.cons _ _ .nil))
    · rw [if_neg (by decide), if_neg (by decide)] at e0
      rw [e0] at hret
      exact hret _ _ _ _ _ kF9 (zpick kN9).2.2 (.cons _ _ (.cons _ _ .nil))
  | succ b ih =>
    intro hb4 news tl tV nt tN bi tb htl hI ht hl hbi
    k_fill
    intros
    rename_i hret
    rename News _ _ _ _ => N0
    have N1 := news_dup N0 htl
    clear N0 htl
    have hb3 : b < 4 := by omega
    obtain ⟨n, hn⟩ : ∃ n : Nat, n = 2 ^ b := ⟨_, rfl⟩
    have hl2 : tN.length = n + n := by rw [hl, hn, Nat.pow_succ]; omega
    have hn8 : n ≤ 8 := by
      rw [hn]
      exact Nat.le_trans (Nat.pow_le_pow_right (by decide) (show b ≤ 3 by omega)) (by decide)
    have hn1 : 1 ≤ n := by rw [hn]; exact Nat.pow_pos (by decide)
    have hz : ∀ g : Int → Int → Int, (List.zipWith g (tN.take n) (tN.drop n)).length = 2 ^ b := fun g => by
      rw [List.length_zipWith, List.length_take, List.length_drop, hl2, ← hn]
      omega
    have hpl := prog_len b (List.zipWith loF (tN.take n) (tN.drop n))
    have hph := prog_len b (List.zipWith hiF (tN.take n) (tN.drop n))
    rw [← hn] at hpl hph
    k_with_none
    k_with "m call" =>
      first
      | ((with_reducible show wpAny _ _ (call (Value.ref 820) _) _ _ _); k_dflt (refine' c_half w _ _ _ _ _ hl2 _ _ _ _ _ _ _ _ _ _ _ _ _ _ _ _ _ _ _ _ _ _ ?k1 ?k2 ?k3 ?k4 ?k5 ?k6 ?k8 ?k9 ?_; (case k1 => k_asm); (case k2 => k_asm); (case k3 => k_asm); (case k4 => k_asm); (case k5 => k_asm); (case k6 => exact rfl); (case k8 => ktr_room); (case k9 => ktr_units); k_whole); intro t9 h9 tk9 F9 N9; (try dsimp only); (try k_fold))
      | ((with_reducible show wpAny _ _ (call (Value.ref 771) _) _ _ _); k_dflt (refine' c_add w _ _ _ _ _ _ _ _ _ _ _ _ _ _ _ _ _ _ _ _ _ _ _ _ _ _ _ ?k1 ?k2 ?k3 ?k4 ?k5 ?k6 ?k8 ?k9 ?_; (case k1 => k_asm); (case k2 => k_asm); (case k3 => k_asm); (case k4 => k_asm); (case k5 => k_asm); (case k6 => exact rfl); (case k8 => ktr_room); (case k9 => ktr_units); k_whole); intro t9 h9 tk9 F9 N9; (try dsimp only); (try k_fold))
      | ((with_reducible show wpAny _ _ (call (Value.ref 806) _) _ _ _); k_dflt (refine' c_neg w _ _ _ _ _ _ _ _ _ _ _ _ _ _ _ _ _ _ _ _ _ _ _ _ _ ?k1 ?k2 ?k3 ?k4 ?k5 ?k6 ?k8 ?k9 ?_; (case k1 => k_asm); (case k2 => k_asm); (case k3 => k_asm); (case k4 => k_asm); (case k5 => k_asm); (case k6 => exact rfl); (case k8 => ktr_room); (case k9 => ktr_units); k_whole); intro t9 h9 tk9 F9 N9; (try dsimp only); (try k_fold))
      | ((with_reducible show wpAny _ _ (call (Value.ref 827) _) _ _ _); k_dflt (refine' c_sub w _ _ _ _ _ _ _ _ _ _ _ _ _ _ _ _ _ _ _ _ _ _ _ _ _ _ _ ?k1 ?k2 ?k3 ?k4 ?k5 ?k6 ?k8 ?k9 ?_; (case k1 => k_asm); (case k2 => k_asm); (case k3 => k_asm); (case k4 => k_asm); (case k5 => k_asm); (case k6 => exact rfl); (case k8 => ktr_room); (case k9 => ktr_units); k_whole); intro t9 h9 tk9 F9 N9; (try dsimp only); (try k_fold))
      | ((with_reducible show wpAny _ _ (call (Value.ref 799) _) _ _ _); k_dflt (refine' c_mod w _ _ _ _ _ (by decide) _ _ _ _ _ _ _ _ _ _ _ _ _ _ _ _ _ _ _ _ _ _ ?k1 ?k2 ?k3 ?k4 ?k5 ?k6 ?k8 ?k9 ?_; (case k1 => k_asm); (case k2 => k_asm); (case k3 => k_asm); (case k4 => k_asm); (case k5 => k_asm); (case k6 => exact rfl); (case k8 => ktr_room); (case k9 => ktr_units); k_whole); intro t9 h9 tk9 F9 N9; (try dsimp only); (try k_fold))
      | ((with_reducible show wpAny _ _ (call (Value.ref 832) _) _ _ _); k_dflt (refine' ih (by omega) _ _ _ _ _ _ _ (List.Mem.head _) (by assumption) (b3lo _ _) (hz _) (by omega) _ _ _ _ _ _ _ _ _ _ _ _ _ _ _ _ _ _ _ _ _ _ ?k1 ?k2 ?k3 ?k4 ?k5 ?k6 ?k8 ?k9 ?_; (case k1 => k_asm); (case k2 => k_asm); (case k3 => k_asm); (case k4 => k_asm); (case k5 => k_asm); (case k6 => exact rfl); (case k8 => ktr_room); (case k9 => ktr_units); k_whole); intro pl pV np h9 tk9 F9 N9 I9; (try dsimp only); (try k_fold))
      | ((with_reducible show wpAny _ _ (call (Value.ref 832) _) _ _ _); k_dflt (refine' ih (by omega) _ _ _ _ _ _ _ (List.Mem.head _) (by assumption) (b3hi _ _) (hz _) (by omega) _ _ _ _ _ _ _ _ _ _ _ _ _ _ _ _ _ _ _ _ _ _ ?k1 ?k2 ?k3 ?k4 ?k5 ?k6 ?k8 ?k9 ?_; (case k1 => k_asm); (case k2 => k_asm); (case k3 => k_asm); (case k4 => k_asm); (case k5 => k_asm); (case k6 => exact rfl); (case k8 => ktr_room); (case k9 => ktr_units); k_whole); intro pl pV np h9 tk9 F9 N9 I9; (try dsimp only); (try k_fold))
    (refine wpAny_call ?_; k_dflt (refine' code_def ?k1 ?k2 ?k3 ?k4 ?k5 ?kA ?kF ?kK ?k6 ?k7 ?k8 ?k9 ?kB ?_ ?c2 ?c3 ?c4 ?c5; (case kA => exact rfl); (case kF => exact rfl); (case kK => assumption); (case k1 => k_asm); (case k2 => k_asm); (case k3 => k_asm); (case k4 => k_asm); (case k5 => k_asm); (case k6 => k_is); (case k7 => k_is); (case k8 => ktr_room); (case k9 => first | exact BindsTo.of_eq rfl | exact binds_K (by k_in) rfl (by k_is) rfl rfl rfl); (case c5 => decide); (case kB => exact locs rfl); (case c2 => exact rfl); (case c3 => exact rfl); (case c4 => exact rfl); k_whole; intro g' L' h' FG' F' N' B' X' T'; (try dsimp only); (try k_lift B'); (try k_fold)))
    repeat' ((fail_if_success (with_reducible show wpAny _ _ (subscriptTail (PySem.Expr.Name (Str.ofString "table") _) _ (Value.ref _) (Value.ref _)) _ _ _)); first | (k_unfold; (try dsimp only)) | (k_end; wrow_close) | walk1 | (dsimp only; walk1) | (leave1; walk_say "STEP leave1"; try dsimp only) | fail "no step")
    k_dflt (refine' kmk_slice_ints (by k_asm) (by k_asm) (News.isList (by k_asm) (.head _)) IsPart.none (IsPart.int _ _) hI (kmk_upto hI (Int.natCast_nonneg n)) (List.length_take ..) ?_ (by generalize Heap.objs _ = hh; generalize Array.size hh = zz; rfl) (by intro _; rfl) (kmk_sz hI (by rw [sizeLine_eq]; omega)))
    intro D1 ws1 h1 F1 NA l1 hI1 hC1 hL1
    (try k_lt l1)
    (try dsimp only)
    repeat' ((fail_if_success (with_reducible show wpAny _ _ (subscriptTail (PySem.Expr.Name (Str.ofString "table") _) _ (Value.ref _) (Value.ref _)) _ _ _)); first | (k_unfold; (try dsimp only)) | (k_end; wrow_close) | walk1 | (dsimp only; walk1) | (leave1; walk_say "STEP leave1"; try dsimp only) | fail "no step")
    k_dflt (refine' kmk_slice_ints (by k_asm) (by k_asm) (News.isList (by k_asm) (.tail _ (.head _))) (IsPart.int _ _) IsPart.none hI (kmk_from hI (Int.natCast_nonneg n)) (List.length_drop ..) ?_ (by generalize Heap.objs _ = hh; generalize Array.size hh = zz; rfl) (by intro _; rfl) (kmk_sz hI (by rw [sizeLine_eq]; omega)))
    intro D2 ws2 h2 F2 NB l2 hI2 hC2 hL2
    (try k_lt l2)
    (try dsimp only)
    repeat' ((fail_if_success (with_reducible show wpAny _ _ (call (Value.type "zip") _) _ _ _)); first | (k_unfold; (try dsimp only)) | (k_end; wrow_close) | walk1 | (dsimp only; walk1) | (leave1; walk_say "STEP leave1"; try dsimp only) | fail "no step")
    refine zip_led F2 NB (.tail _ (.head _)) (.head _) ?_
    intro z h3 F3 N3 Z3
    (try dsimp only)
    repeat' ((fail_if_success (with_reducible show wpAny _ _ (call (Value.type "list") _) _ _ _)); first | (k_unfold; (try dsimp only)) | (k_end; wrow_close) | walk1 | (dsimp only; walk1) | (leave1; walk_say "STEP leave1"; try dsimp only) | fail "no step")
    refine zip_list_led rfl F3 N3 Z3 ?q1 ?q2 ?q3 ?_
    case q1 => rw [hI1.length, hI2.length, hC1, hC2, hl2]; simp only [Int.toNat_natCast]; omega
    case q2 => rw [hI1.length, hC1]; omega
    case q3 => rw [hI1.length, hC1, hl2]; simp only [Int.toNat_natCast]; omega
    intro S as c h4 tk4 rest hsub has hT F4 N4
    (try dsimp only)
    rw [Int.toNat_natCast] at hI1 hI2 hC1 hC2
    clear N3 Z3 NA NB N1
    repeat' ((fail_if_success (with_reducible show wpAny _ _ (eval (PySem.Expr.ListComp _ _ _ _) _) _ _ _)); first | (k_unfold; (try dsimp only)) | (k_end; wrow_close) | walk1 | (dsimp only; walk1) | (leave1; walk_say "STEP leave1"; try dsimp only) | fail "no step")
    k_dflt (refine LCp.ListComp_P (F₀ := by k_asm) (by with_unfolding_all rfl) (by decide) (by rfl) (by decide) (by rfl) (by rfl) (by decide) ?_)
    repeat' ((fail_if_success (with_reducible show LCp.SrcLP _ _ _ _ _ _ _ _ _ _ _ _ _ _ _)); first | (k_unfold; (try dsimp only)) | (k_end; wrow_close) | walk1 | (dsimp only; walk1) | (leave1; walk_say "STEP leave1"; try dsimp only) | fail "no step")
    k_dflt (refine' srcP_mk loF rfl ?gF ?gN ?gm hI1 hI2 has ?glen ?gsz ?gT ?gturn ?gfin)
    case gF => k_asm
    case gN => k_asm
    case gm => repeat (first | exact List.Mem.head _ | refine List.Mem.tail _ ?_)
    case glen => rw [List.length_take, List.length_drop, hl2]; omega
    case gsz => rw [List.length_take]; omega
    case gT =>
      intro j a hj
      obtain ⟨x, y, e1, e2, e3⟩ := hT j a hj
      exact ⟨x, y, e1, e2, by repeat (first | exact e3 | refine List.Mem.tail _ ?_)⟩
    case gturn =>
      intro hp a b' ta tb' I oI C oC D m₂ zs h tk E' ha hb hC h1 h2 F' N' off ne
      k_steps
      exact ⟨rfl, _, rfl⟩
    case gfin =>
      intro hp zs hzs D h5 tk5 F5 N5 off
      k_whole
      (try dsimp only)
      repeat' ((fail_if_success (with_reducible show wpAny _ _ (eval (PySem.Expr.ListComp _ _ _ _) _) _ _ _)); first | (k_unfold; (try dsimp only)) | (k_end; wrow_close) | walk1 | (dsimp only; walk1) | (leave1; walk_say "STEP leave1"; try dsimp only) | fail "no step")
      k_dflt (refine LCp.ListComp_P (F₀ := by k_asm) (by with_unfolding_all rfl) (by decide) (by rfl) (by decide) (by rfl) (by rfl) (by decide) ?_)
      repeat' ((fail_if_success (with_reducible show LCp.SrcLP _ _ _ _ _ _ _ _ _ _ _ _ _ _ _)); first | (k_unfold; (try dsimp only)) | (k_end; wrow_close) | walk1 | (dsimp only; walk1) | (leave1; walk_say "STEP leave1"; try dsimp only) | fail "no step")
      k_dflt (refine' srcP_mk hiF rfl ?gF ?gN ?gm hI1 hI2 has ?glen ?gsz ?gT ?gturn ?gfin)
      case gF => k_asm
      case gN => k_asm
      case gm => repeat (first | exact List.Mem.head _ | refine List.Mem.tail _ ?_)
      case glen => rw [List.length_take, List.length_drop, hl2]; omega
      case gsz => rw [List.length_take]; omega
      case gT =>
        intro j a hj
        obtain ⟨x, y, e1, e2, e3⟩ := hT j a hj
        exact ⟨x, y, e1, e2, by repeat (first | exact e3 | refine List.Mem.tail _ ?_)⟩
      case gturn =>
        intro hp a b' ta tb' I oI C oC D m₂ zs h tk E' ha hb hC h1 h2 F' N' off ne
        k_steps
        exact ⟨rfl, _, rfl⟩
      case gfin =>
        intro hp zs hzs D h5 tk5 F5 N5 off
        k_whole
        (try dsimp only)
        k_steps
        rename News _ _ _ _ => kN9
        rename Fr _ _ _ _ => kF9
        rename IntsAre _ (_ ++ _ ++ _ ++ _) => kI9
        have hb1 : bi - 1 = (b : Int) := by omega
        have e : progT (b + 1) tN = progT b (List.zipWith loF (tN.take n) (tN.drop n)) ++ [bi - 1] ++ progT b (List.zipWith hiF (tN.take n) (tN.drop n)) ++ [bi - 1] := by rw [hb1, hn]; rfl
        rw [← e] at kI9
        refine hret _ _ 0 _ _ kF9 (fun p hp => kN9 p ?_) kI9
        rcases List.mem_cons.mp hp with rfl | hp
        · exact List.Mem.head _
        · have hr := hsub p (.tail _ (.tail _ (.tail _ hp)))
          repeat (first | exact hr | refine List.Mem.tail _ ?_)
end
section
local macro_rules | `(tactic| walk_at "compareOp In str str") => `(tactic| first
  | (refine in_one false (by with_reducible assumption) ?_; (try dsimp only))
  | (refine in_one true (by with_reducible assumption) ?_; (try dsimp only))
  | (refine in_by false (by decide +kernel) ?_; (try dsimp only))
  | (refine in_by true (by decide +kernel) ?_; (try dsimp only)))
local macro_rules | `(tactic| walk_at "compareOp NotIn str str") => `(tactic| first
  | (refine notIn_one false (by with_reducible assumption) ?_; (try dsimp only [Bool.not_false, Bool.not_true]))
  | (refine notIn_one true (by with_reducible assumption) ?_; (try dsimp only [Bool.not_false, Bool.not_true]))
  | (refine notIn_by false (by decide +kernel) ?_; (try dsimp only))
  | (refine notIn_by true (by decide +kernel) ?_; (try dsimp only)))
local macro_rules | `(tactic| walk_at "compareOp Eq str str") => `(tactic| first
  | (refine eq_by false (by with_reducible assumption) ?_; (try dsimp only))
  | (refine eq_by true (by with_reducible assumption) ?_; (try dsimp only))
  | (refine eq_by false (by decide +kernel) ?_; (try dsimp only))
  | (refine eq_by true (by decide +kernel) ?_; (try dsimp only)))
local macro_rules | `(tactic| walk_at "compareOp NotEq str str") => `(tactic| first
  | (refine ne_by false (by with_reducible assumption) ?_; (try dsimp only [Bool.not_false, Bool.not_true]))
  | (refine ne_by true (by with_reducible assumption) ?_; (try dsimp only [Bool.not_false, Bool.not_true]))
  | (refine ne_by false (by decide +kernel) ?_; (try dsimp only [Bool.not_false, Bool.not_true]))
  | (refine ne_by true (by decide +kernel) ?_; (try dsimp only [Bool.not_false, Bool.not_true])))
local macro_rules | `(tactic| walk_at "inplaceOp Add str str") => `(tactic| (refine iadd_by (by with_reducible assumption) (by first | exact one_len _ | decide +kernel) ?_; intro tA tB))
local macro_rules | `(tactic| walk_at "truthy str") => `(tactic| ((with_reducible refine truthy_one ?_); (try dsimp only)))
section
structure LexK where
  io : Addr
  dq1 : Addr
  dq2 : Addr
  wc : Str
  (h0 h1 h2 h3 h4 h5 h6 h7 h8 h9 h10 h11 h12 h13 h14 h15 h16 h17 h18 : Int)
  (t0 t1 t2 t3 t4 t5 t6 t7 t8 t9 t10 t11 t12 t13 t14 t15 t16 t17 t18 : Tok)
  (u4 u5 u6 u8 u9 u10 u13 u14 u18 : Tok)
theorem off_RT : True := by
  w_top off
  trivial
noncomputable def lexD (k : LexK) (st tv : Value) : List DictEntry :=
  [⟨k.h0, .str "instream" k.t0, .ref k.io⟩,
   ⟨k.h1, .str "infile" k.t1, .none⟩,
   ⟨k.h2, .str "posix" k.t2, .bool true⟩,
   ⟨k.h3, .str "eof" k.t3, .none⟩,
   ⟨k.h4, .str "commenters" k.t4, .str "" k.u4⟩,
   ⟨k.h5, .str "wordchars" k.t5, .str k.wc k.u5⟩,
   ⟨k.h6, .str "whitespace" k.t6, .str " \t\r\n" k.u6⟩,
   ⟨k.h7, .str "whitespace_split" k.t7, .bool true⟩,
   ⟨k.h8, .str "quotes" k.t8, .str "'\"" k.u8⟩,
   ⟨k.h9, .str "escape" k.t9, .str "\\" k.u9⟩,
   ⟨k.h10, .str "escapedquotes" k.t10, .str "\"" k.u10⟩,
   ⟨k.h11, .str "state" k.t11, st⟩,
   ⟨k.h12, .str "pushback" k.t12, .ref k.dq1⟩,
   ⟨k.h13, .str "lineno" k.t13, .int 1 k.u13⟩,
   ⟨k.h14, .str "debug" k.t14, .int 0 k.u14⟩,
   ⟨k.h15, .str "token" k.t15, tv⟩,
   ⟨k.h16, .str "filestack" k.t16, .ref k.dq2⟩,
   ⟨k.h17, .str "source" k.t17, .none⟩,
   ⟨k.h18, .str "_punctuation_chars" k.t18, .str "" k.u18⟩]

theorem lx_any {c : Nat} (hc : okC c) : decide (c ∈ (Str.ofString " \t\r\n").cps.toList) = false ∧ decide (c ∈ (Str.ofString "").cps.toList) = false := by
  have hb : c ≠ 32 ∧ c ≠ 9 ∧ c ≠ 13 ∧ c ≠ 10 := by
    rcases hc with h | h | h | h
    · simp only [isLet, Bool.or_eq_true, Bool.and_eq_true, decide_eq_true_eq] at h
      omega
    all_goals omega
  exact ⟨not_mem_of (l := [32, 9, 13, 10]) (by decide +kernel) (by simp; exact hb), not_mem_of (l := []) (by decide +kernel) (by simp)⟩
noncomputable def lxLed (k : LexK) (dlex dio : Addr) (rest : List (Addr × Obj)) (h1 h2 h3 : Int) (t1 t2 t3 t4 t5 : Tok) (nl buf : Str) (c : LxS) : List (Addr × Obj) :=
  (dlex, dictOf (lexD k (.str c.md.st c.t1) (.str c.x c.t2)) 19) :: (dio, dictOf (ioD h1 h2 h3 t1 t2 t3 t4 t5 c.t3 nl buf c.pos) 3) :: rest
theorem sub0 {l : List (Addr × Obj)} : ∀ p ∈ l, p ∈ l := fun _ h => h
theorem sub1 {x : Addr × Obj} {l : List (Addr × Obj)} : ∀ p ∈ l, p ∈ x :: l := fun _ h => .tail _ h
theorem news_swap {h₀ h : Heap} {L : Addr} {x y : Addr × Obj} {rest : List (Addr × Obj)} (N : News h₀ L h (x :: y :: rest)) : News h₀ L h (y :: x :: rest) := fun p hp => N p (by
  rcases List.mem_cons.mp hp with rfl | hp
  · exact .tail _ (.head _)
  · rcases List.mem_cons.mp hp with rfl | hp
    · exact .head _
    · exact .tail _ (.tail _ hp))
theorem c_read2 {w : World} {D : Addr × Obj} {rest : List (Addr × Obj)} {io dio : Addr} {h1 h2 h3 : Int} {t1 t2 t3 t4 t5 t6 t7 : Tok} {nl : Str} {pre post : List Nat} {c : Nat} {buf : Str} {pos : Int}
   {p : Program} {loose : List Str} {mean : ExcName → Option Value} {mg mb : Str → Option Value} {dp un : Nat} {gd : Option (List Code)} {cn : Str} {cs : Scope} {a : Addr} {ccd : Value} {cl : List (Str × Addr)} {outer : List Env} {A₀ : Around} {base h₀ : Heap} {L : Addr} {m : Str → Option Value} {s : Shared} {Q E : Value → Shared → Prop}
   (B : Below A₀ base outer h₀) (F : Fr h₀ L s.heap m) (X : (hd01.heap_1 w.params).In h₀) (N : News h₀ L s.heap (D :: (dio, dictOf (ioD h1 h2 h3 t1 t2 t3 t4 t5 t6 nl buf pos) 3) :: rest)) (T : Top p loose mean mg mb h₀) (hk : cs.kind = .function)
   (m1 : (io, instObj 587 dio) ∈ rest) (hne : ∀ p ∈ rest, p.1 ≠ dio) (hne1 : D.1 ≠ dio) (hsz : pre.length + post.length < 1000) (hbuf : buf = ⟨(pre ++ c :: post).toArray⟩) (hpos : pos = (pre.length : Int))
   (hd : dp + 5 < recursionLimit) (hu : un + 40 < cLine)
   (ret : ∀ t t' h' tk', Fr h₀ L h' m → News h₀ L h' (D :: (dio, dictOf (ioD h1 h2 h3 t1 t2 t3 t4 t5 t' nl buf (pos + 1)) 3) :: rest) → Q (.str ⟨#[c]⟩ t) { s with heap := h', toks := tk' }) :
   wpAny (model Challenge.rw_op0202_01.row.prog w) (ktrTop dp un gd cn cs L a ccd cl outer) (call (.ref 533) [.ref io, .int 1 t7]) Q E s :=
  c_read w (D :: rest) io dio h1 h2 h3 t1 t2 t3 t4 t5 t6 t7 nl pre post c (.tail _ m1) (by intro p hp; rcases List.mem_cons.mp hp with rfl | hp; exact hne1; exact hne p hp) hsz buf hbuf pos hpos _ rfl
    p loose mean mg mb dp un gd cn cs a ccd cl outer A₀ base h₀ L m s Q E B F X (news_swap N) T hk hd hu (fun t t' h' tk' F' N' => ret t t' h' tk' F' (news_swap N'))

local macro_rules | `(tactic| walk_at "call ref") => `(tactic| k_extra "m call")
theorem c_read_token (w : World) (rest : List (Addr × Obj)) (k : LexK) (lex dlex dio : Addr) (h1 h2 h3 : Int) (t1 t2 t3 t4 t5 t6 t7 t8 : Tok) (nl buf : Str) (text out : List Nat)
   (m0 : (lex, instObj 722 dlex) ∈ rest) (m1 : (k.io, instObj 587 dio) ∈ rest) (hne1 : ∀ p ∈ rest, p.1 ≠ dio) (hne2 : ∀ p ∈ rest, p.1 ≠ dlex) (hne3 : dio ≠ dlex)
   (hsz : text.length < 900) (hbuf : buf = ⟨text.toArray⟩) (hrun : runM .w text = (out, .a)) (hout : out ≠ []) (hnn : text ≠ []) (hol : out.length < 2000)
   (hws : ∀ c ∈ text, okC c) (hwc : WcOk k.wc)
   (news : List (Addr × Obj)) (hnews : news = (dlex, dictOf (lexD k (.str " " t7) (.str "" t8)) 19) :: (dio, dictOf (ioD h1 h2 h3 t1 t2 t3 t4 t5 t6 nl buf 0) 3) :: rest) :
  ∀ (p : Program) (loose : List Str) (mean : ExcName → Option Value) (mg mb : Str → Option Value) (dp un : Nat) (gd : Option (List Code)) (cn : Str) (cs : Scope) (a : Addr) (ccd : Value) (cl : List (Str × Addr)) (outer : List Env) (A₀ : Around) (base h₀ : Heap) (L : Addr) (m : Str → Option Value) (s : Shared) (Q E : Value → Shared → Prop),
    Below A₀ base outer h₀ → Fr h₀ L s.heap m → (hd01.heap_1 w.params).In h₀ → News h₀ L s.heap news → Top p loose mean mg mb h₀ → cs.kind = .function → dp + 7 < recursionLimit → un + 56 < cLine →
    (∀ t t' t'' h' tk', Fr h₀ L h' m → News h₀ L h' ((dlex, dictOf (lexD k .none (.str "" t')) 19) :: (dio, dictOf (ioD h1 h2 h3 t1 t2 t3 t4 t5 t'' nl buf text.length) 3) :: rest) → Q (.str ⟨out.toArray⟩ t) { s with heap := h', toks := tk' }) →
    wpAny (model Challenge.rw_op0202_01.row.prog w) (ktrTop dp un gd cn cs L a ccd cl outer) (call (.ref 690) [.ref lex]) Q E s := by
  subst hnews
  k_fill
  intros
  rename_i hret
  (refine wpAny_call ?_; k_dflt (refine' code_def ?k1 ?k2 ?k3 ?k4 ?k5 ?kA ?kF ?kK ?k6 ?k7 ?k8 ?k9 ?kB ?_ ?c2 ?c3 ?c4 ?c5; (case kA => exact rfl); (case kF => exact rfl); (case kK => assumption); (case k1 => k_asm); (case k2 => k_asm); (case k3 => k_asm); (case k4 => k_asm); (case k5 => k_asm); (case k6 => k_is); (case k7 => k_is); (case k8 => ktr_room); (case k9 => first | exact BindsTo.of_eq rfl | exact binds_K (by k_in) rfl (by k_is) rfl rfl rfl); (case c5 => decide); (case kB => exact locs rfl); (case c2 => exact rfl); (case c3 => exact rfl); (case c4 => exact rfl); k_whole; intro g' L' h' FG' F' N' B' X' T'; (try dsimp only); (try k_lift B'); (try k_fold)))
  walk1; walk1; walk1; walk1; walk1; walk1; walk1; walk1; walk1
  dsimp only
  walk1; walk1
  have hP0 : ∀ t9, lxP text out ⟨.w, "", text, 0, false, " ", t7, t8, t6, t9⟩ := by
    intro t9
    refine ⟨⟨[], rfl, rfl⟩, ?_, ?_, ?_, ?_, ?_⟩
    · rw [hrun]; exact Str.empty_append _
    · rw [hrun]
    · intro _; exact ⟨rfl, hnn⟩
    · intro h; cases h
    · intro h; cases h
  rename Fr _ _ _ _ => lF
  rename News _ _ _ _ => lN
  with_unfolding_all refine' ksw_while (σ := LxS) (lxLed k dlex dio rest h1 h2 h3 t1 t2 t3 t4 t5 nl buf) lxPs (fun _ => True) ["nextchar"] (lxP text out) (fun c => c.post.length) ⟨.w, "", text, 0, false, " ", t7, t8, t6, _⟩ ?kf ?kn trivial ?kk (hP0 _) ?turn
  case kf => exact lF
  case kn => exact lN
  case kk =>
    intro p hp
    rcases List.mem_cons.mp hp with rfl | hp
    · rfl
    rcases List.mem_cons.mp hp with rfl | hp
    · rfl
    cases hp
  case turn =>
  clear lF lN hP0 hrun hnn
  rintro ⟨md, x, post, pos, qd, es, u1, u2, u3, u4⟩ u h tk _ ⟨⟨pre, htext, hpos⟩, hx, hm, hw, he0, he2⟩ F N
  dsimp only at htext hpos hx hm hw he0 he2
  dsimp only [lxLed, lxPs, kstB] at F N
  have hxl : x.length ≤ 5000 := Nat.le_trans (lx_xlen hx hol) (by decide)
  cases post with
  | nil => 
    obtain rfl : md = .a := hm
    obtain rfl : x = ⟨out.toArray⟩ := (Str.append_empty x).symm.trans hx
    have hps : pos = (text.length : Int) := by rw [hpos, htext]; simp
    have hp1 : (buf.length : Int) ≤ pos := by rw [hps, hbuf]; show ((text.toArray.size : Nat) : Int) ≤ _; simp
    have hs1 : buf.length ≤ 1000 := by rw [hbuf]; show text.toArray.size ≤ _; simp; omega
    have fx := out_ne hout
    clear hbuf hsz hpos
    k_with_none
    k_with "m call" =>
      (with_reducible show wpAny _ _ (call (Value.ref 533) _) _ _ _)
      k_dflt (refine' c_read_end w _ k.io dio h1 h2 h3 t1 t2 t3 t4 t5 u3 _ nl buf pos (.tail _ (.tail _ m1)) (.tail _ (.head _)) hp1 hs1 _ _ _ _ _ _ _ _ _ _ _ _ _ _ _ _ _ _ _ _ _ _ ?k1 ?k2 ?k3 ?k4 ?k5 ?k6 ?k8 ?k9 ?_)
      (case k1 => k_asm)
      (case k2 => k_asm)
      (case k3 => k_asm)
      (case k4 => k_asm)
      (case k5 => k_asm)
      (case k6 => exact rfl)
      (case k8 => ktr_room)
      (case k9 => ktr_units)
      k_whole
      intro t9 h9 tk9 F9 N9
      (try dsimp only)
      (try k_fold)
    cases qd with
    | true =>
      k_steps
      rename News _ _ _ _ => nE
      rw [hps] at nE
      exact hret _ _ _ _ _ (by k_asm) (fun p hp => nE p (.tail _ hp))
    | false =>
      k_steps
      rename News _ _ _ _ => nE
      rw [hps] at nE
      exact hret _ _ _ _ _ (by k_asm) (fun p hp => nE p (.tail _ hp))
  | cons c post =>
  have hsz' : pre.length + post.length < 1000 := by rw [htext] at hsz; simp at hsz; omega
  have hbuf' : buf = ⟨(pre ++ c :: post).toArray⟩ := by rw [hbuf, htext]
  have hc : okC c := hws c (by rw [htext]; simp)
  have fnl := nl_free hc
  k_with_none
  k_with "m call" =>
    (with_reducible show wpAny _ _ (call (Value.ref 533) _) _ _ _)
    k_dflt (refine' c_read2 (pre := pre) (post := post) ?k1 ?k2 ?k3 ?k4 ?k5 ?k6 m1 hne1 ?k7 hsz' hbuf' hpos ?k8 ?k9 ?_)
    (case k1 => k_asm)
    (case k2 => k_asm)
    (case k3 => k_asm)
    (case k4 => k_asm)
    (case k5 => k_asm)
    (case k6 => exact rfl)
    (case k7 => exact Ne.symm hne3)
    (case k8 => ktr_room)
    (case k9 => ktr_units)
    k_whole
    intro t9 t9' h9 tk9 F9 N9
    (try dsimp only)
    (try k_fold)
  repeat' ((fail_if_success (with_reducible show wpAny _ _ (exec (Stmt.If (Expr.Compare (Expr.Attribute _ (Str.ofString "state") _) [CmpOp.Eq] _ _) _ _ _) _) _ _ _)); first | (k_unfold; (try dsimp only)) | (k_end; wrow_close) | walk1 | (dsimp only; walk1) | (leave1; walk_say "STEP leave1"; try dsimp only) | fail "no step")
  clear hbuf hbuf' hsz hsz' fnl
  obtain ⟨fa1, fa2⟩ := lx_any hc
  cases md with
  | w =>
    obtain ⟨rfl, -⟩ := hw rfl
    repeat' ((fail_if_success (with_reducible show wpAny _ _ (exec (Stmt.If (Expr.BoolOp _ _ _) _ _ _) _) _ _ _)); first | (k_unfold; (try dsimp only)) | (k_end; wrow_close) | walk1 | (dsimp only; walk1) | (leave1; walk_say "STEP leave1"; try dsimp only) | fail "no step")
    by_cases h39 : c = 39
    · subst h39
      have wq := hwc.2.1
      k_steps
      rename News _ _ _ _ => nE
      refine ksw_end ⟨.q1, "", post, pos + 1, qd, es, _, u2, _, u4⟩ (by assumption) nE sub0 trivial (by kst_all) ((by intro z h2 h3; have z1 : z ≠ "quoted" := h2 (_, _) (List.Mem.head _); have z2 : z ≠ "escapedstate" := h2 (_, _) (List.Mem.tail _ (List.Mem.head _)); have z3 : z ≠ "nextchar" := (by simpa using h3); simp only [kstB, z1, z2, z3, h3, if_false, Bool.false_eq_true, reduceIte])) ?_ (by simp)
      exact lx_next [] htext hpos hx hm rfl (app_nil _) (by decide) (by intro h; cases h) (by intro h; cases h)
    by_cases h34 : c = 34
    · subst h34
      have wq := hwc.2.2.1
      k_steps
      rename News _ _ _ _ => nE
      refine ksw_end ⟨.q2, "", post, pos + 1, qd, es, _, u2, _, u4⟩ (by assumption) nE sub0 trivial (by kst_all) ((by intro z h2 h3; have z1 : z ≠ "quoted" := h2 (_, _) (List.Mem.head _); have z2 : z ≠ "escapedstate" := h2 (_, _) (List.Mem.tail _ (List.Mem.head _)); have z3 : z ≠ "nextchar" := (by simpa using h3); simp only [kstB, z1, z2, z3, h3, if_false, Bool.false_eq_true, reduceIte])) ?_ (by simp)
      exact lx_next [] htext hpos hx hm rfl (app_nil _) (by decide) (by intro h; cases h) (by intro h; cases h)
    by_cases h92 : c = 92
    · subst h92
      have wq := hwc.2.2.2
      k_steps
      rename News _ _ _ _ => nE
      refine ksw_end ⟨.e0, "", post, pos + 1, qd, "a", _, u2, _, _⟩ (by assumption) nE sub0 trivial (by kst_all) ((by intro z h2 h3; have z1 : z ≠ "quoted" := h2 (_, _) (List.Mem.head _); have z2 : z ≠ "escapedstate" := h2 (_, _) (List.Mem.tail _ (List.Mem.head _)); have z3 : z ≠ "nextchar" := (by simpa using h3); simp only [kstB, z1, z2, z3, h3, if_false, Bool.false_eq_true, reduceIte])) ?_ (by simp)
      exact lx_next [] htext hpos hx hm rfl (app_nil _) (by decide) (fun _ => rfl) (by intro h; cases h)
    obtain ⟨f1, f2, f3, f4, f5⟩ := lx_let hc h39 h34 h92 hwc
    k_steps
    rename News _ _ _ _ => nE
    refine ksw_end ⟨.a, ⟨#[c]⟩, post, pos + 1, qd, es, _, _, _, u4⟩ (by assumption) nE sub0 trivial (by kst_all) ((by intro z h2 h3; have z1 : z ≠ "quoted" := h2 (_, _) (List.Mem.head _); have z2 : z ≠ "escapedstate" := h2 (_, _) (List.Mem.tail _ (List.Mem.head _)); have z3 : z ≠ "nextchar" := (by simpa using h3); simp only [kstB, z1, z2, z3, h3, if_false, Bool.false_eq_true, reduceIte])) ?_ (by simp)
    exact lx_next [c] htext hpos hx hm (by simp [stepM, h39, h34, h92]) (empty_one c) (by decide) (by intro h; cases h) (by intro h; cases h)
  | a =>
    repeat' ((fail_if_success (with_reducible show wpAny _ _ (exec (Stmt.If (Expr.BoolOp _ _ _) _ _ _) _) _ _ _)); first | (k_unfold; (try dsimp only)) | (k_end; wrow_close) | walk1 | (dsimp only; walk1) | (leave1; walk_say "STEP leave1"; try dsimp only) | fail "no step")
    by_cases h39 : c = 39
    · subst h39
      have wq := hwc.2.1
      k_steps
      rename News _ _ _ _ => nE
      refine ksw_end ⟨.q1, x, post, pos + 1, qd, es, _, u2, _, u4⟩ (by assumption) nE sub1 trivial (by kst_all) ((by intro z h2 h3; have z1 : z ≠ "quoted" := h2 (_, _) (List.Mem.head _); have z2 : z ≠ "escapedstate" := h2 (_, _) (List.Mem.tail _ (List.Mem.head _)); have z3 : z ≠ "nextchar" := (by simpa using h3); simp only [kstB, z1, z2, z3, h3, if_false, Bool.false_eq_true, reduceIte])) ?_ (by simp)
      exact lx_next [] htext hpos hx hm rfl (app_nil _) (by decide) (by intro h; cases h) (by intro h; cases h)
    by_cases h34 : c = 34
    · subst h34
      have wq := hwc.2.2.1
      k_steps
      rename News _ _ _ _ => nE
      refine ksw_end ⟨.q2, x, post, pos + 1, qd, es, _, u2, _, u4⟩ (by assumption) nE sub1 trivial (by kst_all) ((by intro z h2 h3; have z1 : z ≠ "quoted" := h2 (_, _) (List.Mem.head _); have z2 : z ≠ "escapedstate" := h2 (_, _) (List.Mem.tail _ (List.Mem.head _)); have z3 : z ≠ "nextchar" := (by simpa using h3); simp only [kstB, z1, z2, z3, h3, if_false, Bool.false_eq_true, reduceIte])) ?_ (by simp)
      exact lx_next [] htext hpos hx hm rfl (app_nil _) (by decide) (by intro h; cases h) (by intro h; cases h)
    by_cases h92 : c = 92
    · subst h92
      have wq := hwc.2.2.2
      k_steps
      rename News _ _ _ _ => nE
      refine ksw_end ⟨.e0, x, post, pos + 1, qd, "a", _, u2, _, _⟩ (by assumption) nE sub1 trivial (by kst_all) ((by intro z h2 h3; have z1 : z ≠ "quoted" := h2 (_, _) (List.Mem.head _); have z2 : z ≠ "escapedstate" := h2 (_, _) (List.Mem.tail _ (List.Mem.head _)); have z3 : z ≠ "nextchar" := (by simpa using h3); simp only [kstB, z1, z2, z3, h3, if_false, Bool.false_eq_true, reduceIte])) ?_ (by simp)
      exact lx_next [] htext hpos hx hm rfl (app_nil _) (by decide) (fun _ => rfl) (by intro h; cases h)
    obtain ⟨f1, f2, f3, f4, f5⟩ := lx_let hc h39 h34 h92 hwc
    k_steps
    rename News _ _ _ _ => nE
    refine ksw_end ⟨.a, x ++ ⟨#[c]⟩, post, pos + 1, qd, es, _, _, _, u4⟩ (by assumption) nE sub1 trivial (by kst_all) ((by intro z h2 h3; have z1 : z ≠ "quoted" := h2 (_, _) (List.Mem.head _); have z2 : z ≠ "escapedstate" := h2 (_, _) (List.Mem.tail _ (List.Mem.head _)); have z3 : z ≠ "nextchar" := (by simpa using h3); simp only [kstB, z1, z2, z3, h3, if_false, Bool.false_eq_true, reduceIte])) ?_ (by simp)
    exact lx_next [c] htext hpos hx hm (by simp [stepM, h39, h34, h92]) rfl (by decide) (by intro h; cases h) (by intro h; cases h)
  | q1 =>
    repeat' ((fail_if_success (with_reducible show wpAny _ _ (exec (Stmt.If (Expr.Compare (Expr.Name (Str.ofString "nextchar") _) [CmpOp.Eq] _ _) _ _ _) _) _ _ _)); first | (k_unfold; (try dsimp only)) | (k_end; wrow_close) | walk1 | (dsimp only; walk1) | (leave1; walk_say "STEP leave1"; try dsimp only) | fail "no step")
    by_cases h39 : c = 39
    · subst h39
      have wq := hwc.2.1
      k_steps
      rename News _ _ _ _ => nE
      refine ksw_end ⟨.a, x, post, pos + 1, true, es, _, u2, _, u4⟩ (by assumption) nE sub0 trivial (by kst_all) ((by intro z h2 h3; have z1 : z ≠ "quoted" := h2 (_, _) (List.Mem.head _); have z2 : z ≠ "escapedstate" := h2 (_, _) (List.Mem.tail _ (List.Mem.head _)); have z3 : z ≠ "nextchar" := (by simpa using h3); simp only [kstB, z1, z2, z3, h3, if_false, Bool.false_eq_true, reduceIte])) ?_ (by simp)
      exact lx_next [] htext hpos hx hm rfl (app_nil _) (by decide) (by intro h; cases h) (by intro h; cases h)
    by_cases h92 : c = 92
    · subst h92
      have wq := hwc.2.2.2
      k_steps
      rename News _ _ _ _ => nE
      refine ksw_end ⟨.q1, x ++ "\\", post, pos + 1, true, es, _, _, _, u4⟩ (by assumption) nE sub0 trivial (by kst_all) ((by intro z h2 h3; have z1 : z ≠ "quoted" := h2 (_, _) (List.Mem.head _); have z2 : z ≠ "escapedstate" := h2 (_, _) (List.Mem.tail _ (List.Mem.head _)); have z3 : z ≠ "nextchar" := (by simpa using h3); simp only [kstB, z1, z2, z3, h3, if_false, Bool.false_eq_true, reduceIte])) ?_ (by simp)
      exact lx_next [92] htext hpos hx hm rfl (app_bs _) (by decide) (by intro h; cases h) (by intro h; cases h)
    obtain ⟨f1, f2⟩ := lx_g1 (c := c) h39 h92
    k_steps
    rename News _ _ _ _ => nE
    refine ksw_end ⟨.q1, x ++ ⟨#[c]⟩, post, pos + 1, true, es, _, _, _, u4⟩ (by assumption) nE sub0 trivial (by kst_all) ((by intro z h2 h3; have z1 : z ≠ "quoted" := h2 (_, _) (List.Mem.head _); have z2 : z ≠ "escapedstate" := h2 (_, _) (List.Mem.tail _ (List.Mem.head _)); have z3 : z ≠ "nextchar" := (by simpa using h3); simp only [kstB, z1, z2, z3, h3, if_false, Bool.false_eq_true, reduceIte])) ?_ (by simp)
    exact lx_next [c] htext hpos hx hm (by simp [stepM, h39]) rfl (by decide) (by intro h; cases h) (by intro h; cases h)
  | q2 =>
    repeat' ((fail_if_success (with_reducible show wpAny _ _ (exec (Stmt.If (Expr.Compare (Expr.Name (Str.ofString "nextchar") _) [CmpOp.Eq] _ _) _ _ _) _) _ _ _)); first | (k_unfold; (try dsimp only)) | (k_end; wrow_close) | walk1 | (dsimp only; walk1) | (leave1; walk_say "STEP leave1"; try dsimp only) | fail "no step")
    by_cases h34 : c = 34
    · subst h34
      have wq := hwc.2.2.1
      k_steps
      rename News _ _ _ _ => nE
      refine ksw_end ⟨.a, x, post, pos + 1, true, es, _, u2, _, u4⟩ (by assumption) nE sub0 trivial (by kst_all) ((by intro z h2 h3; have z1 : z ≠ "quoted" := h2 (_, _) (List.Mem.head _); have z2 : z ≠ "escapedstate" := h2 (_, _) (List.Mem.tail _ (List.Mem.head _)); have z3 : z ≠ "nextchar" := (by simpa using h3); simp only [kstB, z1, z2, z3, h3, if_false, Bool.false_eq_true, reduceIte])) ?_ (by simp)
      exact lx_next [] htext hpos hx hm rfl (app_nil _) (by decide) (by intro h; cases h) (by intro h; cases h)
    by_cases h92 : c = 92
    · subst h92
      have wq := hwc.2.2.2
      k_steps
      rename News _ _ _ _ => nE
      refine ksw_end ⟨.e2, x, post, pos + 1, true, "\"", _, u2, _, _⟩ (by assumption) nE sub0 trivial (by kst_all) ((by intro z h2 h3; have z1 : z ≠ "quoted" := h2 (_, _) (List.Mem.head _); have z2 : z ≠ "escapedstate" := h2 (_, _) (List.Mem.tail _ (List.Mem.head _)); have z3 : z ≠ "nextchar" := (by simpa using h3); simp only [kstB, z1, z2, z3, h3, if_false, Bool.false_eq_true, reduceIte])) ?_ (by simp)
      exact lx_next [] htext hpos hx hm rfl (app_nil _) (by decide) (by intro h; cases h) (fun _ => rfl)
    obtain ⟨f1, f2⟩ := lx_g2 (c := c) h34 h92
    k_steps
    rename News _ _ _ _ => nE
    refine ksw_end ⟨.q2, x ++ ⟨#[c]⟩, post, pos + 1, true, es, _, _, _, u4⟩ (by assumption) nE sub0 trivial (by kst_all) ((by intro z h2 h3; have z1 : z ≠ "quoted" := h2 (_, _) (List.Mem.head _); have z2 : z ≠ "escapedstate" := h2 (_, _) (List.Mem.tail _ (List.Mem.head _)); have z3 : z ≠ "nextchar" := (by simpa using h3); simp only [kstB, z1, z2, z3, h3, if_false, Bool.false_eq_true, reduceIte])) ?_ (by simp)
    exact lx_next [c] htext hpos hx hm (by simp [stepM, h34, h92]) rfl (by decide) (by intro h; cases h) (by intro h; cases h)
  | e0 =>
    obtain rfl := he0 rfl
    k_steps
    rename News _ _ _ _ => nE
    refine ksw_end ⟨.a, x ++ ⟨#[c]⟩, post, pos + 1, qd, "a", _, _, _, u4⟩ (by assumption) nE sub0 trivial (by kst_all) ((by intro z h2 h3; have z1 : z ≠ "quoted" := h2 (_, _) (List.Mem.head _); have z2 : z ≠ "escapedstate" := h2 (_, _) (List.Mem.tail _ (List.Mem.head _)); have z3 : z ≠ "nextchar" := (by simpa using h3); simp only [kstB, z1, z2, z3, h3, if_false, Bool.false_eq_true, reduceIte])) ?_ (by simp)
    exact lx_next [c] htext hpos hx hm rfl rfl (by decide) (by intro h; cases h) (by intro h; cases h)
  | e2 =>
    obtain rfl := he2 rfl
    have hxl2 : (x ++ Mode.e2.st).length ≤ 5000 := two_len (lx_xlen hx hol)
    repeat' ((fail_if_success (with_reducible show wpAny _ _ (exec (Stmt.If (Expr.BoolOp _ _ _) _ _ _) _) _ _ _)); first | (k_unfold; (try dsimp only)) | (k_end; wrow_close) | walk1 | (dsimp only; walk1) | (leave1; walk_say "STEP leave1"; try dsimp only) | fail "no step")
    by_cases h92 : c = 92
    · subst h92
      have wq := hwc.2.2.2
      k_steps
      rename News _ _ _ _ => nE
      refine ksw_end ⟨.q2, x ++ "\\", post, pos + 1, qd, "\"", _, _, _, u4⟩ (by assumption) nE sub0 trivial (by kst_all) ((by intro z h2 h3; have z1 : z ≠ "quoted" := h2 (_, _) (List.Mem.head _); have z2 : z ≠ "escapedstate" := h2 (_, _) (List.Mem.tail _ (List.Mem.head _)); have z3 : z ≠ "nextchar" := (by simpa using h3); simp only [kstB, z1, z2, z3, h3, if_false, Bool.false_eq_true, reduceIte])) ?_ (by simp)
      exact lx_next [92] htext hpos hx hm rfl (app_bs _) (by decide) (by intro h; cases h) (by intro h; cases h)
    by_cases h34 : c = 34
    · subst h34
      have wq := hwc.2.2.1
      k_steps
      rename News _ _ _ _ => nE
      refine ksw_end ⟨.q2, x ++ "\"", post, pos + 1, qd, "\"", _, _, _, u4⟩ (by assumption) nE sub0 trivial (by kst_all) ((by intro z h2 h3; have z1 : z ≠ "quoted" := h2 (_, _) (List.Mem.head _); have z2 : z ≠ "escapedstate" := h2 (_, _) (List.Mem.tail _ (List.Mem.head _)); have z3 : z ≠ "nextchar" := (by simpa using h3); simp only [kstB, z1, z2, z3, h3, if_false, Bool.false_eq_true, reduceIte])) ?_ (by simp)
      exact lx_next [34] htext hpos hx hm rfl (app_dq _) (by decide) (by intro h; cases h) (by intro h; cases h)
    obtain ⟨f1, f2⟩ := lx_g3 (c := c) h34 h92
    k_steps
    rename News _ _ _ _ => nE
    refine ksw_end ⟨.q2, (x ++ Mode.e2.st) ++ ⟨#[c]⟩, post, pos + 1, qd, "\"", _, _, _, u4⟩ (by assumption) nE sub0 trivial (by kst_all) ((by intro z h2 h3; have z1 : z ≠ "quoted" := h2 (_, _) (List.Mem.head _); have z2 : z ≠ "escapedstate" := h2 (_, _) (List.Mem.tail _ (List.Mem.head _)); have z3 : z ≠ "nextchar" := (by simpa using h3); simp only [kstB, z1, z2, z3, h3, if_false, Bool.false_eq_true, reduceIte])) ?_ (by simp)
    exact lx_next [92, c] htext hpos hx hm (by simp [stepM, h34, h92]) (app_two _ _) (by decide) (by intro h; cases h) (by intro h; cases h)
end
section
local macro_rules | `(tactic| walk_at "none LX 0") => `(tactic| fail)


local macro_rules | `(tactic| walk_at "call ref") => `(tactic| k_extra "m call")
theorem off_LX : True := by
  w_top off
  trivial
theorem c_read_none (w : World) (rest : List (Addr × Obj)) (k : LexK) (lex dlex dio : Addr) (h1 h2 h3 : Int) (t1 t2 t3 t4 t5 t6 t8 : Tok) (nl buf : Str) (pos : Int)
   (m0 : (lex, instObj 722 dlex) ∈ rest) (m1 : (k.io, instObj 587 dio) ∈ rest) (hne1 : ∀ p ∈ rest, p.1 ≠ dio) (hne2 : ∀ p ∈ rest, p.1 ≠ dlex) (hne3 : dio ≠ dlex)
   (hp1 : buf.length ≤ pos) (hs1 : buf.length ≤ 1000)
   (news : List (Addr × Obj)) (hnews : news = (dlex, dictOf (lexD k .none (.str "" t8)) 19) :: (dio, dictOf (ioD h1 h2 h3 t1 t2 t3 t4 t5 t6 nl buf pos) 3) :: rest) :
  ∀ (p : Program) (loose : List Str) (mean : ExcName → Option Value) (mg mb : Str → Option Value) (dp un : Nat) (gd : Option (List Code)) (cn : Str) (cs : Scope) (a : Addr) (ccd : Value) (cl : List (Str × Addr)) (outer : List Env) (A₀ : Around) (base h₀ : Heap) (L : Addr) (m : Str → Option Value) (s : Shared) (Q E : Value → Shared → Prop),
    Below A₀ base outer h₀ → Fr h₀ L s.heap m → (hd01.heap_1 w.params).In h₀ → News h₀ L s.heap news → Top p loose mean mg mb h₀ → cs.kind = .function → dp + 7 < recursionLimit → un + 56 < cLine →
    (∀ t' h' tk', Fr h₀ L h' m → News h₀ L h' ((dlex, dictOf (lexD k .none (.str "" t')) 19) :: (dio, dictOf (ioD h1 h2 h3 t1 t2 t3 t4 t5 t6 nl buf pos) 3) :: rest) → Q .none { s with heap := h', toks := tk' }) →
    wpAny (model Challenge.rw_op0202_01.row.prog w) (ktrTop dp un gd cn cs L a ccd cl outer) (call (.ref 690) [.ref lex]) Q E s := by
  subst hnews
  k_fill
  intros
  rename_i hret
  k_with_none
  k_with "m call" =>
    (with_reducible show wpAny _ _ (call (Value.ref 533) _) _ _ _)
    k_dflt (refine' c_read_end w _ k.io dio h1 h2 h3 t1 t2 t3 t4 t5 t6 _ nl buf pos (.tail _ (.tail _ m1)) (.tail _ (.head _)) hp1 hs1 _ _ _ _ _ _ _ _ _ _ _ _ _ _ _ _ _ _ _ _ _ _ ?k1 ?k2 ?k3 ?k4 ?k5 ?k6 ?k8 ?k9 ?_)
    (case k1 => k_asm)
    (case k2 => k_asm)
    (case k3 => k_asm)
    (case k4 => k_asm)
    (case k5 => k_asm)
    (case k6 => exact rfl)
    (case k8 => ktr_room)
    (case k9 => ktr_units)
    k_whole
    intro t9 h9 tk9 F9 N9
    (try dsimp only)
    (try k_fold)
  (refine wpAny_call ?_; k_dflt (refine' code_def ?k1 ?k2 ?k3 ?k4 ?k5 ?kA ?kF ?kK ?k6 ?k7 ?k8 ?k9 ?kB ?_ ?c2 ?c3 ?c4 ?c5; (case kA => exact rfl); (case kF => exact rfl); (case kK => assumption); (case k1 => k_asm); (case k2 => k_asm); (case k3 => k_asm); (case k4 => k_asm); (case k5 => k_asm); (case k6 => k_is); (case k7 => k_is); (case k8 => ktr_room); (case k9 => first | exact BindsTo.of_eq rfl | exact binds_K (by k_in) rfl (by k_is) rfl rfl rfl); (case c5 => decide); (case kB => exact locs rfl); (case c2 => exact rfl); (case c3 => exact rfl); (case c4 => exact rfl); k_whole; intro g' L' h' FG' F' N' B' X' T'; (try dsimp only); (try k_lift B'); (try k_fold)))
  k_steps
  exact hret _ _ _ (by k_asm) (by k_asm)
local macro_rules | `(tactic| walk_at "truthy ref") => `(tactic| (k_here; k_dflt (refine' truthy_dqK ?k1 ?k2 ?_; (case k1 => k_asm); (case k2 => k_mem); k_whole)))
theorem c_get_token (w : World) (rest : List (Addr × Obj)) (k : LexK) (lex dlex dio : Addr) (h1 h2 h3 : Int) (t1 t2 t3 t4 t5 t6 t7 t8 : Tok) (nl buf : Str) (text out : List Nat)
   (m0 : (lex, instObj 722 dlex) ∈ rest) (m1 : (k.io, instObj 587 dio) ∈ rest) (m2 : (k.dq1, dqObj) ∈ rest) (m3 : (k.dq2, dqObj) ∈ rest) (hne1 : ∀ p ∈ rest, p.1 ≠ dio) (hne2 : ∀ p ∈ rest, p.1 ≠ dlex) (hne3 : dio ≠ dlex)
   (hsz : text.length < 900) (hbuf : buf = ⟨text.toArray⟩) (hrun : runM .w text = (out, .a)) (hout : out ≠ []) (hnn : text ≠ []) (hol : out.length < 2000)
   (hws : ∀ c ∈ text, okC c) (hwc : WcOk k.wc)
   (news : List (Addr × Obj)) (hnews : news = (dlex, dictOf (lexD k (.str " " t7) (.str "" t8)) 19) :: (dio, dictOf (ioD h1 h2 h3 t1 t2 t3 t4 t5 t6 nl buf 0) 3) :: rest) :
  ∀ (p : Program) (loose : List Str) (mean : ExcName → Option Value) (mg mb : Str → Option Value) (dp un : Nat) (gd : Option (List Code)) (cn : Str) (cs : Scope) (a : Addr) (ccd : Value) (cl : List (Str × Addr)) (outer : List Env) (A₀ : Around) (base h₀ : Heap) (L : Addr) (m : Str → Option Value) (s : Shared) (Q E : Value → Shared → Prop),
    Below A₀ base outer h₀ → Fr h₀ L s.heap m → (hd01.heap_1 w.params).In h₀ → News h₀ L s.heap news → Top p loose mean mg mb h₀ → cs.kind = .function → dp + 9 < recursionLimit → un + 72 < cLine →
    (∀ t t' t'' h' tk', Fr h₀ L h' m → News h₀ L h' ((dlex, dictOf (lexD k .none (.str "" t')) 19) :: (dio, dictOf (ioD h1 h2 h3 t1 t2 t3 t4 t5 t'' nl buf text.length) 3) :: rest) → Q (.str ⟨out.toArray⟩ t) { s with heap := h', toks := tk' }) →
    wpAny (model Challenge.rw_op0202_01.row.prog w) (ktrTop dp un gd cn cs L a ccd cl outer) (call (.ref 683) [.ref lex]) Q E s := by
  subst hnews
  k_fill
  intros
  rename_i hret
  k_with_none
  k_with "m call" =>
    (with_reducible show wpAny _ _ (call (Value.ref 690) _) _ _ _)
    k_dflt (refine' c_read_token w rest k lex dlex dio h1 h2 h3 t1 t2 t3 t4 t5 t6 t7 t8 nl buf text out m0 m1 hne1 hne2 hne3 hsz hbuf hrun hout hnn hol hws hwc _ rfl _ _ _ _ _ _ _ _ _ _ _ _ _ _ _ _ _ _ _ _ _ _ ?k1 ?k2 ?k3 ?k4 ?k5 ?k6 ?k8 ?k9 ?_)
    (case k1 => k_asm)
    (case k2 => k_asm)
    (case k3 => k_asm)
    (case k4 => k_asm)
    (case k5 => k_asm)
    (case k6 => exact rfl)
    (case k8 => ktr_room)
    (case k9 => ktr_units)
    k_whole
    intro t9 t9' t9'' h9 tk9 F9 N9
    (try dsimp only)
    (try k_fold)
  (refine wpAny_call ?_; k_dflt (refine' code_def ?k1 ?k2 ?k3 ?k4 ?k5 ?kA ?kF ?kK ?k6 ?k7 ?k8 ?k9 ?kB ?_ ?c2 ?c3 ?c4 ?c5; (case kA => exact rfl); (case kF => exact rfl); (case kK => assumption); (case k1 => k_asm); (case k2 => k_asm); (case k3 => k_asm); (case k4 => k_asm); (case k5 => k_asm); (case k6 => k_is); (case k7 => k_is); (case k8 => ktr_room); (case k9 => first | exact BindsTo.of_eq rfl | exact binds_K (by k_in) rfl (by k_is) rfl rfl rfl); (case c5 => decide); (case kB => exact locs rfl); (case c2 => exact rfl); (case c3 => exact rfl); (case c4 => exact rfl); k_whole; intro g' L' h' FG' F' N' B' X' T'; (try dsimp only); (try k_lift B'); (try k_fold)))
  k_steps
  exact hret _ _ _ _ _ (by k_asm) (by k_asm)
theorem c_get_none (w : World) (rest : List (Addr × Obj)) (k : LexK) (lex dlex dio : Addr) (h1 h2 h3 : Int) (t1 t2 t3 t4 t5 t6 t8 : Tok) (nl buf : Str) (pos : Int)
   (m0 : (lex, instObj 722 dlex) ∈ rest) (m1 : (k.io, instObj 587 dio) ∈ rest) (m2 : (k.dq1, dqObj) ∈ rest) (m3 : (k.dq2, dqObj) ∈ rest) (hne1 : ∀ p ∈ rest, p.1 ≠ dio) (hne2 : ∀ p ∈ rest, p.1 ≠ dlex) (hne3 : dio ≠ dlex)
   (hp1 : buf.length ≤ pos) (hs1 : buf.length ≤ 1000)
   (news : List (Addr × Obj)) (hnews : news = (dlex, dictOf (lexD k .none (.str "" t8)) 19) :: (dio, dictOf (ioD h1 h2 h3 t1 t2 t3 t4 t5 t6 nl buf pos) 3) :: rest) :
  ∀ (p : Program) (loose : List Str) (mean : ExcName → Option Value) (mg mb : Str → Option Value) (dp un : Nat) (gd : Option (List Code)) (cn : Str) (cs : Scope) (a : Addr) (ccd : Value) (cl : List (Str × Addr)) (outer : List Env) (A₀ : Around) (base h₀ : Heap) (L : Addr) (m : Str → Option Value) (s : Shared) (Q E : Value → Shared → Prop),
    Below A₀ base outer h₀ → Fr h₀ L s.heap m → (hd01.heap_1 w.params).In h₀ → News h₀ L s.heap news → Top p loose mean mg mb h₀ → cs.kind = .function → dp + 9 < recursionLimit → un + 72 < cLine →
    (∀ t' h' tk', Fr h₀ L h' m → News h₀ L h' ((dlex, dictOf (lexD k .none (.str "" t')) 19) :: (dio, dictOf (ioD h1 h2 h3 t1 t2 t3 t4 t5 t6 nl buf pos) 3) :: rest) → Q .none { s with heap := h', toks := tk' }) →
    wpAny (model Challenge.rw_op0202_01.row.prog w) (ktrTop dp un gd cn cs L a ccd cl outer) (call (.ref 683) [.ref lex]) Q E s := by
  subst hnews
  k_fill
  intros
  rename_i hret
  k_with_none
  k_with "m call" =>
    (with_reducible show wpAny _ _ (call (Value.ref 690) _) _ _ _)
    k_dflt (refine' c_read_none w rest k lex dlex dio h1 h2 h3 t1 t2 t3 t4 t5 t6 t8 nl buf pos m0 m1 hne1 hne2 hne3 hp1 hs1 _ rfl _ _ _ _ _ _ _ _ _ _ _ _ _ _ _ _ _ _ _ _ _ _ ?k1 ?k2 ?k3 ?k4 ?k5 ?k6 ?k8 ?k9 ?_)
    (case k1 => k_asm)
    (case k2 => k_asm)
    (case k3 => k_asm)
    (case k4 => k_asm)
    (case k5 => k_asm)
    (case k6 => exact rfl)
    (case k8 => ktr_room)
    (case k9 => ktr_units)
    k_whole
    intro t9' h9 tk9 F9 N9
    (try dsimp only)
    (try k_fold)
  (refine wpAny_call ?_; k_dflt (refine' code_def ?k1 ?k2 ?k3 ?k4 ?k5 ?kA ?kF ?kK ?k6 ?k7 ?k8 ?k9 ?kB ?_ ?c2 ?c3 ?c4 ?c5; (case kA => exact rfl); (case kF => exact rfl); (case kK => assumption); (case k1 => k_asm); (case k2 => k_asm); (case k3 => k_asm); (case k4 => k_asm); (case k5 => k_asm); (case k6 => k_is); (case k7 => k_is); (case k8 => ktr_room); (case k9 => first | exact BindsTo.of_eq rfl | exact binds_K (by k_in) rfl (by k_is) rfl rfl rfl); (case c5 => decide); (case kB => exact locs rfl); (case c2 => exact rfl); (case c3 => exact rfl); (case c4 => exact rfl); k_whole; intro g' L' h' FG' F' N' B' X' T'; (try dsimp only); (try k_lift B'); (try k_fold)))
  k_steps
  exact hret _ _ _ (by k_asm) (by k_asm)
end
section
local macro_rules | `(tactic| walk_at "call ref") => `(tactic| k_extra "m call")
theorem off_NX : True := by
  w_top off
  trivial
theorem c_next (w : World) (rest : List (Addr × Obj)) (k : LexK) (lex dlex dio : Addr) (h1 h2 h3 : Int) (t1 t2 t3 t4 t5 t6 t7 t8 : Tok) (nl buf : Str) (text out : List Nat)
   (m0 : (lex, instObj 722 dlex) ∈ rest) (m1 : (k.io, instObj 587 dio) ∈ rest) (m2 : (k.dq1, dqObj) ∈ rest) (m3 : (k.dq2, dqObj) ∈ rest) (hne1 : ∀ p ∈ rest, p.1 ≠ dio) (hne2 : ∀ p ∈ rest, p.1 ≠ dlex) (hne3 : dio ≠ dlex)
   (hsz : text.length < 900) (hbuf : buf = ⟨text.toArray⟩) (hrun : runM .w text = (out, .a)) (hout : out ≠ []) (hnn : text ≠ []) (hol : out.length < 2000)
   (hws : ∀ c ∈ text, okC c) (hwc : WcOk k.wc)
   (news : List (Addr × Obj)) (hnews : news = (dlex, dictOf (lexD k (.str " " t7) (.str "" t8)) 19) :: (dio, dictOf (ioD h1 h2 h3 t1 t2 t3 t4 t5 t6 nl buf 0) 3) :: rest) :
  ∀ (p : Program) (loose : List Str) (mean : ExcName → Option Value) (mg mb : Str → Option Value) (dp un : Nat) (gd : Option (List Code)) (cn : Str) (cs : Scope) (a : Addr) (ccd : Value) (cl : List (Str × Addr)) (outer : List Env) (A₀ : Around) (base h₀ : Heap) (L : Addr) (m : Str → Option Value) (s : Shared) (Q E : Value → Shared → Prop),
    Below A₀ base outer h₀ → Fr h₀ L s.heap m → (hd01.heap_1 w.params).In h₀ → News h₀ L s.heap news → Top p loose mean mg mb h₀ → cs.kind = .function → dp + 11 < recursionLimit → un + 88 < cLine →
    (∀ t t' t'' h' tk', Fr h₀ L h' m → News h₀ L h' ((dlex, dictOf (lexD k .none (.str "" t')) 19) :: (dio, dictOf (ioD h1 h2 h3 t1 t2 t3 t4 t5 t'' nl buf text.length) 3) :: rest) → Q (.str ⟨out.toArray⟩ t) { s with heap := h', toks := tk' }) →
    wpAny (model Challenge.rw_op0202_01.row.prog w) (ktrTop dp un gd cn cs L a ccd cl outer) (call (.ref 719) [.ref lex]) Q E s := by
  subst hnews
  k_fill
  intros
  rename_i hret
  k_with_none
  k_with "m call" =>
    (with_reducible show wpAny _ _ (call (Value.ref 683) _) _ _ _)
    k_dflt (refine' c_get_token w rest k lex dlex dio h1 h2 h3 t1 t2 t3 t4 t5 t6 t7 t8 nl buf text out m0 m1 m2 m3 hne1 hne2 hne3 hsz hbuf hrun hout hnn hol hws hwc _ rfl _ _ _ _ _ _ _ _ _ _ _ _ _ _ _ _ _ _ _ _ _ _ ?k1 ?k2 ?k3 ?k4 ?k5 ?k6 ?k8 ?k9 ?_)
    (case k1 => k_asm)
    (case k2 => k_asm)
    (case k3 => k_asm)
    (case k4 => k_asm)
    (case k5 => k_asm)
    (case k6 => exact rfl)
    (case k8 => ktr_room)
    (case k9 => ktr_units)
    k_whole
    intro t9 t9' t9'' h9 tk9 F9 N9
    (try dsimp only)
    (try k_fold)
  (refine wpAny_call ?_; k_dflt (refine' code_def ?k1 ?k2 ?k3 ?k4 ?k5 ?kA ?kF ?kK ?k6 ?k7 ?k8 ?k9 ?kB ?_ ?c2 ?c3 ?c4 ?c5; (case kA => exact rfl); (case kF => exact rfl); (case kK => assumption); (case k1 => k_asm); (case k2 => k_asm); (case k3 => k_asm); (case k4 => k_asm); (case k5 => k_asm); (case k6 => k_is); (case k7 => k_is); (case k8 => ktr_room); (case k9 => first | exact BindsTo.of_eq rfl | exact binds_K (by k_in) rfl (by k_is) rfl rfl rfl); (case c5 => decide); (case kB => exact locs rfl); (case c2 => exact rfl); (case c3 => exact rfl); (case c4 => exact rfl); k_whole; intro g' L' h' FG' F' N' B' X' T'; (try dsimp only); (try k_lift B'); (try k_fold)))
  k_steps
  exact hret _ _ _ _ _ (by k_asm) (by k_asm)
theorem c_next_stop (w : World) (rest : List (Addr × Obj)) (k : LexK) (lex dlex dio : Addr) (h1 h2 h3 : Int) (t1 t2 t3 t4 t5 t6 t8 : Tok) (nl buf : Str) (pos : Int)
   (m0 : (lex, instObj 722 dlex) ∈ rest) (m1 : (k.io, instObj 587 dio) ∈ rest) (m2 : (k.dq1, dqObj) ∈ rest) (m3 : (k.dq2, dqObj) ∈ rest) (hne1 : ∀ p ∈ rest, p.1 ≠ dio) (hne2 : ∀ p ∈ rest, p.1 ≠ dlex) (hne3 : dio ≠ dlex)
   (hp1 : buf.length ≤ pos) (hs1 : buf.length ≤ 1000)
   (news : List (Addr × Obj)) (hnews : news = (dlex, dictOf (lexD k .none (.str "" t8)) 19) :: (dio, dictOf (ioD h1 h2 h3 t1 t2 t3 t4 t5 t6 nl buf pos) 3) :: rest) :
  ∀ (p : Program) (loose : List Str) (mean : ExcName → Option Value) (mg mb : Str → Option Value) (dp un : Nat) (gd : Option (List Code)) (cn : Str) (cs : Scope) (a : Addr) (ccd : Value) (cl : List (Str × Addr)) (outer : List Env) (A₀ : Around) (base h₀ : Heap) (L : Addr) (m : Str → Option Value) (s : Shared) (Q E : Value → Shared → Prop),
    Below A₀ base outer h₀ → Fr h₀ L s.heap m → (hd01.heap_1 w.params).In h₀ → News h₀ L s.heap news → Top p loose mean mg mb h₀ → cs.kind = .function → dp + 11 < recursionLimit → un + 88 < cLine →
    (∀ e t t' h' tk' g, Fr h₀ L g m → RaisedS base g (envX cn cs L a ccd cl :: outer) e (.type "StopIteration") t [] ((dlex, dictOf (lexD k .none (.str "" t')) 19) :: (dio, dictOf (ioD h1 h2 h3 t1 t2 t3 t4 t5 t6 nl buf pos) 3) :: rest) h' → g.UpToSlots h' → E (.ref e) { s with heap := h', toks := tk' }) →
    wpAny (model Challenge.rw_op0202_01.row.prog w) (ktrTop dp un gd cn cs L a ccd cl outer) (call (.ref 719) [.ref lex]) Q E s := by
  subst hnews
  k_fill
  intros
  rename_i hret
  k_with_none
  k_with "m call" =>
    (with_reducible show wpAny _ _ (call (Value.ref 683) _) _ _ _)
    k_dflt (refine' c_get_none w rest k lex dlex dio h1 h2 h3 t1 t2 t3 t4 t5 t6 t8 nl buf pos m0 m1 m2 m3 hne1 hne2 hne3 hp1 hs1 _ rfl _ _ _ _ _ _ _ _ _ _ _ _ _ _ _ _ _ _ _ _ _ _ ?k1 ?k2 ?k3 ?k4 ?k5 ?k6 ?k8 ?k9 ?_)
    (case k1 => k_asm)
    (case k2 => k_asm)
    (case k3 => k_asm)
    (case k4 => k_asm)
    (case k5 => k_asm)
    (case k6 => exact rfl)
    (case k8 => ktr_room)
    (case k9 => ktr_units)
    k_whole
    intro t9' h9 tk9 F9 N9
    (try dsimp only)
    (try k_fold)
  (refine wpAny_call ?_; k_dflt (refine' code_def ?k1 ?k2 ?k3 ?k4 ?k5 ?kA ?kF ?kK ?k6 ?k7 ?k8 ?k9 ?kB ?_ ?c2 ?c3 ?c4 ?c5; (case kA => exact rfl); (case kF => exact rfl); (case kK => assumption); (case k1 => k_asm); (case k2 => k_asm); (case k3 => k_asm); (case k4 => k_asm); (case k5 => k_asm); (case k6 => k_is); (case k7 => k_is); (case k8 => ktr_room); (case k9 => first | exact BindsTo.of_eq rfl | exact binds_K (by k_in) rfl (by k_is) rfl rfl rfl); (case c5 => decide); (case kB => exact locs rfl); (case c2 => exact rfl); (case c3 => exact rfl); (case c4 => exact rfl); k_whole; intro g' L' h' FG' F' N' B' X' T'; (try dsimp only); (try k_lift B'); (try k_fold)))
  repeat' ((fail_if_success (with_reducible show wpAny _ _ (leaving _ _) _ _ _)); first | (k_unfold; (try dsimp only)) | (k_end; wrow_close) | walk1 | (dsimp only; walk1) | (leave1; walk_say "STEP leave1"; try dsimp only) | fail "no step")
  k_dflt (refine' leave_raiseS ?k1 (Heap.MadeExc.of ?k2) ?k3 ?k4 ?k5)
  case k1 => k_asm
  case k2 => assumption
  case k3 => k_asm
  case k4 => k_asm
  case k5 =>
    intro hS tS RS RK US
    exact hret _ _ _ _ _ _ (by k_asm) RS US
end
section
theorem off_LL : True := by
  w_top off
  trivial
theorem c_iter (w : World) (news : List (Addr × Obj)) (lex : Addr) :
  ∀ (p : Program) (loose : List Str) (mean : ExcName → Option Value) (mg mb : Str → Option Value) (dp un : Nat) (gd : Option (List Code)) (cn : Str) (cs : Scope) (a : Addr) (ccd : Value) (cl : List (Str × Addr)) (outer : List Env) (A₀ : Around) (base h₀ : Heap) (L : Addr) (m : Str → Option Value) (s : Shared) (Q E : Value → Shared → Prop),
    Below A₀ base outer h₀ → Fr h₀ L s.heap m → (hd01.heap_1 w.params).In h₀ → News h₀ L s.heap news → Top p loose mean mg mb h₀ → cs.kind = .function → dp + 1 < recursionLimit → un + 8 < cLine →
    (∀ h' tk', Fr h₀ L h' m → News h₀ L h' news → Q (.ref lex) { s with heap := h', toks := tk' }) →
    wpAny (model Challenge.rw_op0202_01.row.prog w) (ktrTop dp un gd cn cs L a ccd cl outer) (call (.ref 712) [.ref lex]) Q E s := by
  k_fill
  intros
  rename_i hret
  (refine wpAny_call ?_; k_dflt (refine' code_def ?k1 ?k2 ?k3 ?k4 ?k5 ?kA ?kF ?kK ?k6 ?k7 ?k8 ?k9 ?kB ?_ ?c2 ?c3 ?c4 ?c5; (case kA => exact rfl); (case kF => exact rfl); (case kK => assumption); (case k1 => k_asm); (case k2 => k_asm); (case k3 => k_asm); (case k4 => k_asm); (case k5 => k_asm); (case k6 => k_is); (case k7 => k_is); (case k8 => ktr_room); (case k9 => first | exact BindsTo.of_eq rfl | exact binds_K (by k_in) rfl (by k_is) rfl rfl rfl); (case c5 => decide); (case kB => exact locs rfl); (case c2 => exact rfl); (case c3 => exact rfl); (case c4 => exact rfl); k_whole; intro g' L' h' FG' F' N' B' X' T'; (try dsimp only); (try k_lift B'); (try k_fold)))
  k_steps
  exact hret _ _ (by k_asm) (by k_asm)
noncomputable abbrev lstOf (its : Array Value) (n : Nat) : Obj := { cls := .type "list", data := .seq its n }
theorem upd_head {h₀ h : Heap} {L S : Addr} {m : Str → Option Value} {o : Obj} {news : List (Addr × Obj)} (F : Fr h₀ L h m) (N : News h₀ L h ((S, o) :: news)) (lt : ∀ q ∈ news, q.1 < S) (f : Obj → Obj) (hf : (f o).isFreed = false) :
    Fr h₀ L (h.update S f) m ∧ News h₀ L (h.update S f) ((S, f o) :: news) := by
  have hs : Heap.SameBut S h (h.update S f) := Heap.SameBut.update ..
  have ho := Heap.get?_update_self f (N _ (.head _)).1 hf
  refine ⟨F.update N (.head _) hs, fun q hq => ?_⟩
  rcases List.mem_cons.mp hq with rfl | hq
  · exact ⟨ho, (N _ (.head _)).2⟩
  · exact ⟨(hs.2 _ (Nat.ne_of_lt (lt q hq))).trans (N q (.tail _ hq)).1, (N q (.tail _ hq)).2⟩
theorem news_rot {h₀ h : Heap} {L : Addr} {x y z : Addr × Obj} {rest : List (Addr × Obj)} (N : News h₀ L h (x :: y :: z :: rest)) : News h₀ L h (y :: z :: x :: rest) := fun p hp => N p (by
  simp only [List.mem_cons] at hp ⊢
  rcases hp with hp | hp | hp | hp <;> simp [hp])
theorem news_rot' {h₀ h : Heap} {L : Addr} {x y z : Addr × Obj} {rest : List (Addr × Obj)} (N : News h₀ L h (y :: z :: x :: rest)) : News h₀ L h (x :: y :: z :: rest) := fun p hp => N p (by
  simp only [List.mem_cons] at hp ⊢
  rcases hp with hp | hp | hp | hp <;> simp [hp])
theorem lexK1 (w : World) : findIn (hd01.heap_1 w.params) (.ref 722) "__iter__" = some (some (.ref 712)) := by kernel_rfl
theorem lexK2 (w : World) : isFn (hd01.heap_1 w.params) (.ref 712) = true := by kernel_rfl
theorem lexK3 (w : World) : findIn (hd01.heap_1 w.params) (.ref 722) "__next__" = some (some (.ref 719)) := by kernel_rfl
theorem lexK4 (w : World) : isFn (hd01.heap_1 w.params) (.ref 719) = true := by kernel_rfl
theorem lexK5 (w : World) : findIn (hd01.heap_1 w.params) (.ref 722) "__len__" = some none := by kernel_rfl
theorem lexK6 (w : World) : findIn (hd01.heap_1 w.params) (.ref 722) "__length_hint__" = some none := by kernel_rfl
theorem c_list_lex (w : World) (rest : List (Addr × Obj)) (k : LexK) (lex dlex dio : Addr) (h1 h2 h3 : Int) (t1 t2 t3 t4 t5 t6 t7 t8 : Tok) (nl buf : Str) (text out : List Nat)
   (m0 : (lex, instObj 722 dlex) ∈ rest) (m1 : (k.io, instObj 587 dio) ∈ rest) (m2 : (k.dq1, dqObj) ∈ rest) (m3 : (k.dq2, dqObj) ∈ rest) (hne1 : ∀ p ∈ rest, p.1 ≠ dio) (hne2 : ∀ p ∈ rest, p.1 ≠ dlex) (hne3 : dio ≠ dlex)
   (hsz : text.length < 900) (hbuf : buf = ⟨text.toArray⟩) (hrun : runM .w text = (out, .a)) (hout : out ≠ []) (hnn : text ≠ []) (hol : out.length < 2000)
   (hws : ∀ c ∈ text, okC c) (hwc : WcOk k.wc)
   (news : List (Addr × Obj)) (hnews : news = (dlex, dictOf (lexD k (.str " " t7) (.str "" t8)) 19) :: (dio, dictOf (ioD h1 h2 h3 t1 t2 t3 t4 t5 t6 nl buf 0) 3) :: rest)
   (p : Program) (loose : List Str) (mean : ExcName → Option Value) (mg mb : Str → Option Value) (dp un : Nat) (gd : Option (List Code)) (cn : Str) (cs : Scope) (a : Addr) (ccd : Value) (outer : List Env) (A₀ : Around) (base h₀ : Heap) (L : Addr) (m : Str → Option Value) (s : Shared) (Q E : Value → Shared → Prop)
   (B : Below A₀ base outer h₀) (F : Fr h₀ L s.heap m) (X : (hd01.heap_1 w.params).In h₀) (N : News h₀ L s.heap news) (T : Top p loose mean mg mb h₀) (hk : cs.kind = .function) (hd : dp + 12 < recursionLimit) (hu : un + 100 < cLine)
   (ret : ∀ g' S t t' t'' n h' tk', KtsTurn (outer.filterMap (·.frame)) h₀ g' → Below A₀ base outer g' → Fr g' L h' m → News g' L h' ((S, lstOf #[.str ⟨out.toArray⟩ t] n) :: (dlex, dictOf (lexD k .none (.str "" t')) 19) :: (dio, dictOf (ioD h1 h2 h3 t1 t2 t3 t4 t5 t'' nl buf text.length) 3) :: rest) → Q (.ref S) { s with heap := h', toks := tk' }) :
   wpAny (model Challenge.rw_op0202_01.row.prog w) (ktrTop dp un gd cn cs L a ccd [] outer) (call (.type "list") [.ref lex]) Q E s := by
  subst hnews
  refine callType_codes (Q₁ := fun obj s₁ => obj = .ref s.heap.objs.size ∧ s₁ = { s with heap := s.heap.push { cls := .type "list", data := .seq #[] } }) PySem.F.called_list (PySem.F.typeCall_list_1 _) PySem.F.entry_list_init (code_list_new _ ⟨rfl, rfl⟩) fun obj s₁ h₁ => ?_
  obtain ⟨rfl, rfl⟩ := h₁
  have hS : (s.heap.push { cls := .type "list", data := .seq #[] }).get? s.heap.objs.size = some { cls := .type "list", data := .seq #[] } := Heap.get?_push_size _ rfl
  refine ⟨⟨_, hS, rfl⟩, PySem.F.args_list_init_2 _ _, ?_⟩
  have F1 := F.push { cls := .type "list", data := .seq #[] }
  have N1 := N.push F { cls := .type "list", data := .seq #[] }
  have lt : ∀ q ∈ ((dlex, dictOf (lexD k (.str " " t7) (.str "" t8)) 19) :: (dio, dictOf (ioD h1 h2 h3 t1 t2 t3 t4 t5 t6 nl buf 0) 3) :: rest), q.1 < s.heap.objs.size := fun q hq => Heap.lt_size (N q hq).1
  generalize s.heap.objs.size = S at *
  generalize s.heap.push { cls := .type "list", data := .seq #[] } = hp at *
  show wpAny _ _ (do let old ← Builtin.List.listItems (.ref S); Builtin.List.listUpdate (.ref S) (fun _ => #[]); letGo old.toList.reverse; Builtin.List.listExtendWith (.ref S) (.ref lex) .none) _ _ _
  refine wpAny_bind ?_
  unfold Builtin.List.listItems
  refine wpAny_bind (wpAny_seqItems hS rfl (wpAny_pure ?_))
  show wpAny _ _ (updateSeq S (fun _ => #[]) >>= fun _ => letGo (#[] : Array Value).toList.reverse >>= fun _ => Builtin.List.listExtendWith (.ref S) (.ref lex) .none) _ _ _
  refine wpAny_bind (wpAny_updateSeq hS rfl ?_)
  obtain ⟨F2, N2⟩ := upd_head F1 N1 lt (Obj.mapSeq (fun _ => (#[] : Array Value))) rfl
  generalize hp.update S (Obj.mapSeq (fun _ => (#[] : Array Value))) = hp2 at *
  refine wpAny_bind (wpAny_letGo ?_)
  unfold Builtin.List.listExtendWith
  have I2 : InstAt hp2 lex (instObj 722 dlex) 722 (some (dictOf (lexD k (.str " " t7) (.str "" t8)) 19)) := InstAt.of_news N2 (.tail _ (.tail _ (.tail _ m0))) (.tail _ (.head _))
  have hSx : S ≠ lex := fun e => Nat.lt_irrefl S (by rw [e] at lt ⊢; exact lt _ (.tail _ (.tail _ m0)))
  refine wpAny_bind (I2.type.here ?_)
  have q1 : Builtin.List.listSameRef (.ref S) (.ref lex) = false := by simp [Builtin.List.listSameRef, hSx]
  have q2 : (Value.ref 722 == Value.type "list") = false := by decide
  have q3 : (Value.ref 722 == Value.type "tuple") = false := by decide
  simp only [q1, q2, q3, Bool.or_false, Bool.false_eq_true, if_false]
  refine wpAny_bind (owit_iter F2 X I2 (lexK1 w) (lexK2 w) ?_)
  refine c_iter w _ lex p loose mean mg mb dp (un + 2) gd cn cs a ccd [] outer A₀ base h₀ L m _ _ _ B F2 X N2 T hk (by omega) (by omega) ?_
  intro hp3 tk3 F3 N3
  have I3 : InstAt hp3 lex (instObj 722 dlex) 722 (some (dictOf (lexD k (.str " " t7) (.str "" t8)) 19)) := InstAt.of_news N3 (.tail _ (.tail _ (.tail _ m0))) (.tail _ (.head _))
  refine owit_it F3 X I3 (lexK3 w) ?_
  refine wpAny_bind (wpAny_holding ?_)
  unfold Builtin.List.listLengthHint
  refine wpAny_bind (wpAny_bind (I3.type.here ((looks_findIn (X.keeps F3.keep) (lexK5 w)).here ?_)))
  show wpAny _ _ (specialOf (.ref lex) (Str.ofString "__length_hint__") >>= _) _ _ _
  refine wpAny_bind (wpAny_bind (I3.type.here ((looks_findIn (X.keeps F3.keep) (lexK6 w)).here ?_)))
  refine wpAny_pure ?_
  show wpAny _ _ (rule "list.extend.makes-room" >>= fun _ => Builtin.List.listTouch (.ref S) >>= fun _ => again (.builtin "list.extend.loop" ⟨[.ref S, .ref lex, .none], []⟩)) _ _ _
  refine wpAny_bind (wpAny_rule ?_)
  refine wpAny_bind ?_
  show wpAny _ _ (updateSeq S (·.push .none) >>= fun _ => updateSeq S (·.pop)) _ _ _
  refine wpAny_bind (wpAny_updateSeq (N3 _ (.head _)).1 rfl ?_)
  obtain ⟨F4, N4⟩ := upd_head F3 N3 lt (Obj.mapSeq (·.push Value.none)) rfl
  generalize hp3.update S (Obj.mapSeq (·.push Value.none)) = hp4 at *
  refine wpAny_updateSeq (hz := by seq_fits) (N4 _ (.head _)).1 rfl ?_
  obtain ⟨F5, N5⟩ := upd_head F4 N4 lt (Obj.mapSeq (·.pop)) rfl
  generalize hp4.update S (Obj.mapSeq (·.pop)) = hp5 at *
  refine wpAny_pure ⟨plainId_quiet PySem.F.plain_extend_loop _, ?_⟩
  have I5 : InstAt hp5 lex (instObj 722 dlex) 722 (some (dictOf (lexD k (.str " " t7) (.str "" t8)) 19)) := InstAt.of_news N5 (.tail _ (.tail _ (.tail _ m0))) (.tail _ (.head _))
  refine codeAny_builtin PySem.F.entry_extend_loop ?_
  rw [Around.under_plainId PySem.F.plain_extend_loop _]
  unfold Builtin.«list.extend.loop»
  refine wpAny_bind (owit_next F5 X I5 (lexK3 w) (lexK4 w) ?_)
  have hSio : S ≠ dio := fun e => Nat.lt_irrefl S (by have := lt _ (.tail _ (.head _)); rw [← e] at this; exact this)
  have hSlx : S ≠ dlex := fun e => Nat.lt_irrefl S (by have := lt _ (.head _); rw [← e] at this; exact this)
  have g1 : ∀ (o : Obj), ∀ p ∈ (S, o) :: rest, p.1 ≠ dio := fun o p hp => by
    rcases List.mem_cons.mp hp with rfl | hp
    · exact hSio
    · exact hne1 p hp
  have g2 : ∀ (o : Obj), ∀ p ∈ (S, o) :: rest, p.1 ≠ dlex := fun o p hp => by
    rcases List.mem_cons.mp hp with rfl | hp
    · exact hSlx
    · exact hne2 p hp
  refine c_next w ((S, _) :: rest) k lex dlex dio h1 h2 h3 t1 t2 t3 t4 t5 t6 t7 t8 nl buf text out (.tail _ m0) (.tail _ m1) (.tail _ m2) (.tail _ m3) (g1 _) (g2 _) hne3 hsz hbuf hrun hout hnn hol hws hwc _ rfl p loose mean mg mb dp (un + 2) gd cn cs a ccd [] outer A₀ base h₀ L m _ _ _ B F5 X (news_rot N5) T hk (by omega) (by omega) ?_
  intro t9 t9' t9'' hp6 tk6 F6 N6'
  have N6 := news_rot' N6'
  have lt6 : ∀ q ∈ ((dlex, dictOf (lexD k .none (.str "" t9')) 19) :: (dio, dictOf (ioD h1 h2 h3 t1 t2 t3 t4 t5 t9'' nl buf text.length) 3) :: rest), q.1 < S := fun q hq => by
    rcases List.mem_cons.mp hq with rfl | hq
    · exact (lt _ (.head _) : dlex < S)
    · rcases List.mem_cons.mp hq with rfl | hq
      · exact (lt _ (.tail _ (.head _)) : dio < S)
      · exact lt q (.tail _ (.tail _ hq))
  show wpAny _ _ (updateSeq S (·.push _) >>= fun _ => again (.builtin "list.extend.loop" ⟨[.ref S, .ref lex, .none], []⟩)) _ _ _
  refine wpAny_bind (wpAny_updateSeq (hz := by seq_fits) (N6 _ (.head _)).1 rfl ?_)
  obtain ⟨F7, N7⟩ := upd_head F6 N6 lt6 (Obj.mapSeq (·.push (Value.str ⟨out.toArray⟩ t9))) rfl
  generalize hp6.update S (Obj.mapSeq (·.push (Value.str ⟨out.toArray⟩ t9))) = hp7 at *
  refine wpAny_pure ⟨plainId_quiet PySem.F.plain_extend_loop _, ?_⟩
  have I7 : InstAt hp7 lex (instObj 722 dlex) 722 (some (dictOf (lexD k .none (.str "" t9')) 19)) := InstAt.of_news N7 (.tail _ (.tail _ (.tail _ m0))) (.tail _ (.head _))
  refine codeAny_builtin PySem.F.entry_extend_loop ?_
  rw [Around.under_plainId PySem.F.plain_extend_loop _]
  unfold Builtin.«list.extend.loop»
  refine wpAny_bind (owit_next F7 X I7 (lexK3 w) (lexK4 w) ?_)
  refine c_next_stop w ((S, _) :: rest) k lex dlex dio h1 h2 h3 t1 t2 t3 t4 t5 t9'' t9' nl buf text.length (.tail _ m0) (.tail _ m1) (.tail _ m2) (.tail _ m3) (g1 _) (g2 _) hne3 (by subst hbuf; exact Int.ofNat_le.mpr (Nat.le_of_eq (List.size_toArray ..))) (by subst hbuf; show text.toArray.size ≤ 1000; rw [List.size_toArray]; omega) _ rfl p loose mean mg mb dp (un + 2) gd cn cs a ccd [] outer A₀ base h₀ L m _ _ _ B F7 X (news_rot N7) T hk (by omega) (by omega) ?_
  intro e t t' h' tk' g Fg R U
  obtain ⟨⟨B', hB, hBG, hl, hfl, hnew⟩, htup⟩ := R
  have hL : B'.get? L = none := by
    obtain ⟨_, ⟨L', _, hf, hn', _⟩, _⟩ := hfl.2.2.1
    obtain rfl : L = L' := Option.some.inj hf
    exact hn'
  obtain ⟨ob, hob, hobc⟩ := hfl.there
  unfold OwitStop
  refine wpAny_isInstance (show ∃ o, h'.get? e = some o ∧ o.cls = .type "StopIteration" from ⟨ob, hob, hobc⟩) (show isSubtype (.type "StopIteration") (.type "StopIteration") = pure true from rfl) ?_
  rw [if_pos rfl]
  obtain ⟨g', T', F', B'⟩ := kts_ground (name := cn) (scope := cs) (a := a) (cd := ccd) B Fg hBG hfl.1 U
  have N' : News g' L h' _ := fun q hq => ⟨hfl.1 _ _ (hl q hq).1, (fun z => by have := (hl q hq).1; rw [z, hL] at this; cases this), T'.none_ _ (kts_none Fg.keep (hl q hq).2.1)⟩
  refine wpAny_pure ⟨rfl, ?_⟩
  exact ret g' S t9 t' t9'' _ h' tk' T' B' F' (news_rot' N')
end
section
noncomputable abbrev frs (l : List Env) : List Addr := l.filterMap (·.frame)
noncomputable def LeaveT (A₀ : Around) (base : Heap) (env : Env) (outer : List Env) (h₀ : Heap) (L : Addr) (m : Str → Option Value) (g : Heap) (R : Result → Shared → Prop) (v : Value) (s' : Shared) : Prop :=
  ∃ g' L' m' news', KtsTurn (frs (env :: outer)) g g' ∧ Fr g' L' s'.heap m' ∧ News g' L' s'.heap news' ∧ ∀ h₀', KtsTurn (frs outer) h₀ h₀' → Below A₀ base outer h₀' → Fr h₀' L s'.heap m → News h₀' L s'.heap news' → R (.ok (.ret v)) s'
section
variable {prog : Program} {w : World} {A₀ A : Around} {s : Shared} {base h₀ : Heap} {outer : List Env} {L : Addr} {m : Str → Option Value} {env : Env} {news : List (Addr × Obj)} {R : Result → Shared → Prop}
theorem memT {b : Addr} (hf : env.frame = some L) (hm : b ∈ frs (env :: outer)) : b = L ∨ b ∈ frs outer := by
  obtain ⟨env', he, hf'⟩ := List.mem_filterMap.mp hm
  rcases List.mem_cons.mp he with rfl | he
  · exact .inl (Option.some.inj (hf'.symm.trans hf))
  · exact .inr (List.mem_filterMap.mpr ⟨env', he, hf'⟩)
theorem groundT (B : Below A₀ base outer h₀) (F : Fr h₀ L s.heap m) (N : News h₀ L s.heap news) (hA : A.frames = some (env :: outer)) (hf : env.frame = some L) (hke : env.scope.kind = .function) :
    Fr h₀ L (hideAll s.heap (news.map (·.1))) m ∧ Below A base (env :: outer) (hideAll s.heap (news.map (·.1))) ∧ h₀.StaysIn (hideAll s.heap (news.map (·.1))) ∧
      ∀ v s', LeaveT A₀ base env outer h₀ L m (hideAll s.heap (news.map (·.1))) R v s' → R (.ok (.ret v)) s' := by
  obtain ⟨FG, BG, st, _⟩ := groundX (R := R) B F N hA hf hke
  refine ⟨FG, BG, st, fun v s' hl => ?_⟩
  obtain ⟨oL, es, ep, hLg, hLd, hLk, hLf⟩ := FG.ns
  have nL₀ : h₀.get? L = none := kts_self F
  obtain ⟨g', L', m', news', T', F', N', k⟩ := hl
  obtain ⟨sl, hs⟩ := T'.up hLg
  obtain ⟨T₁, S₁⟩ := kts_turn_at (h := s'.heap) (fs := frs outer) (g := h₀)
    (fun b hb => by
      obtain ⟨_, o, ho', _⟩ := B.frames.mem hb
      exact ⟨o, ho'⟩)
    (fun b o e nmem => F'.keep b o (T'.other b o (st b o e) (fun q => by
      rcases memT hf q with z | z
      · rw [z, nL₀] at e
        cases e
      · exact nmem z)))
    (fun b o e hm => by
      obtain ⟨sl', hs'⟩ := T'.up (st b o e)
      exact ⟨sl', F'.keep _ _ hs'⟩)
  have B₃ : Below A₀ base outer (ktsHeap s'.heap (frs outer) h₀) := ⟨B.stack, fun b o e => T₁.other b o (B.stays b o e) (fun hm => by
    rw [(B.frames.mem hm).1] at e
    cases e), B.frames.of_keeps fun b o e _ => by
    obtain ⟨sl', hs'⟩ := T₁.up e
    exact ⟨_, hs', rfl⟩⟩
  refine k _ T₁ B₃ ⟨⟨_, es, ep, F'.keep _ _ hs, hLd, hLk, hLf⟩, S₁, by rw [T₁.size]; exact F.above⟩ (fun p hp => ⟨(N' p hp).1, fun q => ?_, ?_⟩)
  · have := (N' p hp).2.2; rw [q, hs] at this; cases this
  · refine T₁.none_ _ ?_
    cases q : h₀.get? p.1 with
    | none => rfl
    | some o =>
      obtain ⟨sl', hs'⟩ := T'.up (st _ _ q)
      have := (N' p hp).2.2
      rw [hs'] at this
      cases this
end
section
variable {prog : Program} {w : World} {A₀ A : Around} {s : Shared} {base h₀ : Heap} {outer : List Env} {L : Addr} {m : Str → Option Value} {env : Env} {news : List (Addr × Obj)} {R : Result → Shared → Prop} {K : Frag} {p : Program} {loose : List Str} {mean : ExcName → Option Value} {mg mb : Str → Option Value}
  {name qual : Str} {params : Arguments} {body : List Stmt} {scope : Scope} {dV kV doc pm cdv ct oc : Value} {an od : Option Addr} {osl : Array (Option Value)} {f : Addr} {args : Args} {binds : List (Str × Value)}
theorem code_defT (B : Below A₀ base outer h₀) (F : Fr h₀ L s.heap m) (X₀ : K.In h₀) (N : News h₀ L s.heap news) (T : Top p loose mean mg mb h₀) (hA : A.frames = some (env :: outer)) (hf : env.frame = some L) (hke : env.scope.kind = .function)
    (ho : K.lookup f = some ⟨oc, od, .func (fnOf name qual params body scope dV kV doc pm an cdv ct), osl⟩) (hcd : codeIn K cdv qual = true) (hroom : A.depth < recursionLimit)
    (hbind : BindsTo s (fnOf name qual params body scope dV kV doc pm an cdv ct) args binds) (hloc : ∀ y ∈ binds, scope.names.lookup y.1 = some .local)
    (h : ∀ g L' h₁, Fr h₀ L g m → Fr g L' h₁ (fun y => binds.reverse.lookup y) → News g L' h₁ news → Below A base (env :: outer) g → K.In g → Top p loose mean mg mb g →
      wpAny (model prog w) (A.deeper (envOf qual scope L' f cdv)) (execs body (envOf qual scope L' f cdv))
        (fun fl s' => LeaveT A₀ base env outer h₀ L m g R (match fl with | .ret v => v | _ => .none) s')
        (fun e s' => wpAny (model prog w) (A.deeper (envOf qual scope L' f cdv)) (leaving (envOf qual scope L' f cdv) e) (fun _ s'' => R (.error e) s'') (fun e' s'' => R (.error e') s'') s')
        { s with heap := h₁, toks := s.toks + binds.length })
    (hco : scope.isCoroutine = false) (hgen : scope.isGenerator = false) (hk : scope.kind = .function)
    (hcell : ∀ x ∈ scope.names, x.2 ≠ .cell) : codeAny (model prog w) A (.call (.ref f) args) R s := by
  have X := X₀.keeps F.keep
  obtain ⟨FG, BG, st, lv⟩ := groundT (R := R) B F N hA hf hke
  refine codeAny_call_def (fd := fnOf name qual params body scope dV kV doc pm an cdv ct) (body := body) (binds := binds) hroom (X _ _ ho) rfl (T.nolimit.keeps F.keep) (codeRec_of X hcd) rfl hbind hcell hloc (fun h₁ hns hk₁ => ?_) hco hgen hk
  exact wpAny_mono (h _ s.heap.objs.size h₁ FG ⟨hns, fun b o e => hk₁ b o (of_hideAll _ e), Nat.le_of_eq (hideAll_size _ _)⟩
    (fun p hp => ⟨hk₁ _ _ (N p hp).1, Nat.ne_of_lt (Heap.lt_size (N p hp).1), hideAll_none _ (List.mem_map_of_mem hp)⟩) BG (X₀.keeps st) (T.keeps st)) (fun fl s' hl => lv _ _ hl) fun _ _ y => y
end
end
section
theorem c_list_lex' {w : World} {news : List (Addr × Obj)} {x1 x2 x3 d x dl D C : Addr} {o1 o2 : Obj} {wc : Str} {h0 h1 h2 h3 h4 h5 h6 h7 h8 h9 h10 h11 h12 h13 h14 h15 h16 h17 h18 : Int} {t0 t1 t2 t3 t4 t5 t6 t7 t8 t9 t10 t11 t12 t13 t14 t15 t16 t17 t18 : Tok} {u4 u5 u6 u8 u9 u10 u13 u14 u18 : Tok} {j1 j2 j3 : Int} {v1 v2 v3 v4 v5 v6 v7 v8 : Tok} {nl buf : Str} {text out : List Nat}
   (a0 : ∀ p ∈ news, p.1 < dl) (a1 : dl < x) (a2 : D < d ∧ C < d ∧ x < d ∧ dl < d ∧ AllLt d news) (a3 : d < x3)
   (l1 : x3 < x2 ∧ d < x2 ∧ D < x2 ∧ C < x2 ∧ x < x2 ∧ dl < x2 ∧ AllLt x2 news) (l2 : x2 < x1 ∧ x3 < x1 ∧ d < x1 ∧ D < x1 ∧ C < x1 ∧ x < x1 ∧ dl < x1 ∧ AllLt x1 news)
   (hsz : text.length < 900) (hbuf : buf = ⟨text.toArray⟩) (hrun : runM .w text = (out, .a)) (hout : out ≠ []) (hnn : text ≠ []) (hol : out.length < 2000)
   (hws : ∀ c ∈ text, okC c) (hwc : WcOk wc)
   {p : Program} {loose : List Str} {mean : ExcName → Option Value} {mg mb : Str → Option Value} {dp un : Nat} {gd : Option (List Code)} {cn : Str} {cs : Scope} {a : Addr} {ccd : Value} {outer : List Env} {A₀ : Around} {base h₀ : Heap} {L : Addr} {m : Str → Option Value} {s : Shared} {Q E : Value → Shared → Prop}
   (B : Below A₀ base outer h₀) (F : Fr h₀ L s.heap m) (X : (hd01.heap_1 w.params).In h₀)
   (N : News h₀ L s.heap ((x1, dqObj) :: (x2, dqObj) :: (x3, instObj 587 d) :: (d, dictOf (ioD j1 j2 j3 v1 v2 v3 v4 v5 v6 nl buf 0) 3) :: (D, o1) :: (C, o2) :: (x, instObj 722 dl) :: (dl, dictOf (lexD (LexK.mk x3 x2 x1 wc h0 h1 h2 h3 h4 h5 h6 h7 h8 h9 h10 h11 h12 h13 h14 h15 h16 h17 h18 t0 t1 t2 t3 t4 t5 t6 t7 t8 t9 t10 t11 t12 t13 t14 t15 t16 t17 t18 u4 u5 u6 u8 u9 u10 u13 u14 u18) (.str " " v7) (.str "" v8)) 19) :: news))
   (T : Top p loose mean mg mb h₀) (hk : cs.kind = .function) (hd : dp + 12 < recursionLimit) (hu : un + 100 < cLine)
   (ret : ∀ g' S t n h' tk', KtsTurn (frs outer) h₀ g' → Fr g' L h' m → News g' L h' ((S, lstOf #[.str ⟨out.toArray⟩ t] n) :: news) → Q (.ref S) { s with heap := h', toks := tk' }) :
   wpAny (model Challenge.rw_op0202_01.row.prog w) (ktrTop dp un gd cn cs L a ccd [] outer) (call (.type "list") [.ref x]) Q E s := by
  obtain ⟨b1, b2, b3, b4, b5⟩ := a2
  obtain ⟨c1, c2, c3, c4, c5, c6, c7⟩ := l1
  obtain ⟨e1, e2, e3, e4, e5, e6, e7, e8⟩ := l2
  refine c_list_lex w ((x1, dqObj) :: (x2, dqObj) :: (x3, instObj 587 d) :: (x, instObj 722 dl) :: news) (LexK.mk x3 x2 x1 wc h0 h1 h2 h3 h4 h5 h6 h7 h8 h9 h10 h11 h12 h13 h14 h15 h16 h17 h18 t0 t1 t2 t3 t4 t5 t6 t7 t8 t9 t10 t11 t12 t13 t14 t15 t16 t17 t18 u4 u5 u6 u8 u9 u10 u13 u14 u18) x dl d j1 j2 j3 v1 v2 v3 v4 v5 v6 v7 v8 nl buf text out
    (by simp) (by simp) (by simp) (by simp) ?_ ?_ (Nat.ne_of_gt b4) hsz hbuf hrun hout hnn hol hws hwc _ rfl p loose mean mg mb dp un gd cn cs a ccd outer A₀ base h₀ L m s Q E B F X ?_ T hk hd hu ?_
  · intro p hp
    simp only [List.mem_cons] at hp
    rcases hp with rfl | rfl | rfl | rfl | hp
    · exact Nat.ne_of_gt e3
    · exact Nat.ne_of_gt c2
    · exact Nat.ne_of_gt a3
    · exact Nat.ne_of_lt b3
    · exact Nat.ne_of_lt (Nat.lt_trans (a0 p hp) b4)
  · intro p hp
    simp only [List.mem_cons] at hp
    rcases hp with rfl | rfl | rfl | rfl | hp
    · exact Nat.ne_of_gt e7
    · exact Nat.ne_of_gt c6
    · exact Nat.ne_of_gt (Nat.lt_trans b4 a3)
    · exact Nat.ne_of_gt a1
    · exact Nat.ne_of_lt (a0 p hp)
  · intro p hp
    refine N p ?_
    simp only [List.mem_cons] at hp ⊢
    rcases hp with hp | hp | hp | hp | hp | hp | hp <;> simp [hp]
  · intro g' S t t' t'' n h' tk' T' _ F' N'
    refine ret g' S t n h' tk' T' F' fun p hp => N' p ?_
    rcases List.mem_cons.mp hp with hp | hp
    · simp [hp]
    · simp [hp]
noncomputable def wcChk (wc : Str) : Bool := (List.range 128).all (fun c => !isLet c || decide (c ∈ wc.cps.toList)) && !decide (39 ∈ wc.cps.toList) && !decide (34 ∈ wc.cps.toList) && !decide (92 ∈ wc.cps.toList)
theorem wcOk_of {wc : Str} (h : wcChk wc = true) : WcOk wc := by
  unfold wcChk at h
  simp only [Bool.and_eq_true, List.all_eq_true, Bool.not_eq_true'] at h
  obtain ⟨⟨⟨h1, h2⟩, h3⟩, h4⟩ := h
  refine ⟨fun c hc => ?_, h2, h3, h4⟩
  have hlt : c < 128 := by
    simp only [isLet, Bool.or_eq_true, Bool.and_eq_true, decide_eq_true_eq] at hc
    omega
  have := h1 c (List.mem_range.mpr hlt)
  rw [hc] at this
  simpa using this
end
section
local macro_rules | `(tactic| walk_at "none SH 0") => `(tactic| fail)


theorem off_SH : True := by
  w_top off
  trivial
theorem io_makes (w : World) : ownMakes (hd01.heap_1 w.params) 587 = true := by kernel_rfl
theorem io_new0 (w : World) : newOk (hd01.heap_1 w.params) 587 = true := by kernel_rfl
theorem io_new1 (w : World) : ∀ S, peek (hd01.heap_1 w.params) S (checkBuiltinCall "object.__new__" ⟨[.ref 587], []⟩) = some () := fun S => by kernel_rfl
theorem io_new2 (w : World) : ∀ S, peek (hd01.heap_1 w.params) S (isType (.ref 587)) = some true := fun S => by kernel_rfl
theorem io_new3 (w : World) : ∀ S, peek (hd01.heap_1 w.params) S (Bind.madeHere "object.__new__" (.ref 587)) = some () := fun S => by kernel_rfl
local macro_rules | `(tactic| walk_at "call builtin:object.__new__") => `(tactic| (k_here; k_dflt (refine' new_ownK ?F ?X ?N (io_new0 _) (io_new1 _) (io_new2 _) (io_new3 _) ?_; (case F => k_asm); (case X => k_asm); (case N => k_asm); k_whole); intro x' d' h' F' N' l1 l2; (try k_lt l1); (try k_lt2 l2); (try k_sweep)))
local macro_rules | `(tactic| walk_at "call ref") => `(tactic| (k_here; (with_reducible show wpAny _ _ (call (Value.ref 587) _ _) _ _ _); refine wpAny_call ?_; k_dflt (refine' make_ownS ?X (io_makes _) ?hr ?he ?hp ?hi ?hf ?_; (case X => k_in); (case hr => k_is); (case he => k_is); (case hp => k_is); (case hi => k_is); (case hf => k_is); k_whole; k_enter)))
local macro_rules | `(tactic| walk_at "NewBack") => `(tactic| (k_here; k_dflt (refine' newBack_ ?F ?X ?N ?h1 ?_; (case F => k_asm); (case X => k_asm); (case N => k_asm); (case h1 => k_mem); k_whole; k_enter)))
local macro_rules | `(tactic| walk_at "call type:collections.deque") => `(tactic| (k_here; k_dflt (refine' call_dqK ?k1 ?k2 ?_; (case k1 => k_asm); (case k2 => k_asm); k_whole); intro x' h' F' N' l1; (try k_lt l1); (try k_sweep)))
local macro_rules | `(tactic| walk_at "m_enterT") => `(tactic| (refine wpAny_call ?_; k_dflt (refine' code_defT ?k1 ?k2 ?k3 ?k4 ?k5 ?kA ?kF ?kK ?k6 ?k7 ?k8 ?k9 ?kB ?_ ?c2 ?c3 ?c4 ?c5; (case kA => exact rfl); (case kF => exact rfl); (case kK => assumption); (case k1 => k_asm); (case k2 => k_asm); (case k3 => k_asm); (case k4 => k_asm); (case k5 => k_asm); (case k6 => k_is); (case k7 => k_is); (case k8 => ktr_room); (case k9 => first | exact BindsTo.of_eq rfl | exact binds_K (by k_in) rfl (by k_is) rfl rfl rfl); (case c5 => decide); (case kB => exact locs rfl); (case c2 => exact rfl); (case c3 => exact rfl); (case c4 => exact rfl); k_whole; intro g' L' h' FG' F' N' B' X' T'; (try dsimp only); (try k_lift B'); (try k_fold))))
theorem c_split (w : World) (news : List (Addr × Obj)) (buf : Str) (t0 : Tok) (text out : List Nat)
   (hsz : text.length < 900) (hbuf : buf = ⟨text.toArray⟩) (hrun : runM .w text = (out, .a)) (hout : out ≠ []) (hnn : text ≠ []) (hol : out.length < 2000) (hws : ∀ c ∈ text, okC c) :
  ∀ (p : Program) (loose : List Str) (mean : ExcName → Option Value) (mg mb : Str → Option Value) (dp un : Nat) (gd : Option (List Code)) (cn : Str) (cs : Scope) (a : Addr) (ccd : Value) (cl : List (Str × Addr)) (outer : List Env) (A₀ : Around) (base h₀ : Heap) (L : Addr) (m : Str → Option Value) (s : Shared) (Q E : Value → Shared → Prop),
    Below A₀ base outer h₀ → Fr h₀ L s.heap m → (hd01.heap_1 w.params).In h₀ → News h₀ L s.heap news → Top p loose mean mg mb h₀ → cs.kind = .function → dp + 20 < recursionLimit → un + 160 < cLine →
    (∀ h₀' S t n h' tk', KtsTurn (frs outer) h₀ h₀' → Below A₀ base outer h₀' → Fr h₀' L h' m → News h₀' L h' ((S, lstOf #[.str ⟨out.toArray⟩ t] n) :: news) → Q (.ref S) { s with heap := h', toks := tk' }) →
    wpAny (model Challenge.rw_op0202_01.row.prog w) (ktrTop dp un gd cn cs L a ccd cl outer) (call (.ref 734) [.str buf t0]) Q E s := by
  have hs : buf.length ≤ 1000 := by subst hbuf; show text.toArray.size ≤ 1000; rw [List.size_toArray]; omega
  k_fill
  intros
  rename_i hret
  walk_at "m_enterT"
  k_steps
  k_dflt (refine' c_list_lex' ?a0 ?a1 ?a2 ?a3 ?l1 ?l2 hsz hbuf hrun hout hnn hol hws ?wc ?k1 ?k2 ?k3 ?k4 ?k5 ?k6 ?k8 ?k9 ?_)
  case k4 => k_asm
  case k1 => k_asm
  case k2 => k_asm
  case k3 => k_asm
  case k5 => k_asm
  case k6 => exact rfl
  case k8 => ktr_room
  case k9 => ktr_units
  case a0 => assumption
  case a1 => assumption
  case a2 => assumption
  case a3 => assumption
  case l1 => assumption
  case l2 => assumption
  case wc => exact wcOk_of (by decide +kernel)
  k_whole
  intro g' S t n h' tk' T' F' N'
  exact ⟨g', _, _, _, T', F', N', fun h₀' T₀ B₀ F₀ N₀ => hret h₀' S t n h' tk' T₀ B₀ F₀ N₀⟩
end
end
section
section
variable {prog : Program} {w : World} {A₀ A : Around} {s : Shared} {base h₀ : Heap} {outer : List Env} {L : Addr} {m : Str → Option Value} {env : Env} {news : List (Addr × Obj)} {R : Result → Shared → Prop} {K : Frag} {p : Program} {loose : List Str} {mean : ExcName → Option Value} {mg mb : Str → Option Value}
  {name qual : Str} {params : Arguments} {body : List Stmt} {scope : Scope} {dV kV doc pm cdv ct oc : Value} {an od : Option Addr} {osl : Array (Option Value)} {f : Addr} {args : Args} {binds : List (Str × Value)}
/-- a call of a def with cells that turns outer slots -/
theorem code_defTC (B : Below A₀ base outer h₀) (F : Fr h₀ L s.heap m) (X₀ : K.In h₀) (N : News h₀ L s.heap news) (T : Top p loose mean mg mb h₀) (hA : A.frames = some (env :: outer)) (hf : env.frame = some L) (hke : env.scope.kind = .function)
    (ho : K.lookup f = some ⟨oc, od, .func (fnOf name qual params body scope dV kV doc pm an cdv ct), osl⟩) (hcd : codeIn K cdv qual = true) (hroom : A.depth < recursionLimit)
    (hbind : BindsTo s (fnOf name qual params body scope dV kV doc pm an cdv ct) args binds) (hkind : (binds.all fun y => scope.names.lookup y.1 == some .local || scope.names.lookup y.1 == some .cell) = true)
    (hnd : ((cellsFrom 0 scope.names []).map (·.1)).Nodup)
    (h : ∀ g L' h₁ tk cells, Fr h₀ L g m → Fr g L' h₁ (bindL (envOfC qual scope L' f cdv).kindOf binds fun _ => none) → News g L' h₁ (cells ++ news) →
      CellsAre (bindC (envOfC qual scope L' f cdv).kindOf binds fun _ => none) (cellsFrom (L' + 1) scope.names []) cells → Below A base (env :: outer) g → K.In g → Top p loose mean mg mb g → (∀ p ∈ news, p.1 < L') → h₀.StaysIn g →
      wpAny (model prog w) (A.deeper (envOfC qual scope L' f cdv)) (execs body (envOfC qual scope L' f cdv))
        (fun fl s' => LeaveT A₀ base env outer h₀ L m g R (match fl with | .ret v => v | _ => .none) s')
        (fun e s' => wpAny (model prog w) (A.deeper (envOfC qual scope L' f cdv)) (leaving (envOfC qual scope L' f cdv) e) (fun _ s'' => R (.error e) s'') (fun e' s'' => R (.error e') s'') s')
        { s with heap := h₁, toks := tk })
    (hco : scope.isCoroutine = false) (hgen : scope.isGenerator = false) (hk : scope.kind = .function) : codeAny (model prog w) A (.call (.ref f) args) R s := by
  have X := X₀.keeps F.keep
  obtain ⟨FG, BG, st, lv⟩ := groundT (R := R) B F N hA hf hke
  refine codeAny_call_function hroom (X _ _ ho) rfl hco hgen rfl (codeRec_of X hcd) (hbind _ _ _ _ ?_)
  refine wpAny_newFunctionEnv_cells hk (kindsX hkind _) fun env' he s' x => ?_
  subst he
  refine ⟨(T.nolimit.keeps F.keep).keeps x.toInCall.keep, codeAny_func ?_⟩
  obtain ⟨h₁, tk, rfl, _⟩ := x.done
  have hk₁ := x.toInCall.keep
  obtain ⟨cells, NC, Y⟩ := Cl.news (h₀ := s.heap) (Nat.le_refl _) fun n c hm => ⟨x.cell n c (lookup_of_mem_nodup (cellsFrom_names scope.names 0 (s.heap.objs.size + 1) [] [] rfl ▸ hnd) hm), x.above n c hm⟩
  refine wpAny_mono (h _ s.heap.objs.size h₁ tk cells FG ⟨x.toInCall.ns, fun b o e => hk₁ b o (of_hideAll _ e), Nat.le_of_eq (hideAll_size _ _)⟩ (fun p hp => ?_) Y BG (X₀.keeps st) (T.keeps st) (fun p hp => Heap.lt_size (N p hp).1) st) (fun fl s' hl => lv _ _ hl) fun _ _ y => y
  rcases List.mem_append.mp hp with hp | hp
  · refine ⟨(NC p hp).1, (NC p hp).2.1, ?_⟩
    cases q : (hideAll s.heap (news.map (·.1))).get? p.1 with
    | none => rfl
    | some o => have := of_hideAll _ q; rw [(NC p hp).2.2] at this; cases this
  · exact ⟨hk₁ _ _ (N p hp).1, Nat.ne_of_lt (Heap.lt_size (N p hp).1), hideAll_none _ (List.mem_map_of_mem hp)⟩
/-- what stands below the caller's frame stays when only the caller's slots turn -/
theorem turn_stays {g g' : Heap} {h : Heap} (F : Fr h₀ L h m) (st : h₀.StaysIn g) (hf : env.frame = some L) (T : KtsTurn (frs [env]) g g') : h₀.StaysIn g' := fun b o e => by
  refine T.other b o (st b o e) fun q => ?_
  have hL : b = L := by
    rcases memT hf q with z | z
    · exact z
    · simp [frs] at z
  have : b < L := Nat.lt_of_lt_of_le (Heap.lt_size e) F.above
  rw [hL] at this
  exact Nat.lt_irrefl _ this
end
theorem turn_back1 {h₀ h₀' h : Heap} {L : Addr} {m : Str → Option Value} {news : List (Addr × Obj)} (T : KtsTurn [] h₀ h₀') (F : Fr h₀' L h m) (N : News h₀' L h news) : Fr h₀ L h m ∧ News h₀ L h news := by
  have k : ∀ b o, h₀.get? b = some o → h₀'.get? b = some o := fun b o e => T.other b o e (by simp)
  refine ⟨⟨F.ns, fun b o e => F.keep b o (k b o e), by rw [← T.size]; exact F.above⟩, fun p hp => ⟨(N p hp).1, (N p hp).2.1, ?_⟩⟩
  cases e : h₀.get? p.1 with
  | none => rfl
  | some o =>
    have := k _ _ e
    rw [(N p hp).2.2] at this
    cases this
end
section
local macro_rules | `(tactic| walk_at "none TD 0") => `(tactic| fail)
local macro_rules | `(tactic| walk_at "none TD 1") => `(tactic| fail)
local macro_rules | `(tactic| walk_at "none TD 2") => `(tactic| fail)
local macro_rules | `(tactic| walk_at "none TD 3") => `(tactic| fail)
local macro_rules | `(tactic| walk_at "none TD 4") => `(tactic| fail)
local macro_rules | `(tactic| walk_at "none TD 5") => `(tactic| fail)
local macro_rules | `(tactic| walk_at "none TD 6") => `(tactic| fail)
local macro_rules | `(tactic| walk_at "none TD 7") => `(tactic| fail)
local macro_rules | `(tactic| walk_at "none TD 8") => `(tactic| fail)
local macro_rules | `(tactic| walk_at "none TD 9") => `(tactic| fail)

local macro_rules | `(tactic| walk_at "call ref") => `(tactic| k_extra "m call")
local macro_rules | `(tactic| walk_at "eval Name") => `(tactic| (k_here; k_dflt (first
  | (refine' nameX_L ?F ?v ?_ ?a ?b; (case F => k_asm); (case a => rfl); (case b => rfl); (case v => rfl); k_whole)
  | (refine' nameX_C ?N ?c ?m ?d ?_ ?a ?b; (case a => rfl); (case b => rfl); (case N => k_asm); (case c => rfl); (case m => repeat (first | exact List.Mem.head _ | refine List.Mem.tail _ ?_)); (case d => k_asm); k_whole)
  | (refine' nameX_K ?F ?X ?T ?e ?_ ?a ?b; (case F => k_asm); (case X => k_asm); (case T => k_asm); (case a => rfl); (case b => rfl); (case e => k_is); k_whole)
  | (refine' nameX_B ?F ?X ?T ?e ?v ?n ?_ ?a ?b; (case F => k_asm); (case X => k_asm); (case T => k_asm); (case a => rfl); (case b => rfl); (case e => k_is); (case v => boot_fast); (case n => decide); k_whole))))
local macro_rules | `(tactic| walk_at "eval Name") => `(tactic| (k_here; (with_reducible show wpAny _ _ (eval (Expr.Name _ _) (compEnvC _ _ _ _)) _ _ _); k_dflt (first
  | refine LCgL.ld_own (by k_asm) (by repeat (first | exact List.Mem.head _ | refine List.Mem.tail _ ?_)) (by assumption) (by assumption) ?_
  | refine LCgL.ld_global (by k_asm) (by k_asm) (by k_asm) (by k_is) ?_
  | refine LCgL.ld_built (by k_asm) (by k_asm) (by k_asm) (by k_is) (by boot_by_name) (by decide) ?_
  | (refine' lcf_cell ?N ?c ?m ?d ?_ ?a ?b; (case a => rfl); (case b => rfl); (case N => k_asm); (case c => rfl); (case m => repeat (first | exact List.Mem.head _ | refine List.Mem.tail _ ?_)); (case d => k_asm); k_whole))))
theorem off_TD : True := by
  w_top off
  trivial
theorem tailP_str : (Str.ofString "\\''\"\\'") = ⟨[92, 39, 39, 34, 92, 39].toArray⟩ := by decide +kernel
theorem textP_str (fs : List Int) : (⟨(fs.map chF).toArray⟩ : Str) ++ Str.ofString "\\''\"\\'" = ⟨(textP fs).toArray⟩ := by
  rw [tailP_str, str_mk_append]
  rfl
theorem textP_fits {fs : List Int} (h : fs.length ≤ 100) : (⟨(fs.map chF).toArray⟩ : Str).length + (Str.ofString "\\''\"\\'").length ≤ sizeLine := by
  rw [tailP_str]
  show (fs.map chF).toArray.size + 6 ≤ _
  rw [List.size_toArray, List.length_map, sizeLine_eq]
  omega
theorem outP_fits {fs : List Int} (h : fs.length ≤ 100) : (⟨(outP fs).toArray⟩ : Str).length ≤ 1000000 := by
  have := (outP_len fs).1
  show (outP fs).toArray.size ≤ _
  rw [List.size_toArray]
  omega
theorem apart_LC {h₀ h : Heap} {L a b : Addr} {o : Obj} {its : Array Value} {n : Nat} {v : Option Value} {rest : List (Addr × Obj)} (N : News h₀ L h rest) (ha : (a, lstOf its n) ∈ rest) (hb : (b, o) ∈ rest) (hd : o.data = .cell v) : @Ne Nat a b := fun q => by
  have z1 := (N _ ha).1
  have z2 := (N _ hb).1
  rw [show a = b from q, z2] at z1
  have e : o = lstOf its n := Option.some.inj z1
  rw [e] at hd
  cases hd
theorem let_mem (c : Nat) : decide (c ∈ (Str.ofString "ABCDEFGHIJKLMNOPQRSTUVWXYZabcdefghijklmnopqrstuvwxyz0123456789").cps.toList) = isLet c := by
  have h1 : ∀ c < 128, decide (c ∈ (Str.ofString "ABCDEFGHIJKLMNOPQRSTUVWXYZabcdefghijklmnopqrstuvwxyz0123456789").cps.toList) = isLet c := by decide +kernel
  have h2 : ∀ d ∈ (Str.ofString "ABCDEFGHIJKLMNOPQRSTUVWXYZabcdefghijklmnopqrstuvwxyz0123456789").cps.toList, d < 128 := by decide +kernel
  by_cases h : c < 128
  · exact h1 c h
  · have e1 : decide (c ∈ (Str.ofString "ABCDEFGHIJKLMNOPQRSTUVWXYZabcdefghijklmnopqrstuvwxyz0123456789").cps.toList) = false := decide_eq_false fun q => h (h2 c q)
    rw [e1]
    cases q : isLet c with
    | false => rfl
    | true =>
      simp only [isLet, Bool.or_eq_true, Bool.and_eq_true, decide_eq_true_eq] at q
      omega
local macro_rules | `(tactic| walk_at "compareOp In str str") => `(tactic| first
  | (refine in_one false (by with_reducible assumption) ?_; (try dsimp only))
  | (refine in_one true (by with_reducible assumption) ?_; (try dsimp only)))
theorem join_ch {prog : Program} {w : World} {A : Around} {E : Value → Shared → Prop} {s : Shared} {h₀ : Heap} {L D : Addr} {news : List (Addr × Obj)} {ys : List Value} {n : Nat} {cs : List Nat} {t : Tok} {Q : Value → Shared → Prop} (N : News h₀ L s.heap news) (hm : (D, listOf ys.toArray n) ∈ news) (hi : StrsAre ys (cs.map fun c => (⟨#[c]⟩ : Str))) (hc : cs.length ≤ 1000)
    (h : ∀ t' k, Q (.str ⟨cs.toArray⟩ t') { s with toks := k }) : wpAny (model prog w) A (call (.builtin "str.join") [.str (Str.ofString "") t, .ref D]) Q E s := by
  have hl : s.heap.IsList D ys.toArray := ⟨_, (N _ hm).1, rfl, n, rfl⟩
  have e0 : (Str.ofString "").length = 0 := by decide +kernel
  have es : ((cs.map fun c => (⟨#[c]⟩ : Str)).map (·.length)).sum = cs.length := by
    induction cs with
    | nil => rfl
    | cons c r ih =>
      rw [List.map_cons, List.map_cons, List.sum_cons, List.length_cons]
      have : ((r.map fun c => (⟨#[c]⟩ : Str)).map (·.length)).sum = r.length := by
        clear ih hi hc h
        induction r with
        | nil => rfl
        | cons d r ih => rw [List.map_cons, List.map_cons, List.sum_cons, List.length_cons, ih]; show 1 + _ = _; omega
      rw [this]
      show 1 + _ = _
      omega
  refine join_list hl (by simpa using hi) (by rw [es, e0]; omega) fun t' k => ?_
  have := join_chars cs
  rw [show Txt.join (Str.ofString "") (cs.map fun c => (⟨#[c]⟩ : Str)) = ⟨cs.toArray⟩ from this]
  exact h t' k
theorem ends_by {prog : Program} {w : World} {A : Around} {E : Value → Shared → Prop} {s : Shared} {X d : Str} {t u : Tok} {Q : Value → Shared → Prop} (b : Bool) (h1 : Txt.endswith X d = b) (hq : Q (.bool b) s) : wpAny (model prog w) A (call (.builtin "str.endswith") [.str X t, .str d u]) Q E s := SC.endswith (by rw [h1]; exact hq)
theorem ends_out {fs : List Int} {r : Nat} (hr : runF 0 fs = r) (d : Str) (hd : d.length ≤ (⟨(endS r).toArray⟩ : Str).length) : Txt.endswith ⟨(outP fs).toArray⟩ d = Txt.endswith ⟨(endS r).toArray⟩ d := by
  unfold outP
  rw [hr, ← str_mk_append]
  exact KAf.ends_right hd
theorem ends4 {a e : List Nat} (he : e.length = 3) (h : e ≠ [39, 39, 39]) : Txt.endswith ⟨(a ++ e).toArray⟩ (Str.ofString "\\'''") = false := by
  have hd : (Str.ofString "\\'''").cps.toList = [92, 39, 39, 39] := by decide +kernel
  have hl : (Str.ofString "\\'''").length = 4 := by decide +kernel
  have hx : (⟨(a ++ e).toArray⟩ : Str).length = a.length + 3 := by show (a ++ e).toArray.size = _; simp [he]
  cases q : Txt.endswith ⟨(a ++ e).toArray⟩ (Str.ofString "\\'''") with
  | false => rfl
  | true =>
    exfalso
    unfold Txt.endswith at q
    rw [Bool.and_eq_true, decide_eq_true_eq, hl, hx, StrLaws.subAt_eq] at q
    obtain ⟨q1, q2⟩ := q
    have q3 : ((a ++ e).drop (a.length + 3 - 4)).take 4 = [92, 39, 39, 39] := by
      have := eq_of_beq q2
      rw [hd, hl] at this
      simpa using this
    have q4 := congrArg (List.drop 1) q3
    rw [List.drop_take, List.drop_drop, show a.length + 3 - 4 + 1 = a.length by omega, List.drop_left] at q4
    apply h
    have : e.take (4 - 1) = e := List.take_of_length_le (by omega)
    rw [this] at q4
    exact q4
theorem ends_out2 {fs : List Int} {r : Nat} (hr : runF 0 fs = r) (h2 : r < 2) : Txt.endswith ⟨(outP fs).toArray⟩ (Str.ofString "\\'''") = false := by
  unfold outP
  rw [hr]
  have : r = 0 ∨ r = 1 := by omega
  rcases this with rfl | rfl
  · exact ends4 (by decide) (by decide)
  · exact ends4 (by decide) (by decide)
local macro_rules | `(tactic| walk_at "CompEnd") => `(tactic| ((rename LCg.Off3 _ _ _ _ => o9); refine LCg.CompEnd.intro (by assumption) (by assumption) _ (by first | exact fun p hp => hp | exact fun p hp => .tail _ hp) o9 trivial ?_; (try dsimp only)))
local macro_rules | `(tactic| walk_at "call builtin:str.endswith") => `(tactic| first | (refine ends_by true (by with_reducible assumption) ?_) | (refine ends_by false (by with_reducible assumption) ?_))
local macro_rules | `(tactic| walk_at "CompRestT") => `(tactic| (with_unfolding_all first
  | (refine LCt.CompRestT.succ ?_; intro v' I' oI' C' oC' D' m' h' tk' E' hv' hC' hx' F' N' off' ne'; (obtain ⟨t9', hv9'⟩ := hv'; subst hv9'))
  | refine LCt.CompRestT.zero ?_))
theorem let_len : (Str.ofString "ABCDEFGHIJKLMNOPQRSTUVWXYZabcdefghijklmnopqrstuvwxyz0123456789").length = 62 := by decide +kernel
theorem let_item {k : Int} (h : 0 ≤ k ∧ k < 62) : Txt.item (Str.ofString "ABCDEFGHIJKLMNOPQRSTUVWXYZabcdefghijklmnopqrstuvwxyz0123456789") k = ⟨#[chF k]⟩ := by
  have : ∀ j < 62, Txt.item (Str.ofString "ABCDEFGHIJKLMNOPQRSTUVWXYZabcdefghijklmnopqrstuvwxyz0123456789") ((j : Nat) : Int) = ⟨#[chF ((j : Nat) : Int)]⟩ := by decide +kernel
  obtain ⟨j, rfl⟩ := Int.eq_ofNat_of_zero_le h.1
  exact this j (by omega)
local macro_rules | `(tactic| walk_at "subscriptTail Name Name str int") => `(tactic| (k_here; k_dflt (refine' item_strV let_len ?k2 ?k3 ?k4 ?k5 ?_; (case k2 => omega); (case k3 => omega); (case k4 => decide); (case k5 => assumption)); k_whole; intro t6; (try dsimp only)))
theorem told_end {A₀ : Around} {base : Heap} {env : Env} {h₀ g g' : Heap} {L L' : Addr} {m m' : Str → Option Value} {news news' : List (Addr × Obj)} {R : Result → Shared → Prop} {v : Value} {s' : Shared} {x : Addr × Obj} (TS : KtsTurn (frs [env]) g g') (F : Fr g' L' s'.heap m') (N : News g' L' s'.heap news')
    (h1 : x ∈ news') (h2 : ∀ q ∈ news, q ∈ news') (k : Fr h₀ L s'.heap m → News h₀ L s'.heap (x :: news) → R (.ok (.ret v)) s') : LeaveT A₀ base env [] h₀ L m g R v s' := by
  refine ⟨g', L', m', news', TS, F, N, fun h₀' T₀ _ F₀ N₀ => ?_⟩
  obtain ⟨F3, N3⟩ := turn_back1 T₀ F₀ N₀
  refine k F3 fun p hp => N3 p ?_
  rcases List.mem_cons.mp hp with rfl | hp
  · exact h1
  · exact h2 p hp
theorem c_told (w : World) (news : List (Addr × Obj)) (fl : Addr) (fV : List Value) (nf : Nat) (fN : List Int) (hfl : (fl, listOf fV.toArray nf) ∈ news) (hI : IntsAre fV fN) (h64 : F64 fN) (hl4 : fN.length % 4 = 0) (hlen : fN.length ≤ 100)
   (p : Program) (loose : List Str) (mean : ExcName → Option Value) (mg mb : Str → Option Value) (dp un : Nat) (gd : Option (List Code)) (cn : Str) (cs : Scope) (a : Addr) (ccd : Value) (cl : List (Str × Addr)) (outer : List Env) (ho : outer = []) (A₀ : Around) (base h₀ : Heap) (L : Addr) (m : Str → Option Value) (s : Shared) (Q E : Value → Shared → Prop)
   (B : Below A₀ base outer h₀) (F : Fr h₀ L s.heap m) (X : (hd01.heap_1 w.params).In h₀) (N : News h₀ L s.heap news) (T : Top p loose mean mg mb h₀) (hk : cs.kind = .function) (hd : dp + 30 < recursionLimit) (hu : un + 240 < cLine)
   (ret : ∀ rl t n h' tk', Fr h₀ L h' m → News h₀ L h' ((rl, listOf #[.int (runF 0 fN : Nat) t] n) :: news) → Q (.ref rl) { s with heap := h', toks := tk' }) :
   wpAny (model Challenge.rw_op0202_01.row.prog w) (ktrTop dp un gd cn cs L a ccd cl outer) (call (.ref 849) [.ref fl]) Q E s := by
  subst ho
  revert X
  k_fill
  intro X
  have N0 := news_dup N hfl
  k_with_none
  k_with "m call" =>
    first
    | ((with_reducible show wpAny _ _ (call (Value.ref 844) _) _ _ _); k_dflt (refine' c_line1 w _ _ _ _ _ (List.Mem.tail _ (List.Mem.tail _ (List.Mem.head _))) hI h64 hl4 hlen _ _ _ _ _ _ _ _ _ _ _ _ _ _ _ _ _ _ _ _ _ _ ?k1 ?k2 ?k3 ?k4 ?k5 ?k6 ?k8 ?k9 ?_; (case k1 => k_asm); (case k2 => k_asm); (case k3 => k_asm); (case k4 => k_asm); (case k5 => k_asm); (case k6 => exact rfl); (case k8 => ktr_room); (case k9 => ktr_units); k_whole); intro t9 h9 tk9 F9 N9; (try dsimp only); (try k_fold))
  refine wpAny_call ?_
  k_dflt (refine' code_defTC B F X N0 T ?kA ?kF ?kK ?k6 ?k7 ?k8 ?k9 ?kB ?kD ?_ ?c2 ?c3 ?c4)
  case kA => exact rfl
  case kF => exact rfl
  case kK => assumption
  case k6 => k_is
  case k7 => k_is
  case k8 => ktr_room
  case k9 => first | exact BindsTo.of_eq rfl | exact binds_K (by k_in) rfl (by k_is) rfl rfl rfl
  case kB => exact rfl
  case kD => decide +kernel
  case c2 => exact rfl
  case c3 => exact rfl
  case c4 => exact rfl
  k_whole
  intro g' L' h' tk' cells' FG' F' N' Y' B' X' T' l1 st'
  have hx1 : ∀ q ∈ news, q.1 ≠ L' + 1 := fun q hq => Nat.ne_of_lt (Nat.lt_succ_of_lt (l1 q (.tail _ hq)))
  have hx2 : ∀ q ∈ news, q.1 ≠ L' + 1 + 1 := fun q hq => Nat.ne_of_lt (Nat.lt_succ_of_lt (Nat.lt_succ_of_lt (l1 q (.tail _ hq))))
  (try k_lt l1)
  k_cells Y'
  (try simp only [List.cons_append, List.nil_append] at N')
  (try dsimp only)
  (try k_lift B')
  (try k_fold)
  repeat' ((fail_if_success (with_reducible show wpAny _ _ (binaryOp _ _ _) _ _ _)); first | (k_unfold; (try dsimp only)) | (k_end; wrow_close) | walk1 | (dsimp only; walk1) | (leave1; walk_say "STEP leave1"; try dsimp only) | fail "no step")
  k_unfold
  (try dsimp only)
  refine SBL.add ?_ (textP_fits hlen)
  intro t7 k7 _
  (try dsimp only)
  repeat' ((fail_if_success (with_reducible show wpAny _ _ (call (Value.ref 734) _) _ _ _)); first | (k_unfold; (try dsimp only)) | (k_end; wrow_close) | walk1 | (dsimp only; walk1) | (leave1; walk_say "STEP leave1"; try dsimp only) | fail "no step")
  (try k_unfold)
  (try dsimp only)
  rw [textP_str]
  k_dflt (refine' c_split w _ _ _ (textP fN) (outP fN) ?s1 rfl (run_textP h64) (outP_len fN).2 (textP_len fN).2 ?s2 (textP_ok h64) _ _ _ _ _ _ _ _ _ _ _ _ _ _ _ _ _ _ _ _ _ _ ?j1 ?j2 ?j3 ?j4 ?j5 ?j6 ?j8 ?j9 ?_)
  case s1 => have := (textP_len fN).1; omega
  case s2 => have := (outP_len fN).1; omega
  case j2 => k_asm
  case j1 => k_asm
  case j3 => k_asm
  case j4 => k_asm
  case j5 => k_asm
  case j6 => exact rfl
  case j8 => ktr_room
  case j9 => ktr_units
  k_whole
  intro g2 S tS nS hS tkS TS BS FS NS
  have stS := turn_stays (env := envX cn cs L a ccd cl) F st' rfl TS
  have X2 := X.keeps stS
  have T2 := T.keeps stS
  have hS1 := apart_LC NS (.head _) (.tail _ (.head _)) (by assumption)
  have hS2 := apart_LC NS (.head _) (.tail _ (.tail _ (.head _))) (by assumption)
  clear N9 F9 T' X'
  repeat' ((fail_if_success (with_reducible show wpAny _ _ (call (Value.builtin "str.join") _) _ _ _)); first | (k_unfold; (try dsimp only)) | (k_end; wrow_close) | walk1 | (dsimp only; walk1) | (leave1; walk_say "STEP leave1"; try dsimp only) | fail "no step")
  k_dflt (refine' join_lone ?jn ?jm (outP_fits hlen) ?_)
  case jn => k_asm
  case jm => exact List.Mem.head _
  k_whole
  repeat' ((fail_if_success (with_reducible show wpAny _ _ (eval (PySem.Expr.ListComp _ _ _ _) _) _ _ _)); first | (k_unfold; (try dsimp only)) | (k_end; wrow_close) | walk1 | (dsimp only; walk1) | (leave1; walk_say "STEP leave1"; try dsimp only) | fail "no step")
  k_dflt (refine ListComp_TS (_F₀ := by k_asm) (by with_unfolding_all rfl) (by decide) (by rfl) (by decide) (by rfl) ?_ (by intro _; rfl))
  repeat' ((fail_if_success (with_reducible show SrcST _ _ _ _ _ _ _ _ _ _ _ _ _ _ _)); first | (k_unfold; (try dsimp only)) | (k_end; wrow_close) | walk1 | (dsimp only; walk1) | (leave1; walk_say "STEP leave1"; try dsimp only) | fail "no step")
  k_dflt (refine' srcS_mk (cs := outP fN) isLet (fun c => ⟨#[c]⟩) rfl ?gF ?gN rfl ?gsz ?gturn ?gfin)
  case gF => k_asm
  case gN => k_asm
  case gsz => have := (outP_len fN).1; omega
  case gturn =>
    intro hp c t hc I oI C oC D m₂ ys h tk E' hC hx F' N' off
    have hlm := let_mem c
    cases hk : isLet c with
    | true =>
      rw [hk] at hlm
      k_steps
    | false =>
      rw [hk] at hlm
      k_steps
  case gfin =>
    intro hp ys hSt D h5 tk5 F5 N5 off
    k_whole
    (try dsimp only)
    have hcs : ((outP fN).filter isLet).length ≤ 1000 := Nat.le_trans (List.length_filter_le ..) (by have := (outP_len fN).1; omega)
    repeat' ((fail_if_success (with_reducible show wpAny _ _ (call (Value.builtin "str.join") _) _ _ _)); first | (k_unfold; (try dsimp only)) | (k_end; wrow_close) | walk1 | (dsimp only; walk1) | (leave1; walk_say "STEP leave1"; try dsimp only) | fail "no step")
    k_dflt (refine' join_ch ?jn2 (List.Mem.head _) hSt hcs ?_)
    case jn2 => k_asm
    intro tl1 kl1
    (try dsimp only)
    repeat' ((fail_if_success (with_reducible show wpAny _ _ (eval (PySem.Expr.ListComp _ _ _ _) _) _ _ _)); first | (k_unfold; (try dsimp only)) | (k_end; wrow_close) | walk1 | (dsimp only; walk1) | (leave1; walk_say "STEP leave1"; try dsimp only) | fail "no step")
    k_dflt (refine LCt.ListComp_T (F₀ := by k_asm) (by with_unfolding_all rfl) (by decide) (by rfl) (by decide) (by rfl) ?_)
    repeat' ((fail_if_success (with_reducible show LCt.CompSrcT _ _ _ _ _ _ _ _ _ _ _ _ _ _ _)); first | (k_unfold; (try dsimp only)) | (k_end; wrow_close) | walk1 | (dsimp only; walk1) | (leave1; walk_say "STEP leave1"; try dsimp only) | fail "no step")
    k_dflt (refine' srcI_txt (fun f => decide (f < 62)) (fun f => ⟨#[chF f]⟩) rfl ?iF ?iN ?im hI ?isz ?iturn ?ifin)
    case iF => k_asm
    case iN => k_asm
    case im => repeat (first | exact List.Mem.head _ | refine List.Mem.tail _ ?_)
    case isz => omega
    case iturn =>
      intro hp k t hkm I oI C oC D m₂ ys h tk E' hC hx F' N' off
      have hkr := h64 k hkm
      by_cases hk : k < 62
      · have hit := let_item ⟨hkr.1, hk⟩
        k_steps
        exact LCg.CompEnd.intro (by assumption) (by assumption) _ (fun p hp => hp) off (.inr ⟨_, by repeat (first | exact List.Mem.head _ | refine List.Mem.tail _ ?_), rfl, _, rfl⟩) ⟨rfl, decide_eq_true hk, _, rfl⟩
      · k_steps
        exact LCg.CompEnd.intro (by assumption) (by assumption) _ (fun p hp => hp) off (.inr ⟨_, by repeat (first | exact List.Mem.head _ | refine List.Mem.tail _ ?_), rfl, _, rfl⟩) ⟨rfl, decide_eq_false hk⟩
    case ifin =>
      intro hp ys2 hSt2 D2 h6 tk6 F6 N6 off2
      k_whole
      (try dsimp only)
      have hst2 : StrsAre ys2 (((fN.filter (fun f => decide (f < 62))).map chF).map fun c => (⟨#[c]⟩ : Str)) := by rw [List.map_map]; exact hSt2
      rw [← outP_let h64] at hst2
      repeat' ((fail_if_success (with_reducible show wpAny _ _ (call (Value.builtin "str.join") _) _ _ _)); first | (k_unfold; (try dsimp only)) | (k_end; wrow_close) | walk1 | (dsimp only; walk1) | (leave1; walk_say "STEP leave1"; try dsimp only) | fail "no step")
      k_dflt (refine' join_ch ?jn3 (List.Mem.head _) hst2 hcs ?_)
      case jn3 => k_asm
      intro tl2 kl2
      (try dsimp only)
      repeat' ((fail_if_success (with_reducible show wpAny _ _ (compareOp .NotEq _ _) _ _ _)); first | (k_unfold; (try dsimp only)) | (k_end; wrow_close) | walk1 | (dsimp only; walk1) | (leave1; walk_say "STEP leave1"; try dsimp only) | fail "no step")
      refine ne_by true (beq_self_eq_true _) ?_
      (try dsimp only [Bool.not_true])
      repeat' ((fail_if_success (with_reducible show wpAny _ _ (eval (PySem.Expr.ListComp _ _ _ _) _) _ _ _)); first | (k_unfold; (try dsimp only)) | (k_end; wrow_close) | walk1 | (dsimp only; walk1) | (leave1; walk_say "STEP leave1"; try dsimp only) | fail "no step")
      k_dflt (refine LCt.ListComp_T (F₀ := by k_asm) (by with_unfolding_all rfl) (by decide) (by rfl) (by decide) (by rfl) ?_)
      have hr3 := runF_lt fN 0 (by decide)
      have hr' : runF 0 fN = 0 ∨ runF 0 fN = 1 ∨ runF 0 fN = 2 := by omega
      rcases hr' with hr | hr | hr
      · have f0 : Txt.endswith ⟨(outP fN).toArray⟩ (Str.ofString "'\"\\") = true := (ends_out hr _ (by decide +kernel)).trans (by decide +kernel)
        have f1 : Txt.endswith ⟨(outP fN).toArray⟩ (Str.ofString "\\\"\\") = false := (ends_out hr _ (by decide +kernel)).trans (by decide +kernel)
        have f2 : Txt.endswith ⟨(outP fN).toArray⟩ (Str.ofString "\\'''") = false := ends_out2 hr (by decide)
        rw [hr] at ret
        k_steps
        rename News _ _ _ _ => kN9
        rename Fr _ _ _ _ => kF9
        exact told_end TS kF9 kN9 (by first | exact List.Mem.head _ | exact List.Mem.tail _ (List.Mem.head _)) (fun q hq => by repeat (first | exact hq | refine List.Mem.tail _ ?_)) (fun F3 N3 => ret _ _ _ _ _ F3 N3)
      · have f0 : Txt.endswith ⟨(outP fN).toArray⟩ (Str.ofString "'\"\\") = false := (ends_out hr _ (by decide +kernel)).trans (by decide +kernel)
        have f1 : Txt.endswith ⟨(outP fN).toArray⟩ (Str.ofString "\\\"\\") = true := (ends_out hr _ (by decide +kernel)).trans (by decide +kernel)
        have f2 : Txt.endswith ⟨(outP fN).toArray⟩ (Str.ofString "\\'''") = false := ends_out2 hr (by decide)
        rw [hr] at ret
        k_steps
        rename News _ _ _ _ => kN9
        rename Fr _ _ _ _ => kF9
        exact told_end TS kF9 kN9 (by first | exact List.Mem.head _ | exact List.Mem.tail _ (List.Mem.head _)) (fun q hq => by repeat (first | exact hq | refine List.Mem.tail _ ?_)) (fun F3 N3 => ret _ _ _ _ _ F3 N3)
      · have f0 : Txt.endswith ⟨(outP fN).toArray⟩ (Str.ofString "'\"\\") = false := (ends_out hr _ (by decide +kernel)).trans (by decide +kernel)
        have f1 : Txt.endswith ⟨(outP fN).toArray⟩ (Str.ofString "\\\"\\") = false := (ends_out hr _ (by decide +kernel)).trans (by decide +kernel)
        have f2 : Txt.endswith ⟨(outP fN).toArray⟩ (Str.ofString "\\'''") = true := (ends_out hr _ (by decide +kernel)).trans (by decide +kernel)
        rw [hr] at ret
        k_steps
        rename News _ _ _ _ => kN9
        rename Fr _ _ _ _ => kF9
        exact told_end TS kF9 kN9 (by first | exact List.Mem.head _ | exact List.Mem.tail _ (List.Mem.head _)) (fun q hq => by repeat (first | exact hq | refine List.Mem.tail _ ?_)) (fun F3 N3 => ret _ _ _ _ _ F3 N3)
end
section
local macro_rules | `(tactic| walk_at "call ref") => `(tactic| k_extra "m call")
theorem off_LA : True := by
  w_top off
  trivial
theorem c_shift1 (w : World) (news : List (Addr × Obj)) (k z : Nat) (tx ty : Tok) (hk : k ≤ 4) (hz : z = 2 ^ k) :
  ∀ (p : Program) (loose : List Str) (mean : ExcName → Option Value) (mg mb : Str → Option Value) (dp un : Nat) (gd : Option (List Code)) (cn : Str) (cs : Scope) (a : Addr) (ccd : Value) (cl : List (Str × Addr)) (outer : List Env) (A₀ : Around) (base h₀ : Heap) (L : Addr) (m : Str → Option Value) (s : Shared) (Q E : Value → Shared → Prop),
    Below A₀ base outer h₀ → Fr h₀ L s.heap m → (hd01.heap_1 w.params).In h₀ → News h₀ L s.heap news → Top p loose mean mg mb h₀ → cs.kind = .function → dp + 1 < recursionLimit → un + 8 < cLine →
    (∀ t h' tk', Fr h₀ L h' m → News h₀ L h' news → Q (.int (z : Int) t) { s with heap := h', toks := tk' }) →
    wpAny (model Challenge.rw_op0202_01.row.prog w) (ktrTop dp un gd cn cs L a ccd cl outer) (call (.ref 792) [.int 1 tx, .int (k : Int) ty]) Q E s := by
  have e : (1 : Int) * 2 ^ ((k : Nat) : Int).toNat = (z : Int) := by
    rw [Int.toNat_natCast, Int.one_mul, hz]
    push_cast
    rfl
  have := c_lshift w news 1 (k : Int) tx ty (by omega) (by omega) (by decide)
  rw [e] at this
  exact this
theorem not_lt_len {k l z : Nat} (h : ¬ 1 * (2 : Int) ^ k < (l : Int)) (hz : z = 2 ^ k) : l ≤ z := by
  have e1 : ((2 ^ k : Nat) : Int) = (2 : Int) ^ k := by push_cast; rfl
  rw [Int.one_mul, ← e1, ← hz] at h
  omega
theorem while_lt {b : Int} {l : Nat} (h : 1 * 2 ^ b.toNat < (l : Int)) (h0 : 0 ≤ b) (hl : l ≤ 16) : b < 4 := by
  by_cases q : b < 4
  · exact q
  · exfalso
    have h4 : 4 ≤ b.toNat := by omega
    have e : (2 : Int) ^ 4 ≤ 2 ^ b.toNat := by
      have := Nat.pow_le_pow_right (show 0 < 2 by decide) h4
      have e1 : ((2 ^ b.toNat : Nat) : Int) = (2 : Int) ^ b.toNat := by push_cast; rfl
      rw [← e1]
      have e2 : ((2 ^ 4 : Nat) : Int) = (2 : Int) ^ 4 := by decide
      rw [← e2]
      exact Int.ofNat_le.mpr this
    have e3 : (2 : Int) ^ 4 = 16 := by decide
    rw [e3] at e
    rw [Int.one_mul] at h
    omega
theorem prog_64 {k : Nat} {tN : List Int} (hk : k ≤ 4) : F64 (progT k tN) := fun f hf => by
  have := prog_in k tN hk f hf
  omega
theorem prog_62 {k : Nat} {tN : List Int} (hk : k ≤ 4) : (progT k tN).length ≤ 62 := by
  have h := prog_len k tN
  have e : 2 ^ k ≤ 2 ^ 4 := Nat.pow_le_pow_right (by decide) hk
  omega
theorem told_v {k : Nat} {tN : List Int} {pt : Int} (hk : k ≤ 4) (ht : B3 tN) (hl : tN.length = 2 ^ k) (h0 : 0 ≤ pt) (h1 : pt < ((2 ^ k : Nat) : Int)) : ((runF 0 (laidT pt (progT k tN)) : Nat) : Int) = tN.getD pt.toNat 0 := by
  obtain ⟨j, rfl⟩ := Int.eq_ofNat_of_zero_le h0
  rw [laid_run hk ht hl (by omega), Int.toNat_natCast]
  rcases getD_cases ht j (by omega) with e | e | e <;> rw [e] <;> rfl
theorem c_told2 (w : World) (news : List (Addr × Obj)) (fl : Addr) (fV : List Value) (nf k : Nat) (tN : List Int) (pt : Int) (hfl : (fl, listOf fV.toArray nf) ∈ news) (hI : IntsAre fV (laidT pt (progT k tN))) (hkk : k ≤ 4) (ht : B3 tN) (hl : tN.length = 2 ^ k) (h0 : 0 ≤ pt) (h1 : pt < (tN.length : Int))
   (p : Program) (loose : List Str) (mean : ExcName → Option Value) (mg mb : Str → Option Value) (dp un : Nat) (gd : Option (List Code)) (cn : Str) (cs : Scope) (a : Addr) (ccd : Value) (cl : List (Str × Addr)) (outer : List Env) (ho : outer = []) (A₀ : Around) (base h₀ : Heap) (L : Addr) (m : Str → Option Value) (s : Shared) (Q E : Value → Shared → Prop)
   (B : Below A₀ base outer h₀) (F : Fr h₀ L s.heap m) (X : (hd01.heap_1 w.params).In h₀) (N : News h₀ L s.heap news) (T : Top p loose mean mg mb h₀) (hk : cs.kind = .function) (hd : dp + 30 < recursionLimit) (hu : un + 240 < cLine)
   (ret : ∀ rl t n h' tk', Fr h₀ L h' m → News h₀ L h' ((rl, listOf #[.int (tN.getD pt.toNat 0) t] n) :: news) → Q (.ref rl) { s with heap := h', toks := tk' }) :
   wpAny (model Challenge.rw_op0202_01.row.prog w) (ktrTop dp un gd cn cs L a ccd cl outer) (call (.ref 849) [.ref fl]) Q E s := by
  rw [← told_v hkk ht hl h0 (by rw [hl] at h1; exact h1)] at ret
  have hll := laid_len (b := k) (t := tN) (pt := pt) hkk
  exact c_told w news fl fV nf _ hfl hI (laid_ok hkk) hll.1 (by omega) p loose mean mg mb dp un gd cn cs a ccd cl outer ho A₀ base h₀ L m s Q E B F X N T hk hd hu ret
theorem mem_h1 {α : Type} {a b p : α} (h : p ∈ [a]) : p ∈ [a, b] := by
  rw [List.mem_singleton.mp h]
  exact .head _
theorem take_16 {ns : List Int} (h : decide (ns = []) = false) : 1 ≤ (ns.take 16).length ∧ (ns.take 16).length ≤ 16 := by
  have := List.length_pos_iff.mpr (of_decide_eq_false h)
  rw [List.length_take]
  omega
theorem flat_rep (n : Nat) : (List.replicate n [(0 : Int)]).flatten = List.replicate n 0 := by
  induction n with
  | zero => rfl
  | succ n ih => rw [List.replicate_succ, List.flatten_cons, ih]; rfl
theorem tbl_ok {nums : List Int} {z : Nat} (h : nums.length ≤ z) : B3 (nums.map (fun x => Int.fmod x 3) ++ (List.replicate ((z : Int) - (nums.length : Int)).toNat [(0 : Int)]).flatten) ∧ (nums.map (fun x => Int.fmod x 3) ++ (List.replicate ((z : Int) - (nums.length : Int)).toNat [(0 : Int)]).flatten).length = z := by
  rw [flat_rep]
  constructor
  · intro x hx
    rcases List.mem_append.mp hx with hx | hx
    · obtain ⟨y, _, rfl⟩ := List.mem_map.mp hx
      exact fmod3_in y
    · exact .inl (List.eq_of_mem_replicate hx)
  · rw [List.length_append, List.length_map, List.length_replicate]
    omega
local macro_rules | `(tactic| walk_at "subscriptTail Name Name ref int") => `(tactic| (k_here; (with_reducible show wpAny _ _ (subscriptTail _ _ (Value.ref _) (Value.int _ _)) _ _ _); k_dflt (refine' item_lst ?k1 ?k2 ?k3 ?k4 ?k5 ?k6 ?_; (case k1 => k_asm); (case k2 => repeat (first | exact List.Mem.head _ | refine List.Mem.tail _ ?_)); (case k3 => assumption); (case k4 => omega); (case k5 => omega); (case k6 => omega)); k_whole; intro t6; (try dsimp only)))
noncomputable def MidN (h₀ : Heap) (L : Addr) (m : Str → Option Value) (news : List (Addr × Obj)) (s : Shared) (f : Flow) (s' : Shared) : Prop :=
  f = .next ∧ ∃ nl vs n nums h' tk, s' = { s with heap := h', toks := tk } ∧ Fr h₀ L h' (fun y => if y = "numbers" then some (.ref nl) else m y) ∧ News h₀ L h' ((nl, listOf vs.toArray n) :: news) ∧ IntsAre vs nums ∧ 1 ≤ nums.length ∧ nums.length ≤ 16
theorem midN_bind {M : Model} {A : Around} {E : Value → Shared → Prop} {s : Shared} {t : Sem Flow} {Q : Flow → Shared → Prop} {h₀ : Heap} {L : Addr} {m : Str → Option Value} {news : List (Addr × Obj)} (F : Fr h₀ L s.heap m) (N : News h₀ L s.heap news)
    (h1 : wpAny M A t (MidN h₀ L m news s) E s) (h2 : ∀ f s', MidN h₀ L m news s f s' → Q f s') : wpAny M A t Q E s := wpAny_mono h1 h2 fun _ _ e => e
local macro_rules | `(tactic| k_qdec) => `(tactic| decide +kernel)
theorem lawT : PySem.Challenge.rw_op0202_01.Holds := hd01 (by
  k_go0
  all_goals (try k_fold)
  rename Below _ _ _ _ => K0
  dsimp only [PyProof.Rows.Top.heap] at K0
  k_with_none
  k_with "m call" =>
    first
    | ((with_reducible show wpAny _ _ (call (Value.ref 799) _) _ _ _); k_dflt (refine' c_mod _ _ _ _ _ _ (by decide) _ _ _ _ _ _ _ _ _ _ _ _ _ _ _ _ _ _ _ _ _ _ ?k1 ?k2 ?k3 ?k4 ?k5 ?k6 ?k8 ?k9 ?_; (case k1 => k_asm); (case k2 => k_asm); (case k3 => k_asm); (case k4 => k_asm); (case k5 => k_asm); (case k6 => exact rfl); (case k8 => ktr_room); (case k9 => ktr_units); k_whole); intro t9 h9 tk9 F9 N9; (try dsimp only); (try k_fold))
    | ((with_reducible show wpAny _ _ (call (Value.ref 785) _) _ _ _); k_dflt (refine' c_floordiv _ _ _ _ _ _ _ _ _ _ _ _ _ _ _ _ _ _ _ _ _ _ _ _ _ _ _ ?k1 ?k2 ?k3 ?k4 ?k5 ?k6 ?k8 ?k9 ?_; (case k1 => k_asm); (case k2 => k_asm); (case k3 => k_asm); (case k4 => k_asm); (case k5 => k_asm); (case k6 => exact rfl); (case k8 => ktr_room); (case k9 => ktr_units); k_whole); intro t9 h9 tk9 F9 N9; (try dsimp only); (try k_fold))
    | ((with_reducible show wpAny _ _ (call (Value.ref 792) _) _ _ _); k_dflt (refine' c_lshift _ _ _ _ _ _ (by omega) (by omega) (by decide) _ _ _ _ _ _ _ _ _ _ _ _ _ _ _ _ _ _ _ _ _ _ ?k1 ?k2 ?k3 ?k4 ?k5 ?k6 ?k8 ?k9 ?_; (case k1 => k_asm); (case k2 => k_asm); (case k3 => k_asm); (case k4 => k_asm); (case k5 => k_asm); (case k6 => exact rfl); (case k8 => ktr_room); (case k9 => ktr_units); k_whole); intro t9 h9 tk9 F9 N9; (try dsimp only); (try k_fold))
    | ((with_reducible show wpAny _ _ (call (Value.ref 771) _) _ _ _); k_dflt (refine' c_add _ _ _ _ _ _ _ _ _ _ _ _ _ _ _ _ _ _ _ _ _ _ _ _ _ _ _ _ ?k1 ?k2 ?k3 ?k4 ?k5 ?k6 ?k8 ?k9 ?_; (case k1 => k_asm); (case k2 => k_asm); (case k3 => k_asm); (case k4 => k_asm); (case k5 => k_asm); (case k6 => exact rfl); (case k8 => ktr_room); (case k9 => ktr_units); k_whole); intro t9 h9 tk9 F9 N9; (try dsimp only); (try k_fold))
    | ((with_reducible show wpAny _ _ (call (Value.ref 827) _) _ _ _); k_dflt (refine' c_sub _ _ _ _ _ _ _ _ _ _ _ _ _ _ _ _ _ _ _ _ _ _ _ _ _ _ _ _ ?k1 ?k2 ?k3 ?k4 ?k5 ?k6 ?k8 ?k9 ?_; (case k1 => k_asm); (case k2 => k_asm); (case k3 => k_asm); (case k4 => k_asm); (case k5 => k_asm); (case k6 => exact rfl); (case k8 => ktr_room); (case k9 => ktr_units); k_whole); intro t9 h9 tk9 F9 N9; (try dsimp only); (try k_fold))
  repeat' ((fail_if_success (with_reducible show wpAny _ _ (exec _ _) _ _ _)); first | (k_unfold; (try dsimp only)) | (k_end; wrow_close) | walk1 | (dsimp only; walk1) | (leave1; walk_say "STEP leave1"; try dsimp only) | fail "no step")
  rename Fr _ _ _ _ => F0
  rename News _ _ _ _ => N0
  refine midN_bind F0 N0 ?first ?rest
  case first =>
    k_steps
    all_goals first | exact ("" : Str) | exact (0 : Nat) | exact Value.none | skip
    · rename News _ _ _ _ => N5
      rename Fr _ _ _ _ => F5
      exact ⟨rfl, _, _, _, [1, 0, 5, 3], _, _, rfl, F5, fun p hp => N5 p (mem_h1 hp), .cons _ _ (.cons _ _ (.cons _ _ (.cons _ _ .nil))), by decide, by decide⟩
    · rename News _ _ _ _ => N5
      rename Fr _ _ _ _ => F5
      rename IntsAre _ (List.take _ _) => I5
      rename decide _ = false => d5
      exact ⟨rfl, _, _, _, _, _, _, rfl, F5, fun p hp => N5 p (mem_h1 hp), I5, (take_16 d5).1, (take_16 d5).2⟩
  case rest =>
    rintro f s' ⟨rfl, nl, vs, n, nums, h', tk, rfl, F1, N1, hi, hl1, hl16⟩
    (try dsimp only)
    (try k_fold)
    clear N0 F0
    repeat' ((fail_if_success (with_reducible show wpAny _ _ (exec (Stmt.While _ _ _ _) _) _ _ _)); first | (k_unfold; (try dsimp only)) | (k_end; wrow_close) | walk1 | (dsimp only; walk1) | (leave1; walk_say "STEP leave1"; try dsimp only) | fail "no step")
    all_goals first | exact ("" : Str) | exact (0 : Nat) | exact Value.none | skip
    k_with "measure" => ((have q := while_lt (by assumption) (by assumption) hl16); omega)
    k_with "state" => first | exact ⟨by decide, by decide⟩ | ((have q := while_lt (by assumption) (by assumption) hl16); omega)
    k_while (fun (_ : List Int) b => 0 ≤ b ∧ b ≤ 4) (fun (_ : List Int) b => (4 - b).toNat) "bits"
    repeat' ((fail_if_success (with_reducible show wpAny _ _ (exec (Stmt.Assign [PySem.Expr.Name (Str.ofString "size") _] _ _) _) _ _ _)); first | (k_unfold; (try dsimp only)) | (k_end; wrow_close) | walk1 | (dsimp only; walk1) | (leave1; walk_say "STEP leave1"; try dsimp only) | fail "no step")
    all_goals first | exact ("" : Str) | exact (0 : Nat) | exact Value.none | skip
    rename ¬ (_ < (_ : Int)) => kc
    rename _ ≤ (4 : Int) => kb2
    rename (0 : Int) ≤ _ => kb1
    obtain ⟨k, hkb⟩ := Int.eq_ofNat_of_zero_le kb1
    subst hkb
    rw [Int.toNat_natCast] at kc
    have hk4 : k ≤ 4 := by omega
    obtain ⟨z, hz⟩ : ∃ z : Nat, z = 2 ^ k := ⟨_, rfl⟩
    have hnl := not_lt_len kc hz
    have hz16 : z ≤ 16 := by
      rw [hz]
      exact Nat.le_trans (Nat.pow_le_pow_right (by decide) hk4) (by decide)
    clear kc kb1 kb2
    k_with "m call" =>
      first
      | ((with_reducible show wpAny _ _ (call (Value.ref 792) _) _ _ _); k_dflt (refine' c_shift1 _ _ k z _ _ hk4 hz _ _ _ _ _ _ _ _ _ _ _ _ _ _ _ _ _ _ _ _ _ _ ?k1 ?k2 ?k3 ?k4 ?k5 ?k6 ?k8 ?k9 ?_; (case k1 => k_asm); (case k2 => k_asm); (case k3 => k_asm); (case k4 => k_asm); (case k5 => k_asm); (case k6 => exact rfl); (case k8 => ktr_room); (case k9 => ktr_units); k_whole); intro t9 h9 tk9 F9 N9; (try dsimp only); (try k_fold))
    repeat' ((fail_if_success (with_reducible show wpAny _ _ (eval (PySem.Expr.ListComp _ _ _ _) _) _ _ _)); first | (k_unfold; (try dsimp only)) | (k_end; wrow_close) | walk1 | (dsimp only; walk1) | (leave1; walk_say "STEP leave1"; try dsimp only) | fail "no step")
    all_goals first | exact ("" : Str) | exact (0 : Nat) | exact Value.none | skip
    k_dflt (refine LCg.ListComp_U (F₀ := by k_asm) (by with_unfolding_all rfl) (by decide) (by rfl) (by decide) (by rfl) ?_)
    repeat' ((fail_if_success (with_reducible show LCg.CompSrc _ _ _ _ _ _ _ _ _ _ _ _ _ _)); first | (k_unfold; (try dsimp only)) | (k_end; wrow_close) | walk1 | (dsimp only; walk1) | (leave1; walk_say "STEP leave1"; try dsimp only) | fail "no step")
    all_goals first | exact ("" : Str) | exact (0 : Nat) | exact Value.none | skip
    k_dflt (refine' srcI_mk (fun x => Int.fmod x 3) rfl ?aF ?aN ?am hi ?asz ?aturn ?afin)
    case aF => k_asm
    case aN => k_asm
    case am => repeat (first | exact List.Mem.head _ | refine List.Mem.tail _ ?_)
    case asz => omega
    case aturn =>
      intro hp x t I oI C oC D m₂ ys h tk E' hx hC h1 F' N' off ne
      k_steps
      all_goals first | exact ("" : Str) | exact (0 : Nat) | exact Value.none | skip
      all_goals exact ⟨rfl, _, rfl⟩
    case afin =>
      intro hp ys hIy D h tk F N off
      k_whole
      have hml : (nums.map (fun x => Int.fmod x 3)).length = nums.length := List.length_map ..
      repeat' ((fail_if_success (with_reducible show wpAny _ _ (exec (Stmt.Assign [PySem.Expr.Name (Str.ofString "program") _] _ _) _) _ _ _)); first | (k_unfold; (try dsimp only)) | (k_end; wrow_close) | walk1 | (dsimp only; walk1) | (leave1; walk_say "STEP leave1"; try dsimp only) | fail "no step")
      all_goals first | exact ("" : Str) | exact (0 : Nat) | exact Value.none | skip
      rename IntsAre _ (_ ++ _) => hT
      obtain ⟨ht3, htl⟩ := tbl_ok hnl
      generalize nums.map (fun x => Int.fmod x 3) ++ (List.replicate ((z : Int) - (nums.length : Int)).toNat [(0 : Int)]).flatten = tN at hT ht3 htl
      have hz1 : 0 < z := by omega
      have hp62 := prog_62 (k := k) (tN := tN) hk4
      k_with "m call" =>
        first
        | ((with_reducible show wpAny _ _ (call (Value.ref 832) _) _ _ _); k_dflt (refine' c_prog _ k hk4 _ _ _ _ _ _ _ (List.Mem.head _) hT ht3 (htl.trans hz) rfl _ _ _ _ _ _ _ _ _ _ _ _ _ _ _ _ _ _ _ _ _ _ ?k1 ?k2 ?k3 ?k4 ?k5 ?k6 ?k8 ?k9 ?_; (case k1 => k_asm); (case k2 => k_asm); (case k3 => k_asm); (case k4 => k_asm); (case k5 => k_asm); (case k6 => exact rfl); (case k8 => ktr_room); (case k9 => ktr_units); k_whole); intro pl pV np h9 tk9 F9 N9 I9; (try dsimp only); (try k_fold))
        | ((with_reducible show wpAny _ _ (call (Value.ref 799) _) _ _ _); k_dflt (refine' c_mod _ _ _ _ _ _ (by omega) _ _ _ _ _ _ _ _ _ _ _ _ _ _ _ _ _ _ _ _ _ _ ?k1 ?k2 ?k3 ?k4 ?k5 ?k6 ?k8 ?k9 ?_; (case k1 => k_asm); (case k2 => k_asm); (case k3 => k_asm); (case k4 => k_asm); (case k5 => k_asm); (case k6 => exact rfl); (case k8 => ktr_room); (case k9 => ktr_units); k_whole); intro t9 h9 tk9 F9 N9; (try dsimp only); (try k_fold))
      repeat' ((fail_if_success (with_reducible show wpAny _ _ (eval (PySem.Expr.ListComp _ _ _ _) _) _ _ _)); first | (k_unfold; (try dsimp only)) | (k_end; wrow_close) | walk1 | (dsimp only; walk1) | (leave1; walk_say "STEP leave1"; try dsimp only) | fail "no step")
      all_goals first | exact ("" : Str) | exact (0 : Nat) | exact Value.none | skip
      k_dflt (refine LCg.ListComp_U (F₀ := by k_asm) (by with_unfolding_all rfl) (by decide) (by rfl) (by decide) (by rfl) ?_)
      repeat' ((fail_if_success (with_reducible show LCg.CompSrc _ _ _ _ _ _ _ _ _ _ _ _ _ _)); first | (k_unfold; (try dsimp only)) | (k_end; wrow_close) | walk1 | (dsimp only; walk1) | (leave1; walk_say "STEP leave1"; try dsimp only) | fail "no step")
      all_goals first | exact ("" : Str) | exact (0 : Nat) | exact Value.none | skip
      k_dflt (refine' srcI_mk (fun x => Int.fdiv x 3) rfl ?bF ?bN ?bm hi ?bsz ?bturn ?bfin)
      case bF => k_asm
      case bN => k_asm
      case bm => repeat (first | exact List.Mem.head _ | refine List.Mem.tail _ ?_)
      case bsz => omega
      case bturn =>
        intro hp x t I oI C oC D m₂ ys h tk E' hx hC h1 F' N' off ne
        k_steps
        all_goals first | exact ("" : Str) | exact (0 : Nat) | exact Value.none | skip
        all_goals exact ⟨rfl, _, rfl⟩
      case bfin =>
        intro hp ys hIz D h tk F N off
        k_whole
        repeat' ((fail_if_success (with_reducible show wpAny _ _ (exec (Stmt.For _ _ _ _ _) _) _ _ _)); first | (k_unfold; (try dsimp only)) | (k_end; wrow_close) | walk1 | (dsimp only; walk1) | (leave1; walk_say "STEP leave1"; try dsimp only) | fail "no step")
        all_goals first | exact ("" : Str) | exact (0 : Nat) | exact Value.none | skip
        rename Fr _ _ _ _ => FP
        have hp0 := Int.fmod_nonneg_of_pos (nums.map (fun x => Int.fdiv x 3)).sum (show (0 : Int) < (z : Int) by omega)
        have hp1 := Int.fmod_lt_of_pos (nums.map (fun x => Int.fdiv x 3)).sum (show (0 : Int) < (z : Int) by omega)
        generalize (nums.map (fun x => Int.fdiv x 3)).sum.fmod (z : Int) = pt at hp0 hp1 FP
        k_with "m call" =>
          first
          | ((with_reducible show wpAny _ _ (call (Value.ref 839) _) _ _ _); k_dflt (refine' c_laid _ _ _ _ _ _ _ _ ?km I9 (prog_64 hk4) hp62 _ _ _ _ _ _ _ _ _ _ _ _ _ _ _ _ _ _ _ _ _ _ ?k1 ?k2 ?k3 ?k4 ?k5 ?k6 ?k8 ?k9 ?_; (case k1 => k_asm); (case k2 => k_asm); (case k3 => k_asm); (case k4 => k_asm); (case k5 => k_asm); (case k6 => exact rfl); (case k8 => ktr_room); (case k9 => ktr_units); (case km => repeat (first | exact List.Mem.head _ | refine List.Mem.tail _ ?_)); k_whole); intro fl fV nf h9 tk9 lt9 F9 N9 I10; (try dsimp only); (try k_fold))
          | ((with_reducible show wpAny _ _ (call (Value.ref 849) _) _ _ _); k_dflt (refine' c_told2 _ _ _ _ _ _ _ _ ?km (by assumption) hk4 ht3 (htl.trans hz) (by omega) (by omega) _ _ _ _ _ _ _ _ _ _ _ _ _ _ rfl _ _ _ _ _ _ _ _ ?k1 ?k2 ?k3 ?k4 ?k5 ?k6 ?k8 ?k9 ?_; (case k1 => k_asm); (case k2 => k_asm); (case k3 => k_asm); (case k4 => k_asm); (case k5 => k_asm); (case k6 => exact rfl); (case k8 => ktr_room); (case k9 => ktr_units); (case km => repeat (first | exact List.Mem.head _ | refine List.Mem.tail _ ?_)); k_whole); intro rl t9 n9 h9 tk9 F9 N9; (try dsimp only); (try k_fold))
        k_steps
        all_goals first | exact ("" : Str) | exact (0 : Nat) | exact Value.none | skip)
end
end Mine
end
theorem PySem.Challenge.cw_op0202_01_holds : PySem.Challenge.rw_op0202_01.Holds :=
  Mine.lawT
