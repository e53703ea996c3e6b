import PyProof.Rows.All
import Wide.All
import OpenK.AllK
import Wide.FinOn
import Lean
import PySem.Challenge.RW_op0029_01
set_option Elab.async false

section
local macro_rules | `(tactic| walk_at $s:str) => `(tactic| k_extra $s)
section
open PySem PySem.W PyProof.Rows
set_option maxRecDepth 100000
set_option maxHeartbeats 8000000
namespace Mine
open_top hd for PySem.Challenge.rw_op0029_01
/-- open_top leaves the walk in the mode of a law's top: put it back -/
theorem mode_back : True := by
  w_top off
  trivial
end Mine
end
/- Base -/
section
open PySem PySem.W PyProof.Rows PySem.Calls PySem.Spec
set_option maxRecDepth 100000
namespace Mine

noncomputable def EndP (s : Shared) (P : Heap → Value → Prop) (v : Value) (s' : Shared) : Prop :=
  ∃ h' tk', s' = { s with heap := h', toks := tk' } ∧ s.heap.StaysIn h' ∧ P h' v

theorem EndP.intro {s : Shared} {P : Heap → Value → Prop} {v : Value} {h' : Heap} {tk' : Nat} {L' : Addr} {m' : Str → Option Value}
    (F : Fr s.heap L' h' m') (hp : P h' v) : EndP s P v { s with heap := h', toks := tk' } := ⟨h', tk', rfl, F.keep, hp⟩

/-- A pure callee's contract: it keeps everything that stood, and hands back what `post` says. -/
noncomputable def Contr (r : Nat) (w : World) (mean : ExcName → Option Value) (mg mb : Str → Option Value) (f : Addr) (vs : List Value) (kw : List (Str × Value)) (pre : Heap → Prop) (post : Heap → Value → Prop) : Prop :=
  ∀ (dp un : Nat) (gd : Option (List Code)) (cn : Str) (cs : Scope) (a : Addr) (ccd : Value) (cl : List (Str × Addr)) (outer : List Env) (A₀ : Around) (base h₀ : Heap) (L : Addr) (m : Str → Option Value) (s : Shared) (Q E : Value → Shared → Prop),
    Below A₀ base outer h₀ → Fr h₀ L s.heap m → (hd.heap_39 w.params).In h₀ → Top hd.view_39 (looseW hd.view_39 [Str.ofString "_filemode_table", Str.ofString "b2a_base64", Str.ofString "b64encode"]) mean mg mb h₀ → cs.kind = .function → dp + r < recursionLimit → un + 10 * r < cLine → pre s.heap →
    (∀ v h' tk', s.heap.StaysIn h' → post h' v → Q v { s with heap := h', toks := tk' }) →
    wpAny (model Challenge.rw_op0029_01.row.prog w) (ktrTop dp un gd cn cs L a ccd cl outer) (call (.ref f) vs kw) Q E s

section
variable {w : World} {A A₀ : Around} {s : Shared} {base h₀ : Heap} {outer : List Env} {L : Addr} {m : Str → Option Value} {K : Frag} {env : Env} {Q E : Value → Shared → Prop}
    {name qual : Str} {params : Arguments} {body : List Stmt} {scope : Scope} {dV kV doc pm cdv ct oc : Value} {an od : Option Addr} {osl : Array (Option Value)} {f : Addr} {args : List Value} {kw : List (Str × Value)} {binds : List (Str × Value)}
    {prog p : Program} {loose : List Str} {mean : ExcName → Option Value} {mg mb : Str → Option Value} {P : Heap → Value → Prop}

theorem enterP (B : Below A₀ base outer h₀) (F : Fr h₀ L s.heap m) (X₀ : K.In h₀) (T : Top p loose mean mg mb h₀)
    (hA : A.frames = some (env :: outer)) (hf : env.frame = some L) (hke : env.scope.kind = .function)
    (ho : K.lookup f = some ⟨oc, od, .func (fnOf name qual params body scope dV kV doc pm an cdv ct), osl⟩) (hcd : codeIn K cdv qual = true) (hroom : A.depth < recursionLimit)
    (hbind : BindsTo s (fnOf name qual params body scope dV kV doc pm an cdv ct) ⟨args, kw⟩ binds) (hloc : ∀ y ∈ binds, scope.names.lookup y.1 = some .local)
    (hq : ∀ v h' tk', s.heap.StaysIn h' → P h' v → Q v { s with heap := h', toks := tk' })
    (h : ∀ L' h₁, Fr s.heap L' h₁ (fun y => binds.reverse.lookup y) → News s.heap L' h₁ [] → Below A base (env :: outer) s.heap → K.In s.heap → Top p loose mean mg mb s.heap →
      wpAny (model prog w) (A.deeper (envOf qual scope L' f cdv)) (execs body (envOf qual scope L' f cdv))
        (fun fl s' => EndP s P (match fl with | .ret v => v | _ => .none) s') (fun _ _ => False)
        { s with heap := h₁, toks := s.toks + binds.length })
    (hco : scope.isCoroutine = false) (hgen : scope.isGenerator = false) (hk : scope.kind = .function)
    (hcell : ∀ x ∈ scope.names, x.2 ≠ .cell) : wpAny (model prog w) A (call (.ref f) args kw) Q E s := by
  refine wpAny_call ?_
  obtain ⟨FG, BG, st, _⟩ := groundX (news := []) (R := fun _ _ => True) B F News.nil hA hf hke
  have X := X₀.keeps F.keep
  refine codeAny_call_def (fd := fnOf name qual params body scope dV kV doc pm an cdv ct) (body := body) (binds := binds) hroom (X _ _ ho) rfl (T.nolimit.keeps F.keep) (codeRec_of X hcd) rfl hbind hcell hloc (fun h₁ hns hk₁ => ?_) hco hgen hk
  refine wpAny_mono (h s.heap.objs.size h₁ ⟨hns, hk₁, Nat.le_refl _⟩ News.nil BG X (T.keeps F.keep)) (fun fl s' hl => ?_) fun _ _ e => e.elim
  obtain ⟨h', tk', rfl, st', hp⟩ := hl
  exact hq _ h' tk' st' hp

theorem use {r dp un : Nat} {gd : Option (List Code)} {cn : Str} {cs : Scope} {a : Addr} {ccd : Value} {cl : List (Str × Addr)} {pre : Heap → Prop} {vs : List Value} {news : List (Addr × Obj)}
    (C : Contr r w mean mg mb f vs kw pre P) (B : Below A₀ base outer h₀) (F : Fr h₀ L s.heap m) (X₀ : (hd.heap_39 w.params).In h₀) (N : News h₀ L s.heap news)
    (T : Top hd.view_39 (looseW hd.view_39 [Str.ofString "_filemode_table", Str.ofString "b2a_base64", Str.ofString "b64encode"]) mean mg mb h₀) (hk : cs.kind = .function) (hd : dp + r < recursionLimit) (hu : un + 10 * r < cLine) (hp : pre s.heap)
    (h : ∀ v h' tk', Fr h₀ L h' m → News h₀ L h' news → s.heap.StaysIn h' → P h' v → Q v { s with heap := h', toks := tk' }) :
    wpAny (model Challenge.rw_op0029_01.row.prog w) (ktrTop dp un gd cn cs L a ccd cl outer) (call (.ref f) vs kw) Q E s :=
  C dp un gd cn cs a ccd cl outer A₀ base h₀ L m s Q E B F X₀ T hk hd hu hp fun v h' tk' st pv => h v h' tk' (F.keeps st) (fun q hq => ⟨st _ _ (N q hq).1, (N q hq).2⟩) st pv

theorem kst_self {m : Str → Option Value} {ps : List (Str × Value)} (h : ∀ p ∈ ps, m p.1 = some p.2) : m = kstB m ps := funext fun _ => (kstB_eq h fun _ => rfl).symm
theorem ex_int {x y : Int} {t : Tok} (e : x = y) : ∃ t', Value.int x t = Value.int y t' := ⟨t, by rw [e]⟩
end
theorem allc {α : Type} {P : α → Prop} {a : α} {l : List α} (h : P a) (t : ∀ p ∈ l, P p) : ∀ p ∈ a :: l, P p := List.forall_mem_cons.mpr ⟨h, t⟩
@[elab_as_elim] theorem memc {α : Type} {a : α} {l : List α} {P : α → Prop} {p : α} (hp : p ∈ a :: l) (h : P a) (t : ∀ p ∈ l, P p) : P p := allc h t p hp
theorem take1 {α : Type} {n : Nat} {l : List α} (h : l.length = n + 1) : ∃ a r, l = a :: r ∧ r.length = n := by
  cases l with
  | nil => cases h
  | cons a r => exact ⟨a, r, rfl, Nat.succ.inj h⟩
theorem list2r {α : Type} {n : Nat} {l : List α} (h : l.length = n + 2) : ∃ a b r, l = a :: b :: r ∧ r.length = n := by
  obtain ⟨a, r1, e1, h1⟩ := take1 h
  obtain ⟨b, r2, e2, h2⟩ := take1 h1
  exact ⟨a, b, r2, by rw [e1, e2], h2⟩
theorem list6r {α : Type} {n : Nat} {l : List α} (h : l.length = n + 6) : ∃ a b c d e f r, l = a :: b :: c :: d :: e :: f :: r ∧ r.length = n := by
  obtain ⟨a, b, r1, e1, h1⟩ := list2r (n := n + 4) h
  obtain ⟨c, d, r2, e2, h2⟩ := list2r (n := n + 2) h1
  obtain ⟨e, f, r3, e3, h3⟩ := list2r h2
  exact ⟨a, b, c, d, e, f, r3, by rw [e1, e2, e3], h3⟩
theorem list2 {α : Type} {l : List α} (h : l.length = 2) : ∃ a b, l = [a, b] := by
  obtain ⟨a, b, r, e, h⟩ := list2r (n := 0) h
  exact ⟨a, b, by rw [e, List.eq_nil_of_length_eq_zero h]⟩
theorem list4 {α : Type} {l : List α} (h : l.length = 4) : ∃ a b c d, l = [a, b, c, d] := by
  obtain ⟨a, b, r1, e1, h1⟩ := list2r (n := 2) h
  obtain ⟨c, d, e2⟩ := list2 h1
  exact ⟨a, b, c, d, by rw [e1, e2]⟩
theorem list6 {α : Type} {l : List α} (h : l.length = 6) : ∃ a b c d e f, l = [a, b, c, d, e, f] := by
  obtain ⟨a, b, c, d, e, f, r, e1, h1⟩ := list6r (n := 0) h
  exact ⟨a, b, c, d, e, f, by rw [e1, List.eq_nil_of_length_eq_zero h1]⟩
theorem list24 {α : Type} {l : List α} (h : l.length = 24) : ∃ a0 a1 a2 a3 a4 a5 a6 a7 a8 a9 b0 b1 b2 b3 b4 b5 b6 b7 b8 b9 c0 c1 c2 c3, l = [a0, a1, a2, a3, a4, a5, a6, a7, a8, a9, b0, b1, b2, b3, b4, b5, b6, b7, b8, b9, c0, c1, c2, c3] := by
  obtain ⟨a0, a1, a2, a3, a4, a5, r1, e1, h1⟩ := list6r (n := 18) h
  obtain ⟨a6, a7, a8, a9, b0, b1, r2, e2, h2⟩ := list6r (n := 12) h1
  obtain ⟨b2, b3, b4, b5, b6, b7, r3, e3, h3⟩ := list6r (n := 6) h2
  obtain ⟨b8, b9, c0, c1, c2, c3, e4⟩ := list6 h3
  exact ⟨a0, a1, a2, a3, a4, a5, a6, a7, a8, a9, b0, b1, b2, b3, b4, b5, b6, b7, b8, b9, c0, c1, c2, c3, by rw [e1, e2, e3, e4]⟩
theorem ltS {i n : Nat} (h : i < n + 1) : i < n ∨ i = n := Nat.lt_succ_iff_lt_or_eq.mp h
theorem lt6 {i : Nat} (h : i < 6) : i = 0 ∨ i = 1 ∨ i = 2 ∨ i = 3 ∨ i = 4 ∨ i = 5 := by
  rcases ltS h with h | h
  · rcases ltS h with h | h
    · rcases ltS h with h | h
      · rcases ltS h with h | h
        · rcases ltS h with h | h
          · exact .inl (Nat.lt_one_iff.mp h)
          · exact .inr (.inl h)
        · exact .inr (.inr (.inl h))
      · exact .inr (.inr (.inr (.inl h)))
    · exact .inr (.inr (.inr (.inr (.inl h))))
  · exact .inr (.inr (.inr (.inr (.inr h))))
theorem lt10 {i : Nat} (h : i < 10) : i = 0 ∨ i = 1 ∨ i = 2 ∨ i = 3 ∨ i = 4 ∨ i = 5 ∨ i = 6 ∨ i = 7 ∨ i = 8 ∨ i = 9 := by
  rcases ltS h with h | h
  · rcases ltS h with h | h
    · rcases ltS h with h | h
      · rcases ltS h with h | h
        · rcases lt6 h with h | h | h | h | h | h
          · exact .inl h
          · exact .inr (.inl h)
          · exact .inr (.inr (.inl h))
          · exact .inr (.inr (.inr (.inl h)))
          · exact .inr (.inr (.inr (.inr (.inl h))))
          · exact .inr (.inr (.inr (.inr (.inr (.inl h)))))
        · exact .inr (.inr (.inr (.inr (.inr (.inr (.inl h))))))
      · exact .inr (.inr (.inr (.inr (.inr (.inr (.inr (.inl h)))))))
    · exact .inr (.inr (.inr (.inr (.inr (.inr (.inr (.inr (.inl h))))))))
  · exact .inr (.inr (.inr (.inr (.inr (.inr (.inr (.inr (.inr h))))))))
theorem addL_ne (L : Nat) {i j : Nat} (h : i ≠ j) : @Ne Nat (L + i) (L + j) := fun e => h (Nat.add_left_cancel e)
theorem addL_lt {L x i j : Nat} (h : @LT.lt Nat _ (L + i) x) (hj : j ≤ i) : @LT.lt Nat _ (L + j) x := Nat.lt_of_le_of_lt (Nat.add_le_add_left hj L) h
theorem addL_above {L x i j : Nat} (h : @LT.lt Nat _ (L + i) x) (hj : j ≤ i) : @Ne Nat x (L + j) := Nat.ne_of_gt (addL_lt h hj)
theorem n10 (I : Nat) : @Ne Nat (I + 1) I := by omega
theorem n20 (I : Nat) : @Ne Nat (I + 2) I := by omega
theorem n30 (I : Nat) : @Ne Nat (I + 3) I := by omega
theorem n21 (I : Nat) : @Ne Nat (I + 2) (I + 1) := by omega
theorem n31 (I : Nat) : @Ne Nat (I + 3) (I + 1) := by omega
theorem n32 (I : Nat) : @Ne Nat (I + 3) (I + 2) := by omega
theorem newEnv_comp {M : Model} {A : Around} {E : Value → Shared → Prop} {s : Shared} {env : Env} {scope : Scope} {globals : Addr} {cl : List (Str × Addr)} {qual : Str} {Q : Env → Shared → Prop}
    (h : Q (newEnv scope s.heap.objs.size globals (cellsFrom (s.heap.objs.size + 1) scope.names cl) qual none .none (some env) builtinsNs) { s with heap := pushCells (s.heap.push { cls := .type "dict", data := .dict #[] }) scope.names }) :
    wpAny M A (newFunctionEnv scope globals cl [] qual none .none (some env)) Q E s := by
  simp only [newFunctionEnv, Option.isSome_some, if_true]
  refine wpAny_bind (wpAny_alloc ?_)
  refine wpAny_bind (wpAny_layCells _ (fun name kind cells => by cases hkc : kind == NameKind.cell <;> simp [hkc]) _ _ _ _ ?_)
  rw [show ({ s with heap := s.heap.push { cls := .type "dict", data := .dict #[] } } : Shared).heap.objs.size = s.heap.objs.size + 1 from Heap.size_push ..]
  exact wpAny_bind (wpAny_pure (wpAny_pure h))
end Mine
end

/- Bits -/
section
open PySem PySem.W PyProof.Rows PySem.Calls PySem.Spec
set_option maxRecDepth 100000
set_option linter.all false
namespace Mine
theorem and_shl8 (n m : Nat) (h : m < 256) : (n * 256) &&& m = 0 := by
  apply Nat.eq_of_testBit_eq
  intro i
  rw [Nat.testBit_and, Nat.zero_testBit, show n * 256 = 2 ^ 8 * n by omega, Nat.testBit_two_pow_mul]
  by_cases hi : 8 ≤ i
  · have : m.testBit i = false := Nat.testBit_lt_two_pow (Nat.lt_of_lt_of_le h (Nat.pow_le_pow_right (n := 2) (Nat.le_succ 1) hi))
    simp [this]
  · simp [hi]
theorem bitOr_shl8 {a b : Int} (ha : 0 ≤ a) (h0 : 0 ≤ b) (h1 : b < 256) : Builtin.bitOr (a * 256) b = a * 256 + b := by
  rw [bitOr_and]
  have e : Builtin.bitAnd (a * 256) b = ((((a * 256).toNat &&& b.toNat : Nat)) : Int) := by
    show Spec.bitAnd _ _ = _
    unfold Spec.bitAnd
    rw [decide_eq_true (show 0 ≤ a * 256 by omega), decide_eq_true h0]
  rw [e, show (a * 256).toNat = a.toNat * 256 by omega, and_shl8 _ _ (by omega)]
  simp
section
variable {prog : Program} {w : World} {A : Around} {E : Value → Shared → Prop} {s : Shared} {a b c n k x : Int} {t u : Tok} {Q : Value → Shared → Prop}
theorem r_shl8 (hn : n = 8) (h0 : 0 ≤ a) (h1 : a < 65536) (h : ∀ r, r = a * 256 → Q (.int r s.toks) { s with toks := s.toks + 1 }) : wpAny (model prog w) A (binaryOp .LShift (.int a t) (.int n u)) Q E s := by
  subst hn
  refine lshift_int (by decide) ?_ (h _ rfl)
  have : Builtin.Int.intBits a ≤ 16 := intBits_le_iff.mpr (by omega)
  omega
theorem r_or8 (hc : c = a * 256) (h0 : 0 ≤ a) (hb0 : 0 ≤ b) (hb1 : b < 256) (h : ∀ r, r = c + b → Q (.int r s.toks) { s with toks := s.toks + 1 }) : wpAny (model prog w) A (binaryOp .BitOr (.int c t) (.int b u)) Q E s :=
  or_int (h _ (by rw [hc]; exact bitOr_shl8 h0 hb0 hb1))
theorem r_mask16 (hk : k = 65535) (h : ∀ r, r = x % 65536 → 0 ≤ r → r < 65536 → Q (.int r s.toks) { s with toks := s.toks + 1 }) : wpAny (model prog w) A (binaryOp .BitAnd (.int x t) (.int k u)) Q E s :=
  and_int (h _ (by rw [hk]; exact bitAnd_m16 x) (by rw [hk, bitAnd_m16]; omega) (by rw [hk, bitAnd_m16]; omega))
theorem r_mask6 (hk : k = 63) (h : ∀ r, r = x % 64 → 0 ≤ r → r < 64 → Q (.int r s.toks) { s with toks := s.toks + 1 }) : wpAny (model prog w) A (binaryOp .BitAnd (.int x t) (.int k u)) Q E s :=
  and_int (h _ (by rw [hk]; exact bitAnd_m6 x) (by rw [hk, bitAnd_m6]; omega) (by rw [hk, bitAnd_m6]; omega))
theorem r_shr (j : Nat) (d : Int) (hd : (2 : Int) ^ j = d) (hn : n = j) (h : ∀ r, r = x / d → Q (.int r s.toks) { s with toks := s.toks + 1 }) : wpAny (model prog w) A (binaryOp .RShift (.int x t) (.int n u)) Q E s := by
  subst hn
  refine rshift_int (by omega) (h _ ?_)
  rw [Int.toNat_natCast, Int.fdiv_eq_ediv_of_nonneg _ (by rw [hd, ← hd]; exact Int.le_of_lt (Int.pow_pos (by decide))), hd]
end
end Mine
end

/- EnumT -/
section
open PySem PySem.W PyProof.Rows PySem.Calls PySem.Spec
set_option maxRecDepth 100000
set_option linter.all false
namespace Mine
section
variable {prog : Program} {w : World} {A : Around} {E : Value → Shared → Prop} {s : Shared}
theorem nextOf_tup_item {it t : Addr} {i : Nat} {items : Array Value} {x : Value} {Q : Value → Shared → Prop} (hit : s.heap.IsTupleIter it t i) (ht : s.heap.IsTuple t items) (hx : items[i]? = some x)
    (hQ : ∀ h', h'.IsTupleIter it t (i + 1) → Heap.SameBut it s.heap h' → Q x { s with heap := h' }) :
    wpAny (model prog w) A (Builtin.SmallTypes.nextOf (.ref it)) Q E s := by
  obtain ⟨o, ho, hc, hd⟩ := id hit
  obtain ⟨ol, hol, _, nl, hdl⟩ := ht
  unfold Builtin.SmallTypes.nextOf
  refine wpAny_bind (wpAny_callSpecial?_slot (name := Str.ofString "__next__") hit.typeIs F.slot_tuple_iterator_next
    (wpAny_call_entry F.slot_tuple_iterator_next hit.typeIs F.entry_tuple_iterator_next ?_ (F.args_tuple_iterator_next_1 _)))
  show wpAny _ _ (field (.ref it) 0 >>= _) _ _ s
  refine wpAny_bind (wpAny_field ho hd (x := .ref t) rfl ?_)
  show wpAny _ _ (if (Value.ref t == Value.none) = true then _ else _) _ _ s
  rw [if_neg (show ¬ ((Value.ref t == Value.none) = true) from Bool.false_ne_true)]
  show wpAny _ _ (field (.ref it) 1 >>= _) _ _ s
  refine wpAny_bind (wpAny_field ho hd (x := .int i 0) rfl ?_)
  show wpAny _ _ (seqItems? (.ref t) >>= _) _ _ s
  refine wpAny_bind (wpAny_seqItems hol hdl ?_)
  simp only [Int.toNat_natCast, hx]
  refine wpAny_bind (wpAny_setField ho hd (by simp) (wpAny_pure ⟨x, rfl, wpAny_pure (hQ _ ?_ (Heap.SameBut.update ..))⟩))
  exact ⟨_, Heap.get?_update_self _ ho (Obj.isFreed_of_fields (Obj.data_mapFields hd _)), (Obj.cls_mapFields ..).trans hc, by
    rw [Obj.data_mapFields hd]; simp [rawInt]⟩
theorem nextOf_tup_end {it t : Addr} {i : Nat} {items : Array Value} {Q : Value → Shared → Prop} (hh : A.handled = none)
    (hit : s.heap.IsTupleIter it t i) (ht : s.heap.IsTuple t items) (hx : items[i]? = none)
    (hE : ∀ h' e, Heap.ExtBut it s.heap h' → (∃ o, h'.get? e = some o ∧ o.cls = .type "StopIteration") → E (.ref e) { s with heap := h' }) :
    wpAny (model prog w) A (Builtin.SmallTypes.nextOf (.ref it)) Q E s := by
  obtain ⟨o, ho, hc, hd⟩ := id hit
  obtain ⟨ol, hol, _, nl, hdl⟩ := ht
  unfold Builtin.SmallTypes.nextOf
  refine wpAny_bind (wpAny_callSpecial?_slot (name := Str.ofString "__next__") hit.typeIs F.slot_tuple_iterator_next
    (wpAny_call_entry F.slot_tuple_iterator_next hit.typeIs F.entry_tuple_iterator_next ?_ (F.args_tuple_iterator_next_1 _)))
  show wpAny _ _ (field (.ref it) 0 >>= _) _ _ s
  refine wpAny_bind (wpAny_field ho hd (x := .ref t) rfl ?_)
  show wpAny _ _ (if (Value.ref t == Value.none) = true then _ else _) _ _ s
  rw [if_neg (show ¬ ((Value.ref t == Value.none) = true) from Bool.false_ne_true)]
  show wpAny _ _ (field (.ref it) 1 >>= _) _ _ s
  refine wpAny_bind (wpAny_field ho hd (x := .int i 0) rfl ?_)
  show wpAny _ _ (seqItems? (.ref t) >>= _) _ _ s
  refine wpAny_bind (wpAny_seqItems hol hdl ?_)
  simp only [Int.toNat_natCast, hx]
  refine wpAny_bind (wpAny_rule (wpAny_bind (wpAny_setField ho hd (by simp) ?_)))
  show wpAny _ _ (newExc (.type "StopIteration") [] >>= _) _ _ _
  refine wpAny_bind ?_
  simp only [newExc, newTuple]
  refine wpAny_bind (wpAny_newObj_type ?_ (by size_fits))
  refine wpAny_bind (m := firstArgMember _ _) (wpAny_of_eq (a := Value.none) (by first | rfl | (simp only [firstArgMember]; rfl)) ?_)
  refine wpAny_newObj_type ?_ (by size_fits)
  simp only [raiseNew]
  refine wpAny_bind (wpAny_handled ?_)
  first | rw [show A.in1.handled = none from hh] | rw [hh]
  refine wpAny_bind (wpAny_pure (wpAny_throw ?_))
  exact hE _ _ (((Heap.SameBut.update ..).extBut.push _).push _) ⟨_, Heap.get?_push_size _ rfl, rfl⟩
end
theorem drawsTup {prog : Program} {w : World} {A : Around} (hh : A.handled = none) (it l : Addr) (hne : l ≠ it) (items : Array Value) :
    Draws prog w A it [it, l] items.size (fun i v => items[i]? = some v) (fun i h => h.IsTupleIter it l i ∧ h.IsTuple l items) where
  live := fun _ _ st => let ⟨o, ho, _⟩ := st.1; ⟨o, ho⟩
  frame := fun _ _ _ st hk => ⟨let ⟨o, ho, r⟩ := st.1; ⟨o, hk it (by simp) o ho, r⟩, let ⟨o, ho, r⟩ := st.2; ⟨o, hk l (by simp) o ho, r⟩⟩
  item := fun i s Q E hi st hQ => by
    refine nextOf_tup_item st.1 st.2 (x := items[i]) (by simp [hi]) fun h' hit' hs' => ?_
    exact hQ _ h' s.toks (by simp [hi]) ⟨hit', st.2.extBut hs'.extBut hne⟩ hs'
  done := fun s Q E st hE => nextOf_tup_end hh st.1 st.2 (by simp) hE

open AutoSeq1 (wpAny_loadPart') in
theorem meets_enum_newT (l : Addr) (items : Array Value) (n : Nat) (dct : Option Addr) (sl : Array (Option Value)) :
    Meets (Builtin.«enumerate.__new__» ⟨[.type "enumerate", .ref l], []⟩) (fun _ R s => s.heap.get? l = some { cls := .type "tuple", dict := dct, data := .seq items n, slots := sl } ∧
      R (.ok (.ret (.ref (s.heap.push { cls := .type "tuple_iterator", data := .fields #[.ref l, .int 0 0] }).objs.size)))
        { s with heap := (s.heap.push { cls := .type "tuple_iterator", data := .fields #[.ref l, .int 0 0] }).push { cls := .type "enumerate", data := .fields #[.none, .bool false, .ref s.heap.objs.size, rawInt 0, .none, .none] } }) :=
  .of_wp fun prog w A R s h => by
    obtain ⟨hp, g, d, tk, os⟩ := s; obtain ⟨hl, h⟩ := h
    have hsub := sub_enumerate
    have hL : Heap.IsTuple (Shared.heap ⟨hp, g, d, tk, os⟩) l items := ⟨_, hl, rfl, n, rfl⟩
    wp_walk using wpAny_loadPart' hl
    refine wpAny_stack_any fun st => wpAny_pure ?_
    split
    · rename_i c _ _ _ _ _
      cases (c == Value.type "enumerate")
      · wp_walk using wpAny_loadPart' hl, wpAny_pyIter_tuple hL
        exact ⟨_, rfl, h⟩
      · wp_walk using wpAny_loadPart' hl, wpAny_pyIter_tuple hL
        exact ⟨_, rfl, h⟩
    · wp_walk using wpAny_loadPart' hl, wpAny_pyIter_tuple hL
      exact ⟨_, rfl, h⟩
theorem call_enumT {prog : Program} {w : World} {A : Around} {E : Value → Shared → Prop} {s : Shared} {l : Addr} {items : Array Value} {Q : Value → Shared → Prop} (hL : s.heap.IsTuple l items)
    (h : ∀ h', IsEnum h' (s.heap.objs.size + 1) s.heap.objs.size 0 .none → h'.IsTupleIter s.heap.objs.size l 0 → h'.objs.size = s.heap.objs.size + 2 →
      (∀ b o, s.heap.get? b = some o → h'.get? b = some o) → Q (.ref (s.heap.objs.size + 1)) { s with heap := h' }) :
    wpAny (model prog w) A (call (.type "enumerate") [.ref l]) Q E s := by
  obtain ⟨⟨c, dct, dt, sl⟩, hl, hc, n, hd⟩ := hL
  replace hc : c = .type "tuple" := hc
  replace hd : dt = .seq items n := hd
  subst hc hd
  refine callType_new F.called_enumerate (by decide) (F.typeCall_enumerate_1 _) (F.newCall_enumerate_1 _) (fun obj => F.args_object_init_2 obj _) F.entry_enumerate_new
    (meets_enum_newT l items n dct sl) ⟨hl, ?_⟩
  have hz : (s.heap.push { cls := .type "tuple_iterator", data := .fields #[.ref l, .int 0 0] }).objs.size = s.heap.objs.size + 1 := Heap.size_push ..
  show _ ∧ _
  rw [hz]
  have he : IsEnum ((s.heap.push { cls := .type "tuple_iterator", data := .fields #[.ref l, .int 0 0] }).push
      { cls := .type "enumerate", data := .fields #[.none, .bool false, .ref s.heap.objs.size, rawInt 0, .none, .none] }) (s.heap.objs.size + 1) s.heap.objs.size 0 .none := by
    have := Heap.get?_push_size (s.heap.push { cls := .type "tuple_iterator", data := .fields #[.ref l, .int 0 0] })
      (o := { cls := .type "enumerate", data := .fields #[.none, .bool false, .ref s.heap.objs.size, rawInt 0, .none, .none] }) rfl
    rw [hz] at this; exact this
  refine ⟨⟨_, he, rfl⟩, h _ he ⟨_, Heap.get?_push_of_some _ (Heap.get?_push_size _ rfl), rfl, rfl⟩ (by rw [Heap.size_push, hz]) fun b o x => Heap.get?_push_of_some _ (Heap.get?_push_of_some _ x)⟩
end Mine
namespace Mine
section
variable {prog : Program} {w : World} {A : Around} {E : Value → Shared → Prop} {s : Shared} {env : Env} {h₀ : Heap} {xi xc : Str} {body : List Stmt} {Q : Flow → Shared → Prop}
/-- what a turn of the outer loop must end in: the one ledger entry replaced -/
noncomputable def TurnEnd (h₀ : Heap) (L : Addr) (own : List (Addr × Obj)) (adr : List Addr) (Jn : (Str → Option Value) → List (Addr × Obj) → Prop) (s₁ : Shared) (f : Flow) (s₂ : Shared) : Prop :=
  f = .next ∧ ∃ h' tk m₂ news₂, s₂ = { s₁ with heap := h', toks := tk } ∧ Fr h₀ L h' m₂ ∧ News h₀ L h' (news₂ ++ own) ∧ news₂.map (·.1) = adr ∧ Jn m₂ news₂
theorem enum_loop {items : Array Value} {l : Addr} {m : Str → Option Value} {news : List (Addr × Obj)} (J : Nat → (Str → Option Value) → List (Addr × Obj) → Prop)
    (hh : A.handled = none) (hl : h₀.IsTuple l items) (F : Fr h₀ env.locals s.heap m) (N : News h₀ env.locals s.heap news) (h0 : J 0 m news)
    (turn : ∀ i x t m₁ news₁ h tk own, items[i]? = some x → J i m₁ news₁ → news₁.map (·.1) = news.map (·.1) → OwnOff own (news.map (·.1)) →
      Fr h₀ env.locals h (fun y => if y = xc then some x else if y = xi then some (.int (i : Int) t) else m₁ y) → News h₀ env.locals h (news₁ ++ own) →
      wpAny (model prog w) A (execs body env) (TurnEnd h₀ env.locals own (news.map (·.1)) (J (i + 1)) { s with heap := h, toks := tk }) E { s with heap := h, toks := tk })
    (done : ∀ h' tk m' news', Fr h₀ env.locals h' m' → News h₀ env.locals h' news' → J items.size m' news' → Q .next { s with heap := h', toks := tk }) :
    wpAny (model prog w) A (call (.type "enumerate") [.ref l]) (fun xv s₁ => wpAny (model prog w) A (pyIter xv) (fun it s₂ => PairAt3 prog w A h₀ env xi xc body Q E it s₂) E s₁) E s := by
  have hls : s.heap.IsTuple l items := let ⟨o, ho, r⟩ := hl; ⟨o, F.keep l o ho, r⟩
  obtain ⟨ol, hol, _⟩ := id hl
  have hlt : l < h₀.objs.size := Heap.lt_size hol
  have hLs : env.locals < s.heap.objs.size := F.ns.lt
  have hab : h₀.objs.size ≤ env.locals := F.above
  refine call_enumT hls fun h' he hit hsz hk => ?_
  have F' : Fr h₀ env.locals h' m := ⟨F.ns.keeps hk, fun b o e => hk b o (F.keep b o e), F.above⟩
  have N' : News h₀ env.locals h' news := fun p hp => ⟨hk _ _ (N p hp).1, (N p hp).2⟩
  have hl2 : l < s.heap.objs.size := Nat.lt_trans (Nat.lt_of_lt_of_le hlt hab) hLs
  refine wpAny_pyIter_enum he ?_
  have hn1 : h₀.get? (s.heap.objs.size + 1) = none := Heap.get?_none_of_le (Nat.le_trans hab (Nat.le_of_lt (Nat.lt_succ_of_lt hLs)))
  have hn0 : h₀.get? s.heap.objs.size = none := Heap.get?_none_of_le (Nat.le_trans hab (Nat.le_of_lt hLs))
  have W := WalksT.enumerateD (drawsTup (prog := prog) (w := w) (A := A.in1) hh s.heap.objs.size l (Nat.ne_of_lt hl2) items) (s.heap.objs.size + 1) (Nat.succ_ne_self _) (by
    intro hm
    rcases List.mem_cons.mp hm with e | hm
    · exact Nat.succ_ne_self _ e
    · exact Nat.ne_of_gt (Nat.lt_succ_of_lt hl2) (List.mem_singleton.mp hm)) (by simp)
  have hfn : ∀ b ∈ [s.heap.objs.size + 1, s.heap.objs.size, l], ∀ q ∈ news, b ≠ q.1 := by
    intro b hb q hq e
    have hq1 : q.1 < s.heap.objs.size := Heap.lt_size (N q hq).1
    rcases List.mem_cons.mp hb with e1 | hb
    · exact Nat.ne_of_gt (Nat.lt_succ_of_lt hq1) (e1.symm.trans e)
    · rcases List.mem_cons.mp hb with e1 | hb
      · exact Nat.ne_of_gt hq1 (e1.symm.trans e)
      · have e2 := List.mem_singleton.mp hb
        have hn := (N q hq).2.2
        rw [← e, e2, hol] at hn
        cases hn
  refine ⟨_, _, _, items.size, _, _, _, (fun i v0 v1 => ∃ t, v0 = .int (i : Int) t ∧ items[i]? = some v1), m, news, J, rfl, W, ?_, ?_, ?_, ?_, ⟨⟨_, by simpa using he⟩, hit, let ⟨o, ho, r⟩ := hls; ⟨o, hk l o ho, r⟩⟩, F', N', h0, ?_, ?_⟩
  · rintro i vals ⟨t, x, hPx, rfl⟩
    exact ⟨_, _, rfl, t, rfl, hPx⟩
  · intro hm
    rcases List.mem_cons.mp hm with e | hm
    · exact Nat.ne_of_lt (Nat.lt_succ_of_lt hLs) e
    · rcases List.mem_cons.mp hm with e | hm
      · exact Nat.ne_of_lt hLs e
      · exact Nat.ne_of_gt (Nat.lt_of_lt_of_le hlt hab) (List.mem_singleton.mp hm)
  · intro b hb
    rcases List.mem_cons.mp hb with rfl | hb
    · exact hn1
    · rw [List.mem_singleton.mp hb]; exact hn0
  · intro p hp hb
    rcases List.mem_cons.mp hb with e1 | hb
    · exact hfn _ (by simp) p hp e1.symm
    · exact hfn _ (by simp) p hp (List.mem_singleton.mp hb).symm
  · rintro i v0 v1 m₁ news₁ s₁ own ⟨hh', tk', rfl⟩ _ ⟨t, rfl, hPx⟩ hJ ha hsub F₁ N₁
    have hoff : OwnOff own (news.map (·.1)) := by
      intro p hp b hb e
      obtain ⟨q, hq, rfl⟩ := List.mem_map.mp hb
      exact hfn _ (hsub p hp) q hq e
    have N₂ : News h₀ env.locals hh' (news₁ ++ own) := fun p hp => N₁ p ((List.mem_append.mp hp).elim (fun h => List.mem_append.mpr (.inr h)) fun h => List.mem_append.mpr (.inl h))
    refine wpAny_mono (turn i v1 t m₁ news₁ hh' tk' own hPx hJ ha hoff F₁ N₂) (fun f s₂ p => ?_) fun _ _ e => e
    obtain ⟨rfl, h₂, tk₂, m₂, news₂, rfl, F₂, N₃, ha₂, hJ₂⟩ := p
    exact ⟨rfl, h₂, tk₂, m₂, news₂, rfl, F₂, fun p hp => N₃ p ((List.mem_append.mp hp).elim (fun h => List.mem_append.mpr (.inr h)) fun h => List.mem_append.mpr (.inl h)), ha₂.trans ha.symm, hJ₂⟩
  · rintro h₂ tk m' news' F₂ N₂ _ hJ
    exact done h₂ tk m' news' F₂ N₂ hJ
end
end Mine
end

/- ForElse -/
section
open PySem PySem.W PyProof.Rows PySem.Calls PySem.Spec
set_option maxRecDepth 100000
set_option linter.all false
namespace Mine
/-- the turns that are left of a for with an else, over a tuple of the base -/
noncomputable def ElseRest (prog : Program) (w : World) (A : Around) (E : Value → Shared → Prop) (h₀ : Heap) (env : Env) (target : PySem.Expr) (body orelse : List Stmt) (Q : Flow → Shared → Prop) (s : Shared) (I : Addr) :
    List Value → (Str → Option Value) → List (Addr × Obj) → Prop
  | [], m, news => ∀ h tk, Fr h₀ env.locals h m → News h₀ env.locals h news → wpAny (model prog w) A (execs orelse env) Q E { s with heap := h, toks := tk }
  | v :: r, m, news => ∀ (it : Obj) h tk, Fr h₀ env.locals h m → News h₀ env.locals h ((I, it) :: news) →
      wpAny (model prog w) A (assign target env v) (fun _ s₂ => wpAny (model prog w) A (execs body env)
        (UnrPost h₀ env.locals { s with heap := h, toks := tk } I it (ElseRest prog w A E h₀ env target body orelse Q s I r) Q) E s₂) E { s with heap := h, toks := tk }
section
variable {prog : Program} {w : World} {A : Around} {E : Value → Shared → Prop} {s : Shared} {env : Env} {h₀ : Heap} {target : PySem.Expr} {body orelse : List Stmt} {Q : Flow → Shared → Prop}
theorem ElseRest.nil {I : Addr} {m : Str → Option Value} {news : List (Addr × Obj)} (h : ∀ h tk, Fr h₀ env.locals h m → News h₀ env.locals h news → wpAny (model prog w) A (execs orelse env) Q E { s with heap := h, toks := tk }) :
    ElseRest prog w A E h₀ env target body orelse Q s I [] m news := h
theorem ElseRest.cons {I : Addr} {v : Value} {r : List Value} {m : Str → Option Value} {news : List (Addr × Obj)} (h : ∀ (it : Obj) h tk, Fr h₀ env.locals h m → News h₀ env.locals h ((I, it) :: news) →
      wpAny (model prog w) A (assign target env v) (fun _ s₂ => wpAny (model prog w) A (execs body env)
        (UnrPost h₀ env.locals { s with heap := h, toks := tk } I it (ElseRest prog w A E h₀ env target body orelse Q s I r) Q) E s₂) E { s with heap := h, toks := tk }) :
    ElseRest prog w A E h₀ env target body orelse Q s I (v :: r) m news := h
inductive ElseAt (prog : Program) (w : World) (A : Around) (E : Value → Shared → Prop) (h₀ : Heap) (env : Env) (target : PySem.Expr) (body orelse : List Stmt) (Q : Flow → Shared → Prop) (xv : Value) (s₁ : Shared) : Prop
  | mk (t : Addr) (items : List Value) (m : Str → Option Value) (news : List (Addr × Obj)) (e : xv = .ref t) (ht : h₀.IsTuple t items.toArray) (hh : A.handled = none) (F : Fr h₀ env.locals s₁.heap m) (N : News h₀ env.locals s₁.heap news)
    (rest : ∀ (s₂ : Shared), (∃ h, s₂ = { s₁ with heap := h }) → ∀ I : Addr, (∀ p ∈ news, p.1 < I) → ElseRest prog w A E h₀ env target body orelse Q s₂ I items m news) : ElseAt prog w A E h₀ env target body orelse Q xv s₁
inductive ElseInv (prog : Program) (w : World) (A : Around) (E : Value → Shared → Prop) (h₀ : Heap) (env : Env) (target : PySem.Expr) (body orelse : List Stmt) (Q : Flow → Shared → Prop) (s₁ : Shared) (t : Addr) (items : List Value) (I : Addr) (k : Nat) (s' : Shared) : Prop
  | mk (h' : Heap) (tk : Nat) (m' : Str → Option Value) (news' : List (Addr × Obj)) (i : Nat) (e : s' = { s₁ with heap := h', toks := tk }) (hit : h'.IsTupleIter I t i) (F : Fr h₀ env.locals h' m') (N : News h₀ env.locals h' news') (off : ∀ p ∈ news', p.1 ≠ I)
    (R : ElseRest prog w A E h₀ env target body orelse Q s₁ I (items.drop i) m' news') (hi : i ≤ items.length) (hk : k = items.length + 1 - i) : ElseInv prog w A E h₀ env target body orelse Q s₁ t items I k s'
theorem ElseAt.intro {t : Addr} {items : List Value} {m : Str → Option Value} {news : List (Addr × Obj)} {s₁ : Shared} (ht : h₀.IsTuple t items.toArray) (hh : A.handled = none) (F : Fr h₀ env.locals s₁.heap m) (N : News h₀ env.locals s₁.heap news)
    (h : ∀ h' I, (∀ p ∈ news, p.1 < I) → ElseRest prog w A E h₀ env target body orelse Q { s₁ with heap := h' } I items m news) : ElseAt prog w A E h₀ env target body orelse Q (.ref t) s₁ :=
  ⟨t, items, m, news, rfl, ht, hh, F, N, fun s₂ ⟨h', e⟩ I hI => e ▸ h h' I hI⟩
theorem For_else {iter : PySem.Expr} {pos : Pos} (h : wpAny (model prog w) A (eval iter env) (ElseAt prog w A E h₀ env target body orelse Q) E s)
    (hs : ∀ x, foldedSetIterable iter env x = pure x := by intro _; rfl)
    (hE : PassesOwn (model prog w) A env E := by passes_own) :
    wpAny (model prog w) A (exec (.For target iter body orelse pos) env) Q E s := by
  refine wpAny_For (wpAny_mono h (fun xv s₁ h₁ => ?_) fun _ _ e => e) hs
  obtain ⟨t, items, m, news, rfl, ht, hh, F, N, rest⟩ := h₁
  have hts : s₁.heap.IsTuple t items.toArray := let ⟨o, ho, r⟩ := ht; ⟨o, F.keep t o ho, r⟩
  refine wpAny_pyIter_tuple hts ?_
  have hnew : h₀.get? s₁.heap.objs.size = none := next_is_new F
  have hLI : env.locals ≠ s₁.heap.objs.size := Nat.ne_of_lt F.ns.lt
  have htI : t ≠ s₁.heap.objs.size := by obtain ⟨o, ho, _⟩ := hts; exact Nat.ne_of_lt (Heap.lt_size ho)
  refine codeAny_forLoop_any (R := fun r s' => match r with | .ok f => Q f s' | .error e => cameBackBy (model prog w) A env E e s')
    (ElseInv prog w A E h₀ env target body orelse Q s₁ t items s₁.heap.objs.size) ?_ (items.length + 1)
    ⟨_, s₁.toks, m, news, 0, rfl, ⟨_, Heap.get?_push_size _ rfl, rfl, rfl⟩, F.push _, (fun p hp => ⟨Heap.get?_push_of_some _ (N p hp).1, (N p hp).2⟩), (fun p hp => Nat.ne_of_lt (Heap.lt_size (N p hp).1)), ?_, Nat.zero_le _, rfl⟩
  · rintro k s' ⟨h', tk, m', news', i, rfl, hit, F', N', off, R', hi, rfl⟩
    have ht' : h'.IsTuple t items.toArray := let ⟨o, ho, r⟩ := ht; ⟨o, F'.keep t o ho, r⟩
    by_cases hlt : i < items.length
    · refine wpAny_pyNext_tuple_item hit ht' (x := items[i]) (by simp [hlt]) fun h₁ hit₁ hs₁ => ?_
      refine letGo_tupleiter hit₁ ?_
      rw [List.drop_eq_getElem_cons hlt] at R'
      obtain ⟨it, heI, hic, hid⟩ := id hit₁
      have F₁ : Fr h₀ env.locals h₁ m' := F'.change hs₁ (Ne.symm hLI) hnew
      have N₁ : News h₀ env.locals h₁ ((s₁.heap.objs.size, it) :: news') := fun p hp => by
        rcases List.mem_cons.mp hp with rfl | hp
        · exact ⟨heI, Ne.symm hLI, hnew⟩
        · exact ⟨hs₁.extBut _ _ (off p hp) (N' p hp).1, (N' p hp).2⟩
      refine wpAny_mono (R' it h₁ tk F₁ N₁) (fun _ s₂ h₂ => wpAny_passesOwn hE (wpAny_mono h₂ (fun f s₃ h₃ => ?_) fun _ _ e => e)) hE
      have fin : UnrEnd h₀ env.locals { s₁ with heap := h₁, toks := tk } s₁.heap.objs.size it (ElseRest prog w A E h₀ env target body orelse Q s₁ s₁.heap.objs.size (items.drop (i + 1))) s₃ →
          ∃ k', k' < items.length + 1 - i ∧ ElseInv prog w A E h₀ env target body orelse Q s₁ t items s₁.heap.objs.size k' s₃ := by
        rintro ⟨h₂, tk₂, m₂, news₂, rfl, F₂, N₂, off₂, R₂⟩
        exact ⟨items.length + 1 - (i + 1), by omega, h₂, tk₂, m₂, news₂, i + 1, rfl, ⟨it, (N₂ _ (List.mem_cons_self ..)).1, hic, hid⟩, F₂, fun p hp => N₂ p (List.mem_cons_of_mem _ hp), off₂, R₂, hlt, rfl⟩
      cases f with
      | ret v => exact h₃
      | brk => exact h₃
      | next => exact fin h₃
      | cont => exact fin h₃
    · have hin : i = items.length := by omega
      subst hin
      rw [List.drop_length] at R'
      refine wpAny_pyNext_tuple_end hh hit ht' (by simp) fun h₁ he₁ => ?_
      refine wpAny_passesOwn hE (R' h₁ tk ⟨F'.ns.extBut he₁ hLI, fun b o e => he₁ b o (fun q => by rw [q, hnew] at e; cases e) (F'.keep b o e), F'.above⟩ (fun p hp => ⟨he₁ _ _ (off p hp) (N' p hp).1, (N' p hp).2⟩))
  · rw [List.drop_zero]
    exact rest s₁ ⟨_, rfl⟩ _ fun p hp => Heap.lt_size (N p hp).1
end
end Mine
end

/- Iadd -/
section
open PySem PySem.W PyProof.Rows PySem.Calls PySem.Spec
set_option maxRecDepth 100000
set_option linter.all false
namespace Mine
section
variable {prog : Program} {w : World} {A : Around} {E : Value → Shared → Prop} {s : Shared} {h₀ : Heap} {L D b : Addr} {m : Str → Option Value} {news news' : List (Addr × Obj)} {its its2 : Array Value} {n n2 : Nat} {l : List Value}
theorem inplace_list {M : Model} {a b : Value} {Q : Value → Shared → Prop} (ha : s.TypeIs a "list") (hb : s.TypeIs b "list") (hc : wpAny M A (call (.builtin "list.__iadd__") [a, b]) Q E s) : wpAny M A (inplaceOp .Add a b) Q E s := by
  unfold inplaceOp
  refine wpAny_holding ?_
  have hq : isSeqSlot (some (.builtin "list.__iadd__")) = true := by decide +kernel
  have hfi : fillsInplaceSlot (.type "list") "add" (Operator.Add == .Add) = pure false := by
    unfold fillsInplaceSlot
    show (typeLookup (.type "list") (dunderI "add") >>= fun fi => pure (fi.isSome && !isSeqSlot fi)) = pure false
    rw [PySem.F.slot_list_iadd.lookup]
    show (pure (true && !isSeqSlot (some (.builtin "list.__iadd__"))) : Sem Bool) = pure false
    rw [hq]; rfl
  refine wpAny_bind (wpAny_typeOf ha (wpAny_bind (wpAny_of_eq hfi ?_)))
  show wpAny M A (if false = true then _ else _) Q E s
  rw [if_neg Bool.false_ne_true]
  refine wpAny_bind (wpAny_binaryOp1_none (nm := "add") ha hb noFill_list_add ?_)
  refine wpAny_bind (wpAny_of_eq (PySem.seqSlot_of PySem.F.slot_list_iadd.lookup hq) ?_)
  exact wpAny_bind (wpAny_rule hc)
theorem iadd_list {Q : Value → Shared → Prop} (F : Fr h₀ L s.heap m) (N : News h₀ L s.heap news) (hb : (b, PySem.W.listOf its2 n2) ∈ news) (e : its.toList ++ its2.toList = l) (hne : its2.toList.length ≠ 0)
    (U : Upd D (PySem.W.listOf its n) (PySem.W.listOf l.toArray (n + 1)) news news') (hz2 : its.size + its2.size ≤ 100)
    (h : ∀ h', Fr h₀ L h' m → News h₀ L h' news' → Q (.ref D) { s with heap := h' }) : wpAny (model prog w) A (inplaceOp .Add (.ref D) (.ref b)) Q E s := by
  obtain ⟨pre, post, rfl, rfl, a, c⟩ := U.split
  have z := N (D, PySem.W.listOf its n) (List.mem_append.mpr (.inr (.head _)))
  have zb := N _ hb
  have hsl : sizeLine = 16777216 := sizeLine_eq
  have hlong : Builtin.List.listTooLong (its.size + its2.size) = false := by
    cases hq : Builtin.List.listTooLong (its.size + its2.size) with
    | false => rfl
    | true =>
      unfold Builtin.List.listTooLong at hq
      simp only [decide_eq_true_eq] at hq
      omega
  refine inplace_list ⟨_, z.1, rfl⟩ ⟨_, zb.1, rfl⟩ ?_
  refine call_meets PySem.F.slot_list_iadd ⟨_, z.1, rfl⟩ PySem.F.entry_list_iadd (PySem.F.args_list_iadd_2 _ _) (PySem.AutoSeq1.list___iadd___list_list_0 D its n b its2 n2 (by rw [hlong, Bool.and_false]; exact Bool.false_ne_true) (by omega) (by omega)) ⟨z.1, zb.1, h _ (F.change (Heap.SameBut.update ..) z.2.1 z.2.2) (kl_turn _ N a c ?_ ?_)⟩
  · subst e
    apply Array.toList_inj.mp
    simp
  · subst e
    simp at hne ⊢
    exact hne
end
end Mine
end

/- Comp4 -/
section
open PySem PySem.W PyProof.Rows PySem.Calls PySem.Spec
open PyProof.Rows.LCg
set_option maxRecDepth 100000
set_option linter.all false
set_option maxHeartbeats 2000000
namespace Mine
section
variable {prog : Program} {w : World} {A : Around} {E : Value → Shared → Prop} {s : Shared} {h₀ : Heap} {L : Addr} {m : Str → Option Value} {env : Env}
theorem iit {g' g'' : Heap} {I ax : Addr} {i : Nat} {o : Obj} (x : g'.IsListIter I ax i) (e : g'.get? I = some o) (e' : g''.get? I = some o) : g''.IsListIter I ax i := by
  obtain ⟨o', q, r⟩ := x
  rw [e] at q
  cases q
  exact ⟨o, e', r⟩
/-- an element's end: what it is, and that nothing of the block's was touched -/
inductive C4End (h₀ : Heap) (L : Addr) (m : Str → Option Value) (s₁ : Shared) (led : List (Addr × Obj)) (G : Value → Prop) (y : Value) (s₂ : Shared) : Prop
  | mk (hG : G y) (h' : Heap) (tk' : Nat) (e : s₂ = { s₁ with heap := h', toks := tk' }) (F : Fr h₀ L h' m) (N : News h₀ L h' led) : C4End h₀ L m s₁ led G y s₂
theorem C4End.intro {h₀ h' : Heap} {L : Addr} {m : Str → Option Value} {s₁ : Shared} {led all : List (Addr × Obj)} {G : Value → Prop} {y : Value} {tk' : Nat} (F : Fr h₀ L h' m) (N : News h₀ L h' all) (hs : ∀ p ∈ led, p ∈ all) (hG : G y) :
    C4End h₀ L m s₁ led G y { s₁ with heap := h', toks := tk' } := ⟨hG, h', tk', rfl, F, fun p hp => N p (hs p hp)⟩
/-- four names bound by unpacking a list -/
theorem assign4 {scope : Scope} {cl : List (Str × Addr)} {C : Addr} {a b c d : Str} {pa pb pc pd tp : Pos} {k : Nat} {l : Addr} {v0 v1 v2 v3 : Value} {m' : Str → Option Value} {Q : Unit → Shared → Prop} (hh : A.handled = none) (hl : s.heap.IsList l #[v0, v1, v2, v3]) (hn : s.heap.Ns C m')
    (hkind : scope.kind = .function) (ha : scope.names.lookup a = some .local) (hb : scope.names.lookup b = some .local) (hc : scope.names.lookup c = some .local) (hd : scope.names.lookup d = some .local)
    (hab : a ≠ b) (hac : a ≠ c) (had : a ≠ d) (hbc : b ≠ c) (hbd : b ≠ d) (hcd : c ≠ d)
    (h : ∀ h₃ tk m₃, h₃.Ns C m₃ → m₃ a = some v0 → m₃ b = some v1 → m₃ c = some v2 → m₃ d = some v3 → (∀ x o, x ≠ C → s.heap.get? x = some o → h₃.get? x = some o) → Q () { s with heap := h₃, toks := tk }) :
    wpAny (model prog w) A (assign (.Tuple [.Name a pa, .Name b pb, .Name c pc, .Name d pd] k tp) (compEnvC scope cl C env) (.ref l)) Q E s := by
  rw [assign_Tuple]
  refine wpAny_bind (wpAny_standAt ?_)
  have hn4 : (assignEach [.Name a pa, .Name b pb, .Name c pc, .Name d pd] (compEnvC scope cl C env)).length = (#[v0, v1, v2, v3] : Array Value).size := rfl
  have hstar : (assignEach [.Name a pa, .Name b pb, .Name c pc, .Name d pd] (compEnvC scope cl C env)).findIdx? (·.1) = none := rfl
  unfold unpack
  rw [hn4, hstar]
  refine wpAny_bind (wpAny_holding (kun_itemsOf hh hl fun h₁ he => ?_))
  have hk1 : ∀ x o, s.heap.get? x = some o → h₁.get? x = some o := fun x o e => he x o (Nat.ne_of_lt (Heap.lt_size e)) e
  refine assignInOrder_cons (wpAny_assign_Name (wpAny_storeName_local (lookup_relabel_local ha) (hn.at' fun o e => hk1 _ o e) (fun h₂ n₂ s₂ => ?_) (by simp [compEnvC, relabel, hkind])))
  refine assignInOrder_cons (wpAny_assign_Name (wpAny_storeName_local (lookup_relabel_local hb) n₂ (fun h₃ n₃ s₃ => ?_) (by simp [compEnvC, relabel, hkind])))
  refine assignInOrder_cons (wpAny_assign_Name (wpAny_storeName_local (lookup_relabel_local hc) n₃ (fun h₄ n₄ s₄ => ?_) (by simp [compEnvC, relabel, hkind])))
  refine assignInOrder_cons (wpAny_assign_Name (wpAny_storeName_local (lookup_relabel_local hd) n₄ (fun h₅ n₅ s₅ => ?_) (by simp [compEnvC, relabel, hkind])))
  refine assignInOrder_nil ?_
  exact h h₅ _ _ n₅ (by simp [hab, hac, had]) (by simp [hbc, hbd]) (by simp [hcd]) (by simp) fun x o hx e => s₅.extBut x o hx (s₄.extBut x o hx (s₃.extBut x o hx (s₂.extBut x o hx (hk1 x o e))))

/-- a block over a list is opened: the iterator, the list, the names -/
theorem open_list {e : PySem.Expr} {scope : Scope} {cl : List (Str × Addr)} {RR : Value → Addr → Result → Shared → Prop} {ax : Addr} {its : Array Value} (F : Fr h₀ L s.heap m) (hl : s.heap.IsList ax its)
    (hcf : ∀ k, cellsFrom k scope.names cl = cl) (hpc : ∀ h, pushCells h scope.names = h)
    (k : ∀ (I : Nat) (H : Heap), (∀ b o, s.heap.get? b = some o → H.get? b = some o) → (∀ b o, s.heap.get? b = some o → @LT.lt Nat _ b I) → @LT.lt Nat _ L I → h₀.get? I = none → H.IsListIter I ax 0 → H.get? (I + 1) = some (lst []) → H.Ns (I + 2) (fun _ => none) →
      codeAny (model prog w) A (.compStart e 0 (.ref I) (.ref (I + 1)) (compEnvC scope cl (I + 2) env)) (RR (.ref (I + 1)) (I + 2)) { s with heap := H }) :
    wpAny (model prog w) A (pyIter (.ref ax)) (fun it s₂ => wpAny (model prog w) A (newList []) (fun acc s₃ => wpAny (model prog w) A (newFunctionEnv scope env.globals cl [] env.qual none .none (some env)) (fun cenv s₄ =>
      codeAny (model prog w) A (.compStart e 0 it acc { cenv with scope := relabel scope env }) (RR acc cenv.locals) s₄) E s₃) E s₂) E s := by
  refine wpAny_pyIter_list hl ?_
  have hsz1 : (s.heap.push { cls := .type "list_iterator", data := .fields #[.ref ax, .int 0 0] }).objs.size = s.heap.objs.size + 1 := Heap.size_push ..
  have hsz2 : ((s.heap.push { cls := .type "list_iterator", data := .fields #[.ref ax, .int 0 0] }).push { cls := .type "list", dict := none, data := .seq ([] : List Value).toArray }).objs.size = s.heap.objs.size + 2 := by rw [Heap.size_push, hsz1]
  refine wpAny_newObj_type (newEnv_comp ?_)
  dsimp only
  rw [hsz2, hcf, hpc, hsz1]
  exact k s.heap.objs.size _ (fun b o e => Heap.get?_push_of_some _ (Heap.get?_push_of_some _ (Heap.get?_push_of_some _ e))) (fun b o e => Heap.lt_size e) F.ns.lt (next_is_new F)
    ⟨_, Heap.get?_push_of_some _ (Heap.get?_push_of_some _ (Heap.get?_push_size _ rfl)), rfl, rfl⟩ (Heap.get?_push_of_some _ (hsz1 ▸ Heap.get?_push_size _ rfl)) (hsz2 ▸ Heap.Ns.new _ (.type "dict"))
inductive Src4 (prog : Program) (w : World) (A : Around) (h₀ : Heap) (L : Addr) (m : Str → Option Value) (env : Env) (elt : PySem.Expr) (a b c d : Str) (scope : Scope) (cl : List (Str × Addr)) (G : Nat → Value → Prop) (Q : Value → Shared → Prop) (xv : Value) (s₁ : Shared) : Prop
  | mk (ax : Addr) (its : Array Value) (news : List (Addr × Obj)) (V : Nat → Value × Value × Value × Value) (e : xv = .ref ax) (hh : A.handled = none) (F : Fr h₀ L s₁.heap m) (N : News h₀ L s₁.heap news) (hl : h₀.IsList ax its) (hsz : its.size ≤ sizeLine)
    (hV : ∀ i v, its[i]? = some v → ∃ l, v = .ref l ∧ h₀.IsList l #[(V i).1, (V i).2.1, (V i).2.2.1, (V i).2.2.2])
    (turn : ∀ i I oI C oC D m₂ ys h tk (E' : Value → Shared → Prop), i < its.size → NsObj oC m₂ → m₂ a = some (V i).1 → m₂ b = some (V i).2.1 → m₂ c = some (V i).2.2.1 → m₂ d = some (V i).2.2.2 → Fr h₀ L h m → News h₀ L h ((I, oI) :: (C, oC) :: (D, lst ys) :: news) →
        wpAny (model prog w) A (eval elt (compEnvC scope cl C env)) (C4End h₀ L m s₁ ((I, oI) :: (C, oC) :: (D, lst ys) :: news) (G i)) E' { s₁ with heap := h, toks := tk })
    (fin : ∀ ys D h tk, ys.length = its.size → (∀ i y, ys[i]? = some y → G i y) → Fr h₀ L h m → News h₀ L h ((D, lst ys) :: news) → Q (.ref D) { s₁ with heap := h, toks := tk }) : Src4 prog w A h₀ L m env elt a b c d scope cl G Q xv s₁
inductive C4Inv (s₁ : Shared) (n : Nat) (I : Addr) (ax : Addr) (h₀ : Heap) (L : Addr) (m : Str → Option Value) (news : List (Addr × Obj)) (G : Nat → Value → Prop) (q : Nat) (s' : Shared) : Prop
  | mk (h' : Heap) (tk i : Nat) (ys : List Value) (m' : Str → Option Value) (e : s' = { s₁ with heap := h', toks := tk }) (hi : i ≤ n) (hq : q = n + 1 - i) (hl : ys.length = i) (hit : h'.IsListIter I ax i) (F : Fr h₀ L h' m) (hn : h'.Ns (I + 2) m') (N : News h₀ L h' ((I + 1, lst ys) :: news)) (hG : ∀ j y, ys[j]? = some y → G j y) : C4Inv s₁ n I ax h₀ L m news G q s'
/-- [elt for a, b, c, d in xs]: xs a list of the base, its items lists of the base -/
theorem comp4 {elt iter : PySem.Expr} {a b c d : Str} {pa pb pc pd tp : Pos} {k : Nat} {scope : Scope} {cl : List (Str × Addr)} {pos : Pos} {Q : Value → Shared → Prop} (G : Nat → Value → Prop) (F₀ : Fr h₀ L s.heap m)
    (hclos : closureFor scope env = pure cl) (hcf : ∀ k, cellsFrom k scope.names cl = cl) (hpc : ∀ h, pushCells h scope.names = h) (hkind : scope.kind = .function)
    (hnames : ∀ y ∈ scope.names, y.2 = .local → scope.names.lookup y.1 = some .local) (ha : scope.names.lookup a = some .local) (hb : scope.names.lookup b = some .local) (hc : scope.names.lookup c = some .local) (hd : scope.names.lookup d = some .local)
    (hab : a ≠ b) (hac : a ≠ c) (had : a ≠ d) (hbc : b ≠ c) (hbd : b ≠ d) (hcd : c ≠ d)
    (h : wpAny (model prog w) A (eval iter env) (Src4 prog w A h₀ L m env elt a b c d scope cl G Q) E s)
    (hs : ∀ x, foldedSetIterable iter env x = pure x := by intro _; rfl) :
    wpAny (model prog w) A (eval (.ListComp elt [⟨.Tuple [.Name a pa, .Name b pb, .Name c pc, .Name d pd] k tp, iter, [], 0⟩] scope pos) env) Q E s := by
  rw [eval_ListComp]
  refine wpAny_comprehension_free (use := none) rfl hs hclos hkind hnames (wpAny_mono h (fun xv s₁ h₁ => ?_) fun _ _ e => e)
  obtain ⟨ax, its, news, V, rfl, hh, F, N, hl₀, hsz, hV, turn, fin⟩ := h₁
  have keepL : ∀ {g : Heap} {l : Addr} {xs : Array Value}, (∀ b o, h₀.get? b = some o → g.get? b = some o) → h₀.IsList l xs → g.IsList l xs := fun k x => let ⟨o, ho, r⟩ := x; ⟨o, k _ o ho, r⟩
  refine open_list (RR := fun acc C => compPost (model prog w) A E none Q acc C) F (keepL F.keep hl₀) hcf hpc ?_
  intro I H4 up lt1 hLlt hI₀ hit0 acc4 ns4
  have fresh₀ : ∀ x : Nat, I ≤ x → h₀.get? x = none := fun x hx => by
    cases e : h₀.get? x with
    | none => rfl
    | some o' => exact absurd (lt1 x o' (F.keep x o' e)) (Nat.not_lt.mpr hx)
  have hLI : L ≠ I := Nat.ne_of_lt hLlt
  have hDI : @Ne Nat (I + 1) I := n10 I
  have hCI : @Ne Nat (I + 2) I := n20 I
  have hDC : @Ne Nat (I + 1) (I + 2) := Ne.symm (n21 I)
  have hDL : (I + 1 : Nat) ≠ L := Nat.ne_of_gt (Nat.lt_add_right 1 hLlt)
  have hCL : (I + 2 : Nat) ≠ L := Nat.ne_of_gt (Nat.lt_add_right 2 hLlt)
  have hD₀ : h₀.get? (I + 1) = none := fresh₀ (I + 1) (Nat.le_add_right I 1)
  have hC₀ : h₀.get? (I + 2) = none := fresh₀ (I + 2) (Nat.le_add_right I 2)
  have ltN : ∀ p ∈ news, @LT.lt Nat _ p.1 I := fun p hp => lt1 _ _ (N p hp).1
  have offI : ∀ p ∈ news, p.1 ≠ I := fun p hp => Nat.ne_of_lt (ltN p hp)
  have loop : ∀ s₃ : Shared, s₃ = { s₁ with heap := H4 } →
      codeAny (model prog w) A (.compLoop (.ListComp elt [⟨.Tuple [.Name a pa, .Name b pb, .Name c pc, .Name d pd] k tp, iter, [], 0⟩] scope pos) 0 (.ref I) (.ref (I + 1)) (compEnvC scope cl (I + 2) env))
        (compPost (model prog w) A E none Q (.ref (I + 1)) (I + 2)) s₃ := by
    rintro s₃ rfl
    refine LCp.codeAny_compLoop_pair
      (C4Inv s₁ its.size I ax h₀ L m news G) ?_ (its.size + 1)
      ⟨H4, _, 0, [], _, rfl, Nat.zero_le _, rfl, rfl, hit0, F.keeps up, ns4, (fun p hp => ?_), fun _ _ hj => nomatch hj⟩
    · rintro q s' ⟨h', tk, i, ys, m', rfl, hi, rfl, hyl, hit, F', hn', N', hG⟩
      have hl' := keepL F'.keep hl₀
      by_cases hlt' : i < its.size
      · refine wpAny_pyNext_list_item hit hl' (x := its[i]) (by simp [hlt']) fun h₂ hit₂ hs₂ => ?_
        obtain ⟨l, hv, hlv⟩ := hV i its[i] (by simp [hlt'])
        rw [hv]
        refine wpAny_letOwnedTupleGo_listiter hit₂ ?_
        have k2 : ∀ x o, x ≠ I → h'.get? x = some o → h₂.get? x = some o := fun x o hx e => hs₂.extBut x o hx e
        have keep2 : ∀ b o, h₀.get? b = some o → h₂.get? b = some o := fun b o e => k2 b o (fun q => by rw [q, hI₀] at e; cases e) (F'.keep b o e)
        refine assign4 hh (keepL keep2 hlv) (hn'.at' fun o e => k2 _ o hCI e) hkind ha hb hc hd hab hac had hbc hbd hcd fun h₃ tk₃ m₃ n₃ e0 e1 e2 e3 k3 => ?_
        obtain ⟨oI, heI, _⟩ := id hit₂
        have heI₃ : h₃.get? I = some oI := k3 I oI (Ne.symm hCI) heI
        obtain ⟨oC, heC, hoC⟩ := ns_obj n₃
        have F₃ : Fr h₀ L h₃ m := ⟨(F'.ns.at' fun o e => k2 _ o hLI e).at' fun o e => k3 _ o (Ne.symm hCL) e, fun b o e => k3 b o (fun q => by rw [q, hC₀] at e; cases e) (keep2 b o e), F'.above⟩
        have N₃ : News h₀ L h₃ ((I, oI) :: ((I + 2), oC) :: ((I + 1), lst ys) :: news) := fun p hp => by
          rcases List.mem_cons.mp hp with rfl | hp
          · exact ⟨heI₃, Ne.symm hLI, hI₀⟩
          · rcases List.mem_cons.mp hp with rfl | hp
            · exact ⟨heC, hCL, hC₀⟩
            · have z := N' p hp
              refine ⟨k3 _ _ ?_ (k2 _ _ ?_ z.1), z.2⟩
              · rcases List.mem_cons.mp hp with rfl | hp
                · exact hDC
                · exact Nat.ne_of_lt (Nat.lt_add_right 2 (ltN p hp))
              · rcases List.mem_cons.mp hp with rfl | hp
                · exact hDI
                · exact offI p hp
        refine wpAny_mono (turn i I oI (I + 2) oC (I + 1) m₃ ys h₃ tk₃ _ hlt' hoC e0 e1 e2 e3 F₃ N₃) (fun y s₄ h₄ => ?_) fun _ _ e => e
        obtain ⟨hGy, h₄, tk₄, rfl, F₄, N₄⟩ := h₄
        have zI := (N₄ (I, oI) List.mem_cons_self).1
        have zC := (N₄ ((I + 2), oC) (List.mem_cons_of_mem _ List.mem_cons_self)).1
        have zD := (N₄ ((I + 1), lst ys) (List.mem_cons_of_mem _ (List.mem_cons_of_mem _ List.mem_cons_self))).1
        refine append_at (hsz := by show ys.toArray.size ≤ sizeLine; rw [List.size_toArray, hyl]; exact Nat.le_trans hi hsz) zD fun h₅ hs₅ hD₅ => ?_
        refine ⟨its.size + 1 - (i + 1), by omega, h₅, tk₄, i + 1, ys ++ [y], m₃, rfl, hlt', rfl, by rw [List.length_append, List.length_singleton, hyl], iit hit₂ heI (hs₅.extBut _ _ (Ne.symm hDI) zI), F₄.change hs₅ hDL hD₀,
          (hoC.ns zC).sameBut hs₅ (Ne.symm hDC), fun p hp => ?_, fun j u hj => ?_⟩
        · rcases List.mem_cons.mp hp with rfl | hp
          · exact ⟨hD₅.trans (congrArg some (lst_snoc ys y)), hDL, hD₀⟩
          · have z := N₄ p (List.mem_cons_of_mem _ (List.mem_cons_of_mem _ (List.mem_cons_of_mem _ hp)))
            exact ⟨hs₅.extBut _ _ (Nat.ne_of_lt (Nat.lt_add_right 1 (ltN p hp))) z.1, z.2⟩
        · rcases Nat.lt_or_ge j ys.length with hlt₂ | hge
          · rw [List.getElem?_append_left hlt₂] at hj
            exact hG j u hj
          · rw [List.getElem?_append_right hge] at hj
            have h0 : j - ys.length = 0 := by
              rcases Nat.eq_zero_or_pos (j - ys.length) with h | h
              · exact h
              · rw [List.getElem?_eq_none (by simp only [List.length_cons, List.length_nil]; omega)] at hj; cases hj
            rw [h0] at hj
            have hji : j = i := by omega
            simp only [List.getElem?_cons_zero, Option.some.injEq] at hj
            rw [← hj, hji]; exact hGy
      · obtain rfl : i = its.size := Nat.le_antisymm hi (Nat.not_lt.mp hlt')
        refine wpAny_pyNext_list_end hh hit hl' (by simp) fun h₂ he₂ => ?_
        refine ⟨m', hn'.at' fun o e => he₂ _ o hCI e, fun h₃ hs₃ => ?_⟩
        have keep2 : ∀ b o, b ≠ I → b ≠ (I + 2) → h'.get? b = some o → h₃.get? b = some o := fun b o h1 h2 e => hs₃.extBut b o h2 (he₂ b o h1 e)
        refine fin ys (I + 1) h₃ tk hyl hG ⟨F'.ns.at' fun o e => keep2 _ o hLI (Ne.symm hCL) e, fun b o e => keep2 b o (fun q => by rw [q, hI₀] at e; cases e) (fun q => by rw [q, hC₀] at e; cases e) (F'.keep b o e), F'.above⟩ fun p hp => ?_
        refine ⟨keep2 _ _ ?_ ?_ (N' p hp).1, (N' p hp).2⟩
        · rcases List.mem_cons.mp hp with rfl | hp
          · exact hDI
          · exact offI p hp
        · rcases List.mem_cons.mp hp with rfl | hp
          · exact hDC
          · exact Nat.ne_of_lt (Nat.lt_add_right 2 (ltN p hp))
    · rcases List.mem_cons.mp hp with rfl | hp
      · exact ⟨acc4, hDL, hD₀⟩
      · exact ⟨up _ _ (N p hp).1, (N p hp).2⟩
  exact codeAny_compStart_list (loop _ rfl) (wpAny_pyIter_listiter hit0 (loop _ rfl))
end
end Mine
end

/- RangeC -/
section
open PySem PySem.W PyProof.Rows PySem.Calls PySem.Spec
open PyProof.Rows.LCg
set_option maxRecDepth 100000
set_option linter.all false
set_option maxHeartbeats 2000000
namespace Mine
section
variable {prog : Program} {w : World} {A : Around} {E : Value → Shared → Prop} {s : Shared} {h₀ : Heap} {L : Addr} {m : Str → Option Value} {env : Env}
/-- the source of a block over a range of any step -/
inductive SrcS (prog : Program) (w : World) (A : Around) (h₀ : Heap) (L : Addr) (m : Str → Option Value) (env : Env) (elt : PySem.Expr) (x : Str) (scope : Scope) (cl : List (Str × Addr)) (Fin : Shared → List Value → List (Addr × Obj) → Prop) (xv : Value) (s₁ : Shared) : Prop
  | mk (r : Addr) (a b c : Int) (t u v : Tok) (n : Nat) (news : List (Addr × Obj)) (e : xv = .ref r) (hh : A.handled = none) (F : Fr h₀ L s₁.heap m) (N : News h₀ L s₁.heap news) (hr : IsRange s₁.heap r a b c t u v) (hsm : Builtin.Range.small a b c = true) (hn : Builtin.Range.rangeSize a b c = ((n : Nat) : Int)) (hsz : n ≤ sizeLine)
    (R : ∀ s₂ : Shared, (∃ h, s₂ = { s₁ with heap := h }) → CompRest prog w A h₀ L m env elt x scope cl s₂ (fun _ => True) (fun i v => ∃ t, v = .int (a + (i : Int) * c) t) (Fin s₂) n 0 [] news) : SrcS prog w A h₀ L m env elt x scope cl Fin xv s₁
theorem SrcS.intro {elt : PySem.Expr} {x : Str} {scope : Scope} {cl : List (Str × Addr)} {Fin : Shared → List Value → List (Addr × Obj) → Prop} {r : Addr} {a b c : Int} {t u v : Tok} {n : Nat} {news : List (Addr × Obj)} {s₁ : Shared}
    (hh : A.handled = none) (F : Fr h₀ L s₁.heap m) (N : News h₀ L s₁.heap news) (hr : IsRange s₁.heap r a b c t u v) (hsm : Builtin.Range.small a b c = true) (hn : Builtin.Range.rangeSize a b c = ((n : Nat) : Int)) (hsz : n ≤ sizeLine)
    (h : ∀ g, CompRest prog w A h₀ L m env elt x scope cl { s₁ with heap := g } (fun _ => True) (fun i v => ∃ t, v = .int (a + (i : Int) * c) t) (Fin { s₁ with heap := g }) n 0 [] news) :
    SrcS prog w A h₀ L m env elt x scope cl Fin (.ref r) s₁ := ⟨r, a, b, c, t, u, v, n, news, rfl, hh, F, N, hr, hsm, hn, hsz, fun _ ⟨g, e⟩ => e ▸ h g⟩
theorem range_stS {I : Addr} {a c : Int} {n : Nat} : ∀ i (h h' : Heap) (o : Obj) (nw : List (Addr × Obj)), IsRangeIter h I (a + (i : Nat) * c) ((n : Int) - (i : Nat)) c → h.get? I = some o → h'.get? I = some o → (∀ b o, h₀.get? b = some o → h'.get? b = some o) → News h₀ L h' nw → True → IsRangeIter h' I (a + (i : Nat) * c) ((n : Int) - (i : Nat)) c :=
  fun i h h' o nw st e e' _ _ _ => by
    have st' : h.get? I = some _ := st
    show h'.get? I = some _
    rw [e', ← e]; exact st'
theorem ListComp_S {elt iter : PySem.Expr} {x : Str} {px : Pos} {scope : Scope} {cl : List (Str × Addr)} {pos : Pos} {Q : Value → Shared → Prop} (F₀ : Fr h₀ L s.heap m)
    (hclos : closureFor scope env = pure cl) (hcell : ∀ y ∈ scope.names, y.2 ≠ .cell) (hkind : scope.kind = .function)
    (hnames : ∀ y ∈ scope.names, y.2 = .local → scope.names.lookup y.1 = some .local) (hx : scope.names.lookup x = some .local)
    (h : wpAny (model prog w) A (eval iter env) (SrcS prog w A h₀ L m env elt x scope cl (fun s₂ => FinE h₀ L m s₂ Q)) E s)
    (hs : ∀ x, foldedSetIterable iter env x = pure x := by intro _; rfl) :
    wpAny (model prog w) A (eval (.ListComp elt [⟨.Name x px, iter, [], 0⟩] scope pos) env) Q E s := by
  rw [eval_ListComp]
  refine wpAny_comprehension_free (use := none) rfl hs hclos hkind hnames (wpAny_mono h (fun xv s₁ h₁ => ?_) fun _ _ e => e)
  obtain ⟨r, a, b, c, t, u, v, n, news, rfl, hh, F, N, hr, hsm, hn, hsz, R⟩ := h₁
  refine wpAny_pyIter_range hr hsm ?_
  refine block_U (Walks.range hh s₁.heap.objs.size a c n) hsz (fun i h st => ⟨_, st⟩) range_stS hcell hkind hx (by show IsRangeIter _ _ _ _ _; rw [hn]; simpa using Heap.get?_push_size _ rfl) (fun b hb => ?_)
    (F.keeps fun _ _ e => Heap.get?_push_of_some _ e) (N.grown fun _ _ e => Heap.get?_push_of_some _ e) (Nat.ne_of_lt F.ns.lt) (next_is_new F) (fun p hp => Nat.ne_of_lt (Heap.lt_size (N p hp).1)) trivial (R _ ⟨_, rfl⟩) ?_
  · rw [List.mem_singleton.mp hb]
    show s₁.heap.objs.size < (s₁.heap.push _).objs.size
    rw [Heap.size_push]; exact Nat.lt_succ_self _
  · intro D C h tk m' ys news' F' N' o1 hn hC₀ hD₀ hCL hDL hCD offC fin
    refine ⟨m', hn, fun h'' hs'' => fin D h'' tk (F'.change hs'' hCL hC₀) (fun p hp => ?_) o1⟩
    refine ⟨hs''.extBut _ _ ?_ (N' p hp).1, (N' p hp).2⟩
    rcases List.mem_cons.mp hp with rfl | hp
    · exact Ne.symm hCD
    · exact offC p hp
/-- a block's elements one by one: `P` of the source gives `G` of the element, the ledger is kept -/
theorem rest_val {elt : PySem.Expr} {x : Str} {scope : Scope} {cl : List (Str × Addr)} {S : List (Addr × Obj) → Prop} {P : Nat → Value → Prop} {Fin : List Value → List (Addr × Obj) → Prop} {news : List (Addr × Obj)} {n : Nat} (G : Nat → Value → Prop) (hS : S news)
    (turn : ∀ i v I oI C oC D m₂ ys h tk (E' : Value → Shared → Prop), i < n → P i v → NsObj oC m₂ → m₂ x = some v → Fr h₀ L h m → News h₀ L h ((I, oI) :: (C, oC) :: (D, lst ys) :: news) → Off3 I C D news → ((@Ne Nat I C) ∧ (@Ne Nat I D) ∧ (@Ne Nat C D)) →
      wpAny (model prog w) A (eval elt (compEnvC scope cl C env)) (fun y s₂ => G i y ∧ ∃ h' tk', s₂ = { s with heap := h', toks := tk' } ∧ Fr h₀ L h' m ∧ News h₀ L h' ((I, oI) :: (C, oC) :: (D, lst ys) :: news)) E' { s with heap := h, toks := tk })
    (fin : ∀ ys, ys.length = n → (∀ i y, ys[i]? = some y → G i y) → Fin ys news) : CompRest prog w A h₀ L m env elt x scope cl s S P Fin n 0 [] news := by
  have key : ∀ (j i : Nat) (ys : List Value), i + j = n → ys.length = i → (∀ i y, ys[i]? = some y → G i y) → CompRest prog w A h₀ L m env elt x scope cl s S P Fin j i ys news := by
    intro j
    induction j with
    | zero => intro i ys hi hl hG; exact CompRest.zero (fin ys (by omega) hG)
    | succ j ih =>
      intro i ys hi hl hG
      refine CompRest.succ ?_
      intro v I oI C oC D m₂ h tk E' hv hC hx F N off ne
      refine wpAny_mono (turn i v I oI C oC D m₂ ys h tk E' (by omega) hv hC hx F N off ne) (fun y s₂ hq => ?_) fun _ _ e => e
      obtain ⟨hGy, h', tk', e, F', N'⟩ := hq
      refine ⟨h', tk', news, e, F', N', off, hS, ih (i + 1) _ (by omega) (by rw [List.length_append, hl]; rfl) ?_⟩
      intro k u hk
      rcases Nat.lt_or_ge k ys.length with hlt | hge
      · rw [List.getElem?_append_left hlt] at hk
        exact hG k u hk
      · rw [List.getElem?_append_right hge] at hk
        have h0 : k - ys.length = 0 := by
          rcases Nat.eq_zero_or_pos (k - ys.length) with h | h
          · exact h
          · rw [List.getElem?_eq_none (by simp only [List.length_cons, List.length_nil]; omega)] at hk; cases hk
        rw [h0] at hk
        have hki : k = i := by omega
        simp only [List.getElem?_cons_zero, Option.some.injEq] at hk
        rw [← hk, hki]; exact hGy
  exact key n 0 [] (by omega) rfl fun _ _ h => nomatch h
end
end Mine
namespace Mine
noncomputable def size2 (a b : Int) : Nat := ((b - a + 1) / 2).toNat
theorem rangeSize2 {a b : Int} (h : a ≤ b + 1) : Builtin.Range.rangeSize a b 2 = ((size2 a b : Nat) : Int) := by
  unfold Builtin.Range.rangeSize size2
  rw [if_pos (by decide)]
  split <;> omega
theorem small2 {a b : Int} (ha : 0 ≤ a) (ha' : a ≤ 1) (hb : 0 ≤ b) (hb' : b ≤ 63) : Builtin.Range.small a b 2 = true := by
  unfold Builtin.Range.small
  rw [rangeSize2 (by omega)]
  simp only [Builtin.Range.rangeFitsLong, Bool.and_eq_true, Bool.or_eq_true, decide_eq_true_eq, beq_iff_eq, size2, show (2 : Int) > 0 by decide, if_true]
  refine ⟨?_, ?_⟩ <;> (try omega)
  exact ⟨by omega, decide_eq_true (by omega), decide_eq_true (by omega)⟩
end Mine
end

/- CompBy -/
section
open PySem PySem.W PyProof.Rows PySem.Calls PySem.Spec
open PyProof.Rows.LCg
set_option maxRecDepth 100000
set_option linter.all false
set_option maxHeartbeats 2000000
namespace Mine
section
variable {prog : Program} {w : World} {A : Around} {E : Value → Shared → Prop} {s : Shared} {h₀ : Heap} {L : Addr} {m : Str → Option Value} {env : Env}
/-- the source of a block over bytes -/
inductive SrcBy (prog : Program) (w : World) (A : Around) (h₀ : Heap) (L : Addr) (m : Str → Option Value) (env : Env) (elt : PySem.Expr) (x : Str) (scope : Scope) (cl : List (Str × Addr)) (Fin : Shared → List Value → List (Addr × Obj) → Prop) (xv : Value) (s₁ : Shared) : Prop
  | mk (b : Array UInt8) (t : Tok) (news : List (Addr × Obj)) (e : xv = .bytes b t) (hh : A.handled = none) (F : Fr h₀ L s₁.heap m) (N : News h₀ L s₁.heap news) (hsz : b.size ≤ sizeLine)
    (R : ∀ s₂ : Shared, (∃ h, s₂ = { s₁ with heap := h }) → CompRest prog w A h₀ L m env elt x scope cl s₂ (fun _ => True) (fun i v => ∃ c u, b[i]? = some c ∧ v = .int (UInt8.toNat c : Int) u) (Fin s₂) b.size 0 [] news) : SrcBy prog w A h₀ L m env elt x scope cl Fin xv s₁
theorem SrcBy.intro {elt : PySem.Expr} {x : Str} {scope : Scope} {cl : List (Str × Addr)} {Fin : Shared → List Value → List (Addr × Obj) → Prop} {b : Array UInt8} {t : Tok} {news : List (Addr × Obj)} {s₁ : Shared}
    (hh : A.handled = none) (F : Fr h₀ L s₁.heap m) (N : News h₀ L s₁.heap news) (hsz : b.size ≤ sizeLine)
    (h : ∀ g, CompRest prog w A h₀ L m env elt x scope cl { s₁ with heap := g } (fun _ => True) (fun i v => ∃ c u, b[i]? = some c ∧ v = .int (UInt8.toNat c : Int) u) (Fin { s₁ with heap := g }) b.size 0 [] news) :
    SrcBy prog w A h₀ L m env elt x scope cl Fin (.bytes b t) s₁ := ⟨b, t, news, rfl, hh, F, N, hsz, fun _ ⟨g, e⟩ => e ▸ h g⟩
theorem bytes_st {I : Addr} {b : Array UInt8} {t : Tok} : ∀ i (h h' : Heap) (o : Obj) (nw : List (Addr × Obj)), KBw.IsBytesIter h I b t i → h.get? I = some o → h'.get? I = some o → (∀ b o, h₀.get? b = some o → h'.get? b = some o) → News h₀ L h' nw → True → KBw.IsBytesIter h' I b t i :=
  fun i h h' o nw st e e' _ _ _ => by
    obtain ⟨o', q, r⟩ := st
    rw [e] at q
    cases q
    exact ⟨o, e', r⟩
theorem ListComp_By {elt iter : PySem.Expr} {x : Str} {px : Pos} {scope : Scope} {cl : List (Str × Addr)} {pos : Pos} {Q : Value → Shared → Prop} (F₀ : Fr h₀ L s.heap m)
    (hclos : closureFor scope env = pure cl) (hcell : ∀ y ∈ scope.names, y.2 ≠ .cell) (hkind : scope.kind = .function)
    (hnames : ∀ y ∈ scope.names, y.2 = .local → scope.names.lookup y.1 = some .local) (hx : scope.names.lookup x = some .local)
    (h : wpAny (model prog w) A (eval iter env) (SrcBy prog w A h₀ L m env elt x scope cl (fun s₂ => FinE h₀ L m s₂ Q)) E s)
    (hs : ∀ x, foldedSetIterable iter env x = pure x := by intro _; rfl) :
    wpAny (model prog w) A (eval (.ListComp elt [⟨.Name x px, iter, [], 0⟩] scope pos) env) Q E s := by
  rw [eval_ListComp]
  refine wpAny_comprehension_free (use := none) rfl hs hclos hkind hnames (wpAny_mono h (fun xv s₁ h₁ => ?_) fun _ _ e => e)
  obtain ⟨b, t, news, rfl, hh, F, N, hsz, R⟩ := h₁
  refine KBw.pyIter_bytes ?_
  refine block_U (KBw.walks hh s₁.heap.objs.size b t) hsz (fun i h st => let ⟨o, ho, _⟩ := st; ⟨o, ho⟩) bytes_st hcell hkind hx ⟨_, Heap.get?_push_size _ rfl, rfl, rfl⟩ (fun b hb => ?_)
    (F.keeps fun _ _ e => Heap.get?_push_of_some _ e) (N.grown fun _ _ e => Heap.get?_push_of_some _ e) (Nat.ne_of_lt F.ns.lt) (next_is_new F) (fun p hp => Nat.ne_of_lt (Heap.lt_size (N p hp).1)) trivial (R _ ⟨_, rfl⟩) ?_
  · rw [List.mem_singleton.mp hb]
    show s₁.heap.objs.size < (s₁.heap.push _).objs.size
    rw [Heap.size_push]; exact Nat.lt_succ_self _
  · intro D C h tk m' ys news' F' N' o1 hn hC₀ hD₀ hCL hDL hCD offC fin
    refine ⟨m', hn, fun h'' hs'' => fin D h'' tk (F'.change hs'' hCL hC₀) (fun p hp => ?_) o1⟩
    refine ⟨hs''.extBut _ _ ?_ (N' p hp).1, (N' p hp).2⟩
    rcases List.mem_cons.mp hp with rfl | hp
    · exact Ne.symm hCD
    · exact offC p hp
/-- an element's end, named -/
noncomputable def ElEnd (h₀ : Heap) (L : Addr) (m : Str → Option Value) (s : Shared) (led : List (Addr × Obj)) (G : Value → Prop) (y : Value) (s₂ : Shared) : Prop :=
  G y ∧ ∃ h' tk', s₂ = { s with heap := h', toks := tk' } ∧ Fr h₀ L h' m ∧ News h₀ L h' led
theorem ElEnd.intro {h' : Heap} {s₁ : Shared} {led all : List (Addr × Obj)} {G : Value → Prop} {y : Value} {tk' : Nat} (F : Fr h₀ L h' m) (N : News h₀ L h' all) (hs : ∀ p ∈ led, p ∈ all) (hG : G y) :
    ElEnd h₀ L m s₁ led G y { s₁ with heap := h', toks := tk' } := ⟨hG, h', tk', rfl, F, fun p hp => N p (hs p hp)⟩
/-- the block over bytes, its elements by `G` -/
theorem rest_by {elt : PySem.Expr} {x : Str} {scope : Scope} {cl : List (Str × Addr)} {Fin : List Value → List (Addr × Obj) → Prop} {news : List (Addr × Obj)} {b : Array UInt8} (G : Int → Value → Prop)
    (turn : ∀ k t I oI C oC D m₂ ys h tk (E' : Value → Shared → Prop), 0 ≤ k → k < 256 → k ∈ KBw.bInts b → NsObj oC m₂ → m₂ x = some (.int k t) → Fr h₀ L h m → News h₀ L h ((I, oI) :: (C, oC) :: (D, lst ys) :: news) →
      wpAny (model prog w) A (eval elt (compEnvC scope cl C env)) (ElEnd h₀ L m s ((I, oI) :: (C, oC) :: (D, lst ys) :: news) (G k)) E' { s with heap := h, toks := tk })
    (fin : ∀ ys, ys.length = (KBw.bInts b).length → (∀ (i : Nat) y k, ys[i]? = some y → (KBw.bInts b)[i]? = some k → G k y) → Fin ys news) :
    CompRest prog w A h₀ L m env elt x scope cl s (fun _ => True) (fun i v => ∃ c u, b[i]? = some c ∧ v = .int (UInt8.toNat c : Int) u) Fin b.size 0 [] news := by
  refine rest_val (fun i y => ∀ k, (KBw.bInts b)[i]? = some k → G k y) trivial ?_ ?_
  · intro i v I oI C oC D m₂ ys h tk E' hi hv hC hx F N off ne
    obtain ⟨c, u, hc, rfl⟩ := hv
    have hk := KBw.ints_get hc
    have hr := KBw.ints_in (List.mem_of_getElem? hk)
    refine wpAny_mono (turn _ u I oI C oC D m₂ ys h tk E' hr.1 hr.2 (List.mem_of_getElem? hk) hC hx F N) (fun y s₂ hq => ?_) fun _ _ e => e
    obtain ⟨hG, r⟩ := hq
    exact ⟨fun k hk' => by rw [hk] at hk'; cases hk'; exact hG, r⟩
  · intro ys hl hG
    exact fin ys (by rw [hl, KBw.ints_length]) fun i y k hy hk => hG i y hy k hk
end
end Mine
end

/- CAp -/
section
theorem Mine.none3 : True := by
  k_with_none
  trivial
open PySem PySem.W PyProof.Rows PySem.Calls PySem.Spec
set_option maxRecDepth 100000
set_option maxHeartbeats 8000000
set_option linter.all false
namespace Mine

section ap
noncomputable def apDig (N : Nat) : Nat → List UInt8
  | 0 => []
  | j + 1 => UInt8.ofNat (65 + N / 16 ^ j % 16) :: apDig N j
noncomputable def apJ (n : Int) (AP : Array UInt8) (k : Nat) (m : Str → Option Value) (news : List (Addr × Obj)) : Prop :=
  news = [] ∧ ∃ j t1 t2 t3, k + j = 7 ∧ j ≤ 6 ∧ m (Str.ofString "num") = some (.int ((n.toNat / 16 ^ j : Nat) : Int) t1) ∧ m (Str.ofString "val") = some (.bytes (apDig n.toNat j).toArray t2) ∧ m (Str.ofString "AP") = some (.bytes AP t3)
theorem words1 : True := by
  k_with "mine enter" => (k_dflt (refine' enterP (by assumption) (by assumption) (by assumption) (by assumption) rfl rfl ?kKq1 ?k6q1 ?k7q1 ?k8q1 ?k9q1 ?kBq1 (by assumption) ?_ ?c2q1 ?c3q1 ?c4q1 ?c5q1; (case kKq1 => assumption); (case k6q1 => k_is); (case k7q1 => k_is); (case k8q1 => ktr_room); (case k9q1 => exact BindsTo.of_eq rfl); (case c5q1 => decide); (case kBq1 => exact locs rfl); (case c2q1 => exact rfl); (case c3q1 => exact rfl); (case c4q1 => exact rfl); k_whole))
  trivial
theorem ap_pick_all : ∀ j : Fin 16, KBy.picked #[65,66,67,68,69,70,71,72,73,74,75,76,77,78,79,80] (some (j.val : Int)) (some ((j.val : Int) + 1)) = #[UInt8.ofNat (65 + j.val)] := by decide +kernel
theorem ap_pick {r : Int} (h0 : 0 ≤ r) (h1 : r < 16) : KBy.picked #[65,66,67,68,69,70,71,72,73,74,75,76,77,78,79,80] (some r) (some (r + 1)) = #[UInt8.ofNat (65 + r.toNat)] := by
  obtain ⟨j, rfl⟩ := Int.eq_ofNat_of_zero_le h0
  exact ap_pick_all ⟨j, by omega⟩
theorem words2 : True := by
  k_with "subscriptTail" => ((with_reducible show wpAny _ _ (subscriptTail _ (Expr.Slice _ _ none _) (Value.bytes _ _) (Value.ref _)) _ _ _); (with_reducible rename Fr _ _ _ _ => F'9); (with_reducible rename News _ _ _ _ => N'9); (refine KBc.slice_K (s := ⟨_, _, _, _, _⟩) F'9 N'9 rfl (by constructor) (by constructor) (by decide) ?_); intro h'9 t'9 k'9 F'9 N'9 _; rw [ap_pick (by assumption) (by assumption)])
  k_with "binaryOp Add bytes bytes" => (refine KBy.add_bytes (by (show 1 + _ ≤ _); omega) ?_; intro t'9 k'9)
  trivial
theorem apDig_length (N j : Nat) : (apDig N j).length = j := by induction j with | zero => rfl | succ j ih => simp [apDig, ih]
theorem c_ap (w : World) (mean : ExcName → Option Value) (mg mb : Str → Option Value) (n : Int) (t : Tok) (h0 : 0 ≤ n) (h1 : n < 16777216) : Contr 3 w mean mg mb 112 [.int n t] [] (fun _ => True) (fun _ v => ∃ j t, j ≤ 6 ∧ n.toNat < 16 ^ j ∧ v = .bytes (apDig n.toNat j).toArray t) := by
  unfold Contr
  k_fill
  intro dp un gd cn cs a ccd cl outer A₀ base h₀ L m s Q E B F X T hk hd hu hl hq
  walk_at "mine enter"
  intro L' h' F' N' B' X' T'
  try dsimp only
  try k_fold
  clear hq
  repeat ((fail_if_success (with_reducible show wpAny _ _ (exec (Stmt.While _ _ _ _) _) _ _ _)); walk1)
  rename Fr _ _ _ _ => lF
  rename News _ _ _ _ => lN
  have hab : (if n < 0 then -n else n) = ((n.toNat / 16 ^ 0 : Nat) : Int) := by rw [if_neg (by omega)]; simp [Int.toNat_of_nonneg h0]
  rw [hab] at lF
  refine While_inv (apJ n #[65,66,67,68,69,70,71,72,73,74,75,76,77,78,79,80]) (n₀ := 7) lF lN ⟨rfl, 0, _, _, _, rfl, by omega, rfl, rfl, rfl⟩ ?_
  clear lF lN
  intro k m₁ news₁ h₁ tk₁ F₁ N₁ ⟨hnews, j, t1, t2, t3, hk7, hj, e1, e2, e3⟩
  subst hnews
  have hq0 : 0 ≤ ((n.toNat / 16 ^ j : Nat) : Int) := Int.natCast_nonneg _
  have hqq := hq0
  have hme := kst_self (m := m₁) (ps := [(Str.ofString "num", _), (Str.ofString "val", _), (Str.ofString "AP", _)]) (by simp only [List.forall_mem_cons]; exact ⟨e1, e2, e3, fun _ h => nomatch h⟩)
  rw [hme] at F₁
  generalize hq : ((n.toNat / 16 ^ j : Nat) : Int) = q at F₁ hq0
  generalize hb : (apDig n.toNat j).toArray = bb at F₁
  clear hme
  dsimp only [kstB] at F₁
  have hf0 : 0 ≤ q.fmod 16 := Int.fmod_nonneg_of_pos q (by decide)
  have hf1 : q.fmod 16 < 16 := Int.fmod_lt_of_pos q (by decide)
  have hbs : bb.size = j := by rw [← hb, List.size_toArray, apDig_length]
  k_steps
  · rename Fr _ _ _ _ => lF
    have hnum : q.fdiv 16 = ((n.toNat / 16 ^ (j + 1) : Nat) : Int) := by
      rw [Int.fdiv_eq_ediv_of_nonneg q (by decide), ← hq, Nat.pow_succ, ← Nat.div_div_eq_div_mul]
      omega
    have hval : #[UInt8.ofNat (65 + (q.fmod 16).toNat)] ++ bb = (apDig n.toNat (j + 1)).toArray := by
      rw [← hb, apDig, Int.fmod_eq_emod_of_nonneg q (by decide), ← hq]
      have : ((((n.toNat / 16 ^ j : Nat) : Int) % 16).toNat) = n.toNat / 16 ^ j % 16 := by omega
      rw [this]
      simp
    rw [hnum, hval] at lF
    refine WhileStep.intro (n' := k - 1) lF News.nil (by omega) ⟨rfl, j + 1, _, _, _, by omega, ?_, rfl, rfl, rfl⟩
    have h6 : j ≠ 6 := by
      rintro rfl
      have : n.toNat / 16 ^ 6 = 0 := Nat.div_eq_of_lt (by omega)
      omega
    omega
  · refine EndP.intro (by assumption) ⟨j, t2, hj, ?_, ?_⟩
    · have : n.toNat / 16 ^ j = 0 := by omega
      rcases Nat.div_eq_zero_iff.mp this with h | h
      · exact absurd h (Nat.pos_iff_ne_zero.mp (Nat.pow_pos (by decide)))
      · exact h
    · rw [hb]
end ap
end Mine
theorem Mine.none4 : True := by
  k_with_none
  trivial
end

/- Txts -/
section
open PySem PySem.W PyProof.Rows PySem.Calls PySem.Spec
set_option maxRecDepth 100000
set_option linter.all false
namespace Mine
theorem strs_of {ks : List Int} : ∀ {ys : List Value}, ys.length = ks.length → (∀ (i : Nat) y k, ys[i]? = some y → ks[i]? = some k → ∃ t, y = Value.str ⟨#[k.toNat]⟩ t) → StrsAre ys (ks.map fun k => ⟨#[k.toNat]⟩) := by
  induction ks with
  | nil => intro ys hl _; cases ys with
    | nil => exact .nil
    | cons y r => cases hl
  | cons k r ih =>
    intro ys hl hG
    cases ys with
    | nil => cases hl
    | cons y q =>
      obtain ⟨t, rfl⟩ := hG 0 y k rfl rfl
      exact .cons _ t (ih (by simpa using hl) fun i u v hu hv => hG (i + 1) u v (by simpa using hu) (by simpa using hv))
theorem fold_ones (cs : List Nat) : ∀ acc : Array Nat, (cs.map fun c => (⟨#[c]⟩ : Str)).foldl (fun acc p => acc ++ (Str.ofString "").cps ++ p.cps) acc = acc ++ cs.toArray := by
  induction cs with
  | nil => intro acc; simp
  | cons c r ih =>
    intro acc
    simp only [List.map_cons, List.foldl_cons]
    rw [ih]
    show acc ++ #[] ++ #[c] ++ r.toArray = acc ++ (c :: r).toArray
    apply Array.toList_inj.mp
    simp
theorem join_ones (cs : List Nat) : Txt.join (Str.ofString "") (cs.map fun c => (⟨#[c]⟩ : Str)) = ⟨cs.toArray⟩ := by
  cases cs with
  | nil => rfl
  | cons c r =>
    show (⟨(r.map fun c => (⟨#[c]⟩ : Str)).foldl (fun acc p => acc ++ (Str.ofString "").cps ++ p.cps) #[c]⟩ : Str) = _
    rw [fold_ones]
    congr 1
    apply Array.toList_inj.mp
    simp
theorem ones_weight {α : Type} (f : α → Nat) (ks : List α) : ((ks.map fun k => (⟨#[f k]⟩ : Str)).map (·.length)).sum = ks.length := by
  induction ks with
  | nil => rfl
  | cons k r ih =>
    simp only [List.map_cons, List.sum_cons, List.length_cons]
    rw [ih]
    show 1 + r.length = r.length + 1
    omega
theorem ap_join (N j : Nat) : Txt.join (Str.ofString "") ((KBw.bInts (apDig N j).toArray).map fun k => (⟨#[k.toNat]⟩ : Str)) = ⟨((apDig N j).map (·.toNat)).toArray⟩ := by
  have e : ((KBw.bInts (apDig N j).toArray).map fun k => (⟨#[k.toNat]⟩ : Str)) = ((apDig N j).map (·.toNat)).map fun c => (⟨#[c]⟩ : Str) := by
    show (((apDig N j).map fun c => ((c.toNat : Nat) : Int)).map _) = _
    rw [List.map_map, List.map_map]
    exact List.map_congr_left fun c _ => by simp
  rw [e, join_ones]
/-- one name stored or nothing: the statement went through -/
noncomputable def Nx (P : Shared → Prop) (f : Flow) (s' : Shared) : Prop := f = .next ∧ P s'
theorem Nx.intro {P : Shared → Prop} {s' : Shared} (h : P s') : Nx P .next s' := ⟨rfl, h⟩
end Mine
end

/- LoopR -/
section
open PySem PySem.W PyProof.Rows PySem.Calls PySem.Spec
open PyProof.Rows.LCg
set_option maxRecDepth 100000
set_option maxHeartbeats 2000000
set_option linter.all false
namespace Mine
section
variable {prog : Program} {w : World} {A : Around} {E : Value → Shared → Prop} {s : Shared} {env : Env} {h₀ : Heap} {x : Str} {body : List Stmt} {Q : Flow → Shared → Prop}
/-- a loop over a range by an invariant over the frame and the ledger -/
theorem range_inv {I : Addr} {a : Int} {n : Nat} (J : Nat → (Str → Option Value) → List (Addr × Obj) → Prop)
    (turn : ∀ i m news t h tk, i < n → J i m news → (∀ p ∈ news, p.1 ≠ I) → Fr h₀ env.locals h (fun y => if y = x then some (.int (a + (i : Int)) t) else m y) →
      News h₀ env.locals h ((I, itR (a + ((i + 1 : Nat) : Int)) ((n : Int) - ((i + 1 : Nat) : Int))) :: news) →
      wpAny (model prog w) A (execs body env) (Nx (UnrEnd h₀ env.locals { s with heap := h, toks := tk } I (itR (a + ((i + 1 : Nat) : Int)) ((n : Int) - ((i + 1 : Nat) : Int))) (J (i + 1)))) E { s with heap := h, toks := tk })
    (done : ∀ m news h tk, J n m news → Fr h₀ env.locals h m → News h₀ env.locals h news → Q .next { s with heap := h, toks := tk }) :
    ∀ (k i : Nat) (m : Str → Option Value) (news : List (Addr × Obj)), i + k = n → J i m news → (∀ p ∈ news, p.1 ≠ I) → RangeRest prog w A E h₀ env x body Q s I a n k i m news := by
  intro k
  induction k with
  | zero =>
    intro i m news hi hJ _
    obtain rfl : i = n := by omega
    exact RangeRest.zero fun h tk F N => done m news h tk hJ F N
  | succ k ih =>
    intro i m news hi hJ off
    refine RangeRest.succ fun t h tk F N => ?_
    refine wpAny_mono (turn i m news t h tk (by omega) hJ off F N) (fun f s₂ p => ?_) fun _ _ e => e
    obtain ⟨rfl, h', tk', m', news', e, F', N', off', hJ'⟩ := p
    exact ⟨h', tk', m', news', e, F', N', off', ih (i + 1) m' news' (by omega) hJ' off'⟩
end
end Mine
end

/- CNum -/
section
theorem Mine.none6 : True := by
  k_with_none
  trivial
open PySem PySem.W PyProof.Rows PySem.Calls PySem.Spec
set_option maxRecDepth 100000
set_option maxHeartbeats 8000000
set_option linter.all false
namespace Mine
section num
theorem words5 : True := by
  k_with "mine enter" => (k_dflt (refine' enterP (by assumption) (by assumption) (by assumption) (by assumption) rfl rfl ?kKq4 ?k6q4 ?k7q4 ?k8q4 ?k9q4 ?kBq4 (by assumption) ?_ ?c2q4 ?c3q4 ?c4q4 ?c5q4; (case kKq4 => assumption); (case k6q4 => k_is); (case k7q4 => k_is); (case k8q4 => ktr_room); (case k9q4 => exact BindsTo.of_eq rfl); (case c5q4 => decide); (case kBq4 => exact locs rfl); (case c2q4 => exact rfl); (case c3q4 => exact rfl); (case c4q4 => exact rfl); k_whole))
  trivial
noncomputable def numOf (ns : List Int) : Int := ns.foldl (fun n b => 2 * n + b) 0
theorem foldl_fst {α : Type} (ns : List Int) (g : Int → Int → Int) (f : Int × α → Int → Int × α) (h : ∀ p n, (f p n).1 = g p.1 n) : ∀ p, (ns.foldl f p).1 = ns.foldl g p.1 := by
  induction ns with
  | nil => intro p; rfl
  | cons n r ih => intro p; simp only [List.foldl_cons]; rw [ih, h]
theorem c_number (w : World) (mean : ExcName → Option Value) (mg mb : Str → Option Value) (l : Addr) (vs : List Value) (ns : List Int) (hi : IntsAre vs ns) (hn : ns.length < 2 ^ 62) :
    Contr 3 w mean mg mb 119 [.ref l] [] (fun h => h.IsList l vs.toArray) (fun _ v => ∃ t, v = .int (numOf ns) t) := by
  unfold Contr
  k_fill
  intro dp un gd cn cs a ccd cl outer A₀ base h₀ L m s Q E B F X T hk hd hu hl hq
  walk_at "mine enter"
  intro L' h' F' N' B' X' T'
  try dsimp only
  try k_fold
  clear hq
  k_steps
  exact EndP.intro (by assumption) (ex_int (foldl_fst ns (fun n b => 2 * n + b) _ (fun p n => rfl) _))
end num
end Mine
theorem Mine.none7 : True := by
  k_with_none
  trivial
end

/- CB64 -/
section
theorem Mine.none13 : True := by
  k_with_none
  trivial
open PySem PySem.W PyProof.Rows PySem.Calls PySem.Spec
set_option maxRecDepth 100000
set_option maxHeartbeats 8000000
set_option linter.all false
namespace Mine
section b64

theorem words8 : True := by
  k_with "mine enter" => (k_dflt (refine' enterP (by assumption) (by assumption) (by assumption) (by assumption) rfl rfl ?kKq5 ?k6q5 ?k7q5 ?k8q5 ?k9q5 ?kBq5 (by assumption) ?_ ?c2q5 ?c3q5 ?c4q5 ?c5q5; (case kKq5 => assumption); (case k6q5 => k_is); (case k7q5 => k_is); (case k8q5 => ktr_room); (case k9q5 => first | exact BindsTo.of_eq rfl | exact binds_K (by k_in) rfl (by k_is) rfl rfl rfl); (case c5q5 => decide); (case kBq5 => exact locs rfl); (case c2q5 => exact rfl); (case c3q5 => exact rfl); (case c4q5 => exact rfl); k_whole))
  k_with "mine start" => (unfold Contr; k_fill; intro dp un gd cn cs a ccd cl outer A₀ base h₀ L m s Q E B F X T hk hd hu hl hq; walk_at "mine enter"; intro L'9 h'9 F'9 N'9 B'9 X'9 T'9; (try dsimp only); (try k_fold); clear hq)
  trivial
theorem type_bytes {prog : Program} {w : World} {A : Around} {E : Value → Shared → Prop} {h : Heap} {g d tk os} {b : Array UInt8} {t : Tok} {Q : Value → Shared → Prop} (hq : Q (.type "bytes") ⟨h, g, d, tk, os⟩) :
    wpAny (model prog w) A (call (.type "type") [.bytes b t]) Q E ⟨h, g, d, tk, os⟩ := by
  refine wpAny_call (codeAny_of_tree ?_)
  show wpAny _ _ (callAny (.type "type") ⟨[.bytes b t], []⟩) _ _ _
  simp only [callAny]
  refine wpAny_pure ⟨Code.quiet_builtin _ (by decide +kernel), codeAny_builtin entry_type_call ?_⟩
  unfold Builtin.«type.__call__»
  dsimp only
  unfold shownTypeOf
  repeat wp_step
  exact hq
theorem words9 : True := by
  k_with "call type:type" => ((with_reducible show wpAny _ _ (call (Value.type "type") [Value.bytes _ _]) _ _ _); refine type_bytes ?_)
  trivial
theorem c_buffer (w : World) (mean : ExcName → Option Value) (mg mb : Str → Option Value) (b : Array UInt8) (t : Tok) : Contr 3 w mean mg mb 82 [.bytes b t] [] (fun _ => True) (fun _ v => v = .bytes b t) := by
  walk_at "mine start"
  k_steps
  exact EndP.intro (by assumption) rfl
theorem c_truth (w : World) (mean : ExcName → Option Value) (mg mb : Str → Option Value) : Contr 3 w mean mg mb 89 [.bool false] [] (fun _ => True) (fun _ v => v = .bool false) := by
  walk_at "mine start"
  k_steps
  exact EndP.intro (by assumption) rfl
noncomputable def B64 : List UInt8 := [65,66,67,68,69,70,71,72,73,74,75,76,77,78,79,80,81,82,83,84,85,86,87,88,89,90,97,98,99,100,101,102,103,104,105,106,107,108,109,110,111,112,113,114,115,116,117,118,119,120,121,122,48,49,50,51,52,53,54,55,56,57,43,47]
noncomputable def sgn (i : Int) : Int := ((B64.getD i.toNat 0).toNat : Int)
theorem sgn_in (i : Int) : 0 ≤ sgn i ∧ sgn i < 256 := by
  unfold sgn
  have := (B64.getD i.toNat 0).toNat_lt
  omega
theorem b64_item {prog : Program} {w : World} {A : Around} {E : Value → Shared → Prop} {s : Shared} {value slice : PySem.Expr} {t : Tok} {Q : Value → Shared → Prop} {i : Int} {ui : Tok} (h0 : 0 ≤ i) (h1 : i < 64)
    (h : ∀ r, r = sgn i → 0 ≤ r → r < 256 → Q (.int r s.toks) { s with toks := s.toks + 1 })
    (hs : subscripted slice false (.bytes B64.toArray t) (.int i ui) = operate [.bytes B64.toArray t, .int i ui] (getItem (.bytes B64.toArray t) (.int i ui)) := by with_unfolding_all rfl)
    (ht : ∀ r, letTemporaryGo value (.bytes B64.toArray t) r = pure () := by intro _; with_unfolding_all rfl) :
    wpAny (model prog w) A (subscriptTail value slice (.bytes B64.toArray t) (.int i ui)) Q E s :=
  KBy.item_N (by decide) h0 h1 (h _ rfl (sgn_in i).1 (sgn_in i).2) hs ht
theorem words10 : True := by
  k_with "call ref" => ((with_reducible show wpAny _ _ (call (Value.ref 82) _ _) _ _ _); k_dflt (refine' use (c_buffer _ _ _ _ _ _) ?u1q8 ?u2q8 ?u3q8 ?u4q8 ?u5q8 ?u6q8 ?u7q8 ?u8q8 trivial ?_; (case u1q8 => k_asm); (case u2q8 => k_asm); (case u3q8 => k_asm); (case u4q8 => k_asm); (case u5q8 => k_asm); (case u6q8 => first | exact rfl | assumption); (case u7q8 => ktr_room); (case u8q8 => ktr_units)); intro v'9 h'9 tk'9 F'9 N'9 st'9 ev'9; subst ev'9; (try dsimp only))
  k_with "call ref" => ((with_reducible show wpAny _ _ (call (Value.ref 89) _ _) _ _ _); k_dflt (refine' use (c_truth _ _ _ _) ?u1q9 ?u2q9 ?u3q9 ?u4q9 ?u5q9 ?u6q9 ?u7q9 ?u8q9 trivial ?_; (case u1q9 => k_asm); (case u2q9 => k_asm); (case u3q9 => k_asm); (case u4q9 => k_asm); (case u5q9 => k_asm); (case u6q9 => first | exact rfl | assumption); (case u7q9 => ktr_room); (case u8q9 => ktr_units)); intro v'9 h'9 tk'9 F'9 N'9 st'9 ev'9; subst ev'9; (try dsimp only))
  k_with "pyIter bytes" => ((with_reducible show wpAny _ _ (pyIter (Value.bytes _ _)) (fun it s₂ => LoopAtV _ _ _ _ _ _ _ _ _ it s₂) _ _); k_here; k_bytesUnr)
  k_with "binaryOp LShift int int" => (refine r_shl8 rfl (by first | with_reducible assumption | decide) (by first | with_reducible assumption | decide) ?_; intro r'9 hr'9)
  k_with "binaryOp BitOr int int" => (refine r_or8 (by with_reducible assumption) (by first | with_reducible assumption | decide) (by with_reducible assumption) (by with_reducible assumption) ?_; intro r'9 hr'9)
  k_with "binaryOp BitAnd int int" => (first | (refine r_mask16 rfl ?_; intro r'9 hr'9 hlo'9 hhi'9) | (refine r_mask6 rfl ?_; intro r'9 hr'9 hlo'9 hhi'9))
  k_with "binaryOp RShift int int" => (first | (refine r_shr 2 4 rfl (by decide) ?_; intro r'9 hr'9) | (refine r_shr 4 16 rfl (by decide) ?_; intro r'9 hr'9) | (refine r_shr 6 64 rfl (by decide) ?_; intro r'9 hr'9) | (refine r_shr 0 1 rfl (by decide) ?_; intro r'9 hr'9))
  k_with "subscriptTail" => ((with_reducible show wpAny _ _ (subscriptTail _ _ (Value.bytes _ _) (Value.int _ _)) _ _ _); k_dflt (refine b64_item (by with_reducible assumption) (by with_reducible assumption) ?_; intro r'9 hr'9 hlo'9 hhi'9))
  trivial
theorem bytes4 {prog : Program} {w : World} {A : Around} {E : Value → Shared → Prop} {s : Shared} {h₀ : Heap} {L D : Addr} {m : Str → Option Value} {news : List (Addr × Obj)} {a b c d : Int} {ta tb tc td : Tok} {n : Nat} {Q : Value → Shared → Prop} (F : Fr h₀ L s.heap m) (N : News h₀ L s.heap news) (hh : A.handled = none)
    (hm : (D, PySem.W.listOf #[.int a ta, .int b tb, .int c tc, .int d td] n) ∈ news) (ha : 0 ≤ a ∧ a < 256) (hb : 0 ≤ b ∧ b < 256) (hc : 0 ≤ c ∧ c < 256) (hd : 0 ≤ d ∧ d < 256)
    (h : ∀ h' b' t' k, Fr h₀ L h' m → News h₀ L h' news → KBw.bInts b' = [a, b, c, d] → Q (.bytes b' t') { s with heap := h', toks := k }) : wpAny (model prog w) A (call (.type "bytes") [.ref D]) Q E s := by
  have hin : KBa.In [a, b, c, d] := by
    intro x hx
    simp only [List.mem_cons, List.not_mem_nil, or_false] at hx
    rcases hx with rfl | rfl | rfl | rfl <;> assumption
  refine KBa.make_K (vs := [.int a ta, .int b tb, .int c tc, .int d td]) (ns := [a, b, c, d]) F N hh ⟨_, (N _ hm).1, rfl, _, rfl⟩ (.cons _ _ (.cons _ _ (.cons _ _ (.cons _ _ .nil)))) hin (Nat.le_of_ble_eq_true rfl) ?_
  intro h' t' k F' N' _
  exact h h' _ t' k F' N' (KBa.ints_make hin)
theorem words11 : True := by
  k_with "call type:bytes" => (k_dflt (refine bytes4 (by k_asm) (by k_asm) rfl (by k_mem) ⟨by assumption, by assumption⟩ ⟨by assumption, by assumption⟩ ⟨by assumption, by assumption⟩ ⟨by assumption, by assumption⟩ ?_); intro h'9 b'9 t'9 k'9 F'9 N'9 hB'9)
  trivial
theorem ar1 {x : Int} (hx : 0 ≤ x ∧ x < 256) : (0 * 256 + x) % 65536 = x := by
  rw [Int.zero_mul, Int.zero_add]; exact Int.emod_eq_of_lt hx.1 (Int.lt_trans hx.2 (by decide))
theorem ar2 {x y : Int} (hx : 0 ≤ x ∧ x < 256) (hy : 0 ≤ y ∧ y < 256) : (x * 256 + y) % 65536 = x * 256 + y := Int.emod_eq_of_lt (by omega) (by omega)
theorem ar3 {x y z : Int} (hy : 0 ≤ y ∧ y < 256) (hz : 0 ≤ z ∧ z < 256) : ((x * 256 + y) * 256 + z) % 65536 = y * 256 + z := by omega
theorem ar4 {x : Int} (hx : 0 ≤ x ∧ x < 256) : x / 4 % 64 = x / 4 := Int.emod_eq_of_lt (by omega) (by omega)
theorem ar5 {x y : Int} (hy : 0 ≤ y ∧ y < 256) : (x * 256 + y) / 16 % 64 = x % 4 * 16 + y / 16 := by omega
theorem ar6 {y z : Int} (hz : 0 ≤ z ∧ z < 256) : (y * 256 + z) / 64 % 64 = y % 16 * 4 + z / 64 := by omega
theorem ar7 {y z : Int} : (y * 256 + z) / 1 % 64 = z % 64 := by omega
theorem b64_arith {x y z : Int} (hx : 0 ≤ x ∧ x < 256) (hy : 0 ≤ y ∧ y < 256) (hz : 0 ≤ z ∧ z < 256) :
    (0 * 256 + x) % 65536 / 4 % 64 = x / 4 ∧ ((0 * 256 + x) % 65536 * 256 + y) % 65536 / 16 % 64 = x % 4 * 16 + y / 16 ∧ (((0 * 256 + x) % 65536 * 256 + y) % 65536 * 256 + z) % 65536 / 64 % 64 = y % 16 * 4 + z / 64 ∧ (((0 * 256 + x) % 65536 * 256 + y) % 65536 * 256 + z) % 65536 / 1 % 64 = z % 64 := by
  rw [ar1 hx, ar2 hx hy, ar3 hy hz]
  exact ⟨ar4 hx, ar5 hy, ar6 hz, ar7⟩
theorem c_b2a (w : World) (mean : ExcName → Option Value) (mg mb : Str → Option Value) (b : Array UInt8) (t : Tok) (x y z : Int) (hb : KBw.bInts b = [x, y, z]) : Contr 6 w mean mg mb 97 [.bytes b t] [(Str.ofString "newline", .bool false)] (fun _ => True) (fun _ v => ∃ b' t', v = .bytes b' t' ∧ KBw.bInts b' = [sgn (x / 4), sgn (x % 4 * 16 + y / 16), sgn (y % 16 * 4 + z / 64), sgn (z % 64)]) := by
  walk_at "mine start"
  k_steps
  rename KBw.bInts _ = [_, _, _, _] => hB
  refine EndP.intro (by assumption) ⟨_, _, rfl, ?_⟩
  rw [hB]
  clear hB
  subst_vars
  obtain ⟨q1, q2, q3, q4⟩ := b64_arith (x := x) (y := y) (z := z) ⟨by assumption, by assumption⟩ ⟨by assumption, by assumption⟩ ⟨by assumption, by assumption⟩
  exact List.cons_eq_cons.mpr ⟨congrArg sgn q1, List.cons_eq_cons.mpr ⟨congrArg sgn q2, List.cons_eq_cons.mpr ⟨congrArg sgn q3, List.cons_eq_cons.mpr ⟨congrArg sgn q4, rfl⟩⟩⟩⟩
theorem words12 : True := by
  k_with "call ref" => ((with_reducible show wpAny _ _ (call (Value.ref 97) _ _) _ _ _); k_dflt (refine' use (c_b2a _ _ _ _ _ _ _ _ _ ?uhq17) ?u1q17 ?u2q17 ?u3q17 ?u4q17 ?u5q17 ?u6q17 ?u7q17 ?u8q17 trivial ?_; (case uhq17 => assumption); (case u1q17 => k_asm); (case u2q17 => k_asm); (case u3q17 => k_asm); (case u4q17 => k_asm); (case u5q17 => k_asm); (case u6q17 => first | exact rfl | assumption); (case u7q17 => ktr_room); (case u8q17 => ktr_units)); intro v'9 h'9 tk'9 F'9 N'9 st'9 ev'9; obtain ⟨b'9, t'9, ev'9, eb'9⟩ := ev'9; subst ev'9; (try dsimp only))
  trivial
theorem c_b64 (w : World) (mean : ExcName → Option Value) (mg mb : Str → Option Value) (b : Array UInt8) (t : Tok) (x y z : Int) (hb : KBw.bInts b = [x, y, z]) : Contr 9 w mean mg mb 105 [.bytes b t] [] (fun _ => True) (fun _ v => ∃ b' t', v = .bytes b' t' ∧ KBw.bInts b' = [sgn (x / 4), sgn (x % 4 * 16 + y / 16), sgn (y % 16 * 4 + z / 64), sgn (z % 64)]) := by
  walk_at "mine start"
  k_steps
  exact EndP.intro (by assumption) ⟨_, _, rfl, by assumption⟩
end b64
end Mine
theorem Mine.none14 : True := by
  k_with_none
  trivial
end

/- CFm -/
section
theorem Mine.none20 : True := by
  k_with_none
  trivial
open PySem PySem.W PyProof.Rows PySem.Calls PySem.Spec
set_option maxRecDepth 100000
set_option maxHeartbeats 8000000
set_option linter.all false
namespace Mine
section fm
theorem For_elseF {prog : Program} {w : World} {A : Around} {E : Value → Shared → Prop} {s : Shared} {env : Env} {h₀ : Heap} {m : Str → Option Value} {target : PySem.Expr} {body orelse : List Stmt} {Q : Flow → Shared → Prop} {iter : PySem.Expr} {pos : Pos} (F : Fr h₀ env.locals s.heap m) (h : wpAny (model prog w) A (eval iter env) (ElseAt prog w A E h₀ env target body orelse Q) E s)
    (hs : ∀ x, foldedSetIterable iter env x = pure x := by intro _; rfl)
    (hE : PassesOwn (model prog w) A env E := by passes_own) :
    wpAny (model prog w) A (exec (.For target iter body orelse pos) env) Q E s := For_else h hs hE

theorem words15 : True := by
  k_with "mine enter" => (k_dflt (refine' enterP (by assumption) (by assumption) (by assumption) (by assumption) rfl rfl ?kKq18 ?k6q18 ?k7q18 ?k8q18 ?k9q18 ?kBq18 (by assumption) ?_ ?c2q18 ?c3q18 ?c4q18 ?c5q18; (case kKq18 => assumption); (case k6q18 => k_is); (case k7q18 => k_is); (case k8q18 => ktr_room); (case k9q18 => first | exact BindsTo.of_eq rfl | exact binds_K (by k_in) rfl (by k_is) rfl rfl rfl); (case c5q18 => decide); (case kBq18 => exact locs rfl); (case c2q18 => exact rfl); (case c3q18 => exact rfl); (case c4q18 => exact rfl); k_whole))
  k_with "mine start" => (unfold Contr; k_fill; intro dp un gd cn cs a ccd cl outer A₀ base h₀ L m s Q E B F X T hk hd hu hl hq; walk_at "mine enter"; intro L'9 h'9 F'9 N'9 B'9 X'9 T'9; (try dsimp only); (try k_fold); clear hq)
  trivial
theorem c_ifmt (w : World) (mean : ExcName → Option Value) (mg mb : Str → Option Value) (n : Int) (t : Tok) (hn : Builtin.bitAnd n 61440 = 40960) : Contr 3 w mean mg mb 35 [.int n t] [] (fun _ => True) (fun _ v => ∃ t', v = .int 40960 t') := by
  walk_at "mine start"
  k_steps
  exact EndP.intro (by assumption) (ex_int hn)
noncomputable def fmcp (n : Int) : Nat → Nat
  | 0 => 108
  | 1 => if Builtin.bitAnd n 256 = 256 then 114 else 45
  | 2 => if Builtin.bitAnd n 128 = 128 then 119 else 45
  | 3 => if Builtin.bitAnd n 2112 = 2112 then 115 else if Builtin.bitAnd n 2048 = 2048 then 83 else if Builtin.bitAnd n 64 = 64 then 120 else 45
  | 4 => if Builtin.bitAnd n 32 = 32 then 114 else 45
  | 5 => if Builtin.bitAnd n 16 = 16 then 119 else 45
  | 6 => if Builtin.bitAnd n 1032 = 1032 then 115 else if Builtin.bitAnd n 1024 = 1024 then 83 else if Builtin.bitAnd n 8 = 8 then 120 else 45
  | 7 => if Builtin.bitAnd n 4 = 4 then 114 else 45
  | 8 => if Builtin.bitAnd n 2 = 2 then 119 else 45
  | _ => if Builtin.bitAnd n 513 = 513 then 116 else if Builtin.bitAnd n 512 = 512 then 84 else if Builtin.bitAnd n 1 = 1 then 120 else 45
noncomputable def fmc (n : Int) (i : Nat) : Str := ⟨#[fmcp n i]⟩
/-- the texts so far -/
noncomputable def FmC (n : Int) (i : Nat) (cs : List Value) : Prop := cs.length = i ∧ ∀ j v, cs[j]? = some v → ∃ t, v = Value.str (fmc n j) t
noncomputable def fmJ (n : Int) (p : Addr) (i : Nat) (m : Str → Option Value) (news : List (Addr × Obj)) : Prop :=
  ∃ t cs k, m (Str.ofString "mode") = some (.int n t) ∧ m (Str.ofString "perm") = some (.ref p) ∧ news = [(p, PySem.W.listOf cs.toArray k)] ∧ FmC n i cs
theorem words16 : True := by
  k_with "call ref" => ((with_reducible show wpAny _ _ (call (Value.ref 35) _ _) _ _ _); k_dflt (refine' use (c_ifmt _ _ _ _ _ _ (by assumption)) ?u1q20 ?u2q20 ?u3q20 ?u4q20 ?u5q20 ?u6q20 ?u7q20 ?u8q20 trivial ?_; (case u1q20 => k_asm); (case u2q20 => k_asm); (case u3q20 => k_asm); (case u4q20 => k_asm); (case u5q20 => k_asm); (case u6q20 => first | exact rfl | assumption); (case u7q20 => ktr_room); (case u8q20 => ktr_units)); intro v'9 h'9 tk'9 F'9 N'9 st'9 ev'9; obtain ⟨t'9, ev'9⟩ := ev'9; subst ev'9; (try dsimp only))
  k_with "exec For Tuple Name cons cons" => ((with_reducible show wpAny _ _ (exec (Stmt.For _ _ _ (_ :: _) _) _) _ _ _); k_dflt (refine For_elseF (by k_asm) ?_))
  k_with "ElseAt" => (k_dflt (refine' ElseAt.intro ?etq22 rfl ?eFq22 ?eNq22 ?_; (case eFq22 => k_asm); (case eNq22 => k_asm); (case etq22 => exact ⟨_, Frag.In.keeps (by k_asm) (fun _ _ h => h) _ _ (by k_is), rfl, _, rfl⟩)); intro h'9 I'9 hI'9; (have hpI'9 := ltN (hI'9 _ (List.mem_cons_self ..))); (try dsimp only at hpI'9))
  k_with "ElseRest" => (with_unfolding_all first | (refine ElseRest.cons (fun it'9 h'9 tk'9 F'9 N'9 => ?_)) | (refine ElseRest.nil (fun h'9 tk'9 F'9 N'9 => ?_)))
  k_with "UnrEnd" => (refine UnrEnd.intro (by assumption) (by assumption) _ (fun p hp => hp) (fun p hp => Nat.ne_of_lt (by apply_assumption; exact hp)) ?_)
  trivial
theorem turn_fin {h₀ h' : Heap} {L pl : Addr} {own all : List (Addr × Obj)} {m₂ : Str → Option Value} {n : Int} {i k tk : Nat} {t0 tc : Tok} {ch : List Value} {c : Str} {s₁ : Shared} (F : Fr h₀ L h' m₂) (N : News h₀ L h' all)
    (hm : m₂ (Str.ofString "mode") = some (.int n t0)) (hp : m₂ (Str.ofString "perm") = some (.ref pl)) (hin : (pl, PySem.W.listOf (ch.toArray.push (.str c tc)) k) ∈ all) (hown : ∀ p ∈ own, p ∈ all) (hC : FmC n i ch) (hc : c = fmc n i) :
    TurnEnd h₀ L own [pl] (fmJ n pl (i + 1)) s₁ .next { s₁ with heap := h', toks := tk } := by
  rw [List.push_toArray] at hin
  refine ⟨rfl, h', tk, m₂, [(pl, PySem.W.listOf (ch ++ [Value.str c tc]).toArray k)], rfl, F, fun p hp => ?_, rfl, ⟨t0, _, k, hm, hp, rfl, ?_, ?_⟩⟩
  · rcases List.mem_cons.mp hp with rfl | hp
    · exact N _ hin
    · exact N _ (hown p hp)
  · rw [List.length_append, hC.1]; rfl
  · intro j v hj
    rcases Nat.lt_or_ge j ch.length with hlt | hge
    · rw [List.getElem?_append_left hlt] at hj
      exact hC.2 j v hj
    · rw [List.getElem?_append_right hge] at hj
      have h0 : j - ch.length = 0 := by
        rcases Nat.eq_zero_or_pos (j - ch.length) with h | h
        · exact h
        · rw [List.getElem?_eq_none (by simp only [List.length_cons, List.length_nil]; omega)] at hj; cases hj
      rw [h0] at hj
      have hji : j = i := by have := hC.1; omega
      simp only [List.getElem?_cons_zero, Option.some.injEq] at hj
      exact ⟨tc, by rw [← hj, hji, hc]⟩
theorem words17 : True := by
  k_with "mine fm end" => (refine turn_fin (by assumption) (by assumption) rfl rfl (by k_mem) (by (intro p hp; k_ownIn)) (by assumption) ?_; (simp only [fmc, fmcp]); (repeat (first | rw [if_pos (by assumption)] | rw [if_neg (by assumption)])); (try rfl))
  trivial
theorem FmC.strs {n : Int} {i : Nat} {cs : List Value} (h : FmC n i cs) : StrsAre cs ((List.range i).map (fmc n)) := by
  have key : ∀ (l : List Value) (k : Nat), (∀ j v, l[j]? = some v → ∃ t, v = Value.str (fmc n (k + j)) t) → StrsAre l ((List.range' k l.length).map (fmc n)) := by
    intro l
    induction l with
    | nil => intro k _; exact .nil
    | cons v r ih =>
      intro k hv
      obtain ⟨t, rfl⟩ := hv 0 v rfl
      exact .cons _ t (ih (k + 1) fun j u hj => by rw [show k + 1 + j = k + (j + 1) by omega]; exact hv (j + 1) u (by simpa using hj))
  have := key cs 0 (by simpa using h.2)
  rw [h.1] at this
  rwa [List.range_eq_range']
theorem words18 : True := by
  k_with "call builtin:str.join" => (k_dflt (refine join_listW (News.isList (by k_asm) (by k_mem)) (by assumption) (by decide +kernel) (Nat.le_of_ble_eq_true rfl) ?_); intro t'9 k'9)
  trivial
/-- one sign of a table: the tuple's address, its bits, its letter -/
noncomputable def TupAt (h : Heap) (q : Addr × Int × Nat) : Prop := ∃ t1 t2, h.IsTuple q.1 #[Value.int q.2.1 t1, Value.str ⟨#[q.2.2]⟩ t2]
/-- the letter that a table tells of a mode -/
noncomputable def pick (n : Int) : List (Addr × Int × Nat) → Nat
  | [] => 45
  | q :: r => if Builtin.bitAnd n q.2.1 = q.2.1 then q.2.2 else pick n r
theorem assign2t {prog : Program} {w : World} {A : Around} {E : Value → Shared → Prop} {s : Shared} {env : Env} {h₀ : Heap} {m : Str → Option Value} {news : List (Addr × Obj)} {a b : Str} {pa pb tp : Pos} {k : Nat} {U : Addr} {v0 v1 : Value} {Q : Unit → Shared → Prop} (hh : A.handled = none)
    (F : Fr h₀ env.locals s.heap m) (N : News h₀ env.locals s.heap news) (ht : h₀.IsTuple U #[v0, v1]) (ha : env.kindOf a = some .local) (hb : env.kindOf b = some .local) (hp : (env.scope.kind == .class || (env.scope.kind == .module && env.locals != env.globals)) = false)
    (h : ∀ h' tk, Fr h₀ env.locals h' (fun y => if y = b then some v1 else if y = a then some v0 else m y) → News h₀ env.locals h' news → Q () { s with heap := h', toks := tk }) :
    wpAny (model prog w) A (assign (.Tuple [.Name a pa, .Name b pb] k tp) env (.ref U)) Q E s := by
  have hL₀ : h₀.get? env.locals = none := Heap.get?_none_of_le F.above
  refine assign_Tuple_tuple hh (let ⟨o, ho, r⟩ := ht; ⟨o, F.keep U o ho, r⟩) rfl rfl fun h₅ he => ?_
  have k5 : ∀ b o, s.heap.get? b = some o → h₅.get? b = some o := fun b o e => he b o (Nat.ne_of_lt (Heap.lt_size e)) e
  refine assignInOrder_cons (wpAny_assign_Name (wpAny_storeName_local ha (F.ns.at' fun o e => k5 _ o e) (fun h₆ hn₆ hs₆ => ?_) hp))
  refine assignInOrder_cons (wpAny_assign_Name (wpAny_storeName_local hb hn₆ (fun h₇ hn₇ hs₇ => ?_) hp))
  refine assignInOrder_nil ?_
  have k7 : ∀ b o, b ≠ env.locals → s.heap.get? b = some o → h₇.get? b = some o := fun b o hb e => hs₇.extBut b o hb (hs₆.extBut b o hb (k5 b o e))
  exact h h₇ _ ⟨hn₇, fun b o e => k7 b o (fun q => by rw [q, hL₀] at e; cases e) (F.keep b o e), F.above⟩ fun p hp => ⟨k7 _ _ (N p hp).2.1 (N p hp).1, (N p hp).2⟩
theorem else_ind {prog : Program} {w : World} {A : Around} {E : Value → Shared → Prop} {h₀ : Heap} {env : Env} {target : PySem.Expr} {body orelse : List Stmt} {Q : Flow → Shared → Prop} {s : Shared} {I : Addr} {news : List (Addr × Obj)} (n : Int) (P : (Str → Option Value) → Prop) (tgt : Nat)
    (hit : ∀ q r m, P m → TupAt h₀ q → pick n (q :: r) = tgt → (∀ m', P m' → pick n r = tgt → ElseRest prog w A E h₀ env target body orelse Q s I (r.map fun q => .ref q.1) m' news) → ElseRest prog w A E h₀ env target body orelse Q s I (.ref q.1 :: (r.map fun q => .ref q.1)) m news)
    (nil : ∀ m, P m → pick n [] = tgt → ElseRest prog w A E h₀ env target body orelse Q s I [] m news) :
    ∀ (its : List (Addr × Int × Nat)) m, (∀ q ∈ its, TupAt h₀ q) → P m → pick n its = tgt → ElseRest prog w A E h₀ env target body orelse Q s I (its.map fun q => .ref q.1) m news
  | [], m, _, hP, hp => nil m hP hp
  | q :: r, m, hT, hP, hp => hit q r m hP (hT q (.head _)) hp fun m' hP' hp' => else_ind n P tgt hit nil r m' (fun q hq => hT q (.tail _ hq)) hP' hp'
noncomputable def TabAt10 (h : Heap) (n : Int) (i : Nat) (x : Value) : Prop := ∃ T its, x = .ref T ∧ h.IsTuple T (its.map fun (q : Addr × Int × Nat) => Value.ref q.1).toArray ∧ (∀ q ∈ its, TupAt h q) ∧ pick n its = fmcp n i
theorem eq_no {prog : Program} {w : World} {A : Around} {E : Value → Shared → Prop} {s : Shared} {a b : Int} {t u : Tok} {Q : Value → Shared → Prop} (hne : a ≠ b) (h : Q (.bool false) s) : wpAny (model prog w) A (compareOp .Eq (.int a t) (.int b u)) Q E s := by
  refine eq_int ?_
  rw [show (a == b) = false from beq_eq_false_iff_ne.mpr hne]
  exact h
theorem words19 : True := by
  k_with "compareOp Eq int int" => (refine eq_no (by with_reducible assumption) ?_)
  trivial
theorem c_fm (w : World) (mean : ExcName → Option Value) (mg mb : Str → Option Value) (n : Int) (t : Tok) (hn : Builtin.bitAnd n 61440 = 40960) : Contr 6 w mean mg mb 75 [.int n t] [] (fun h => True) (fun _ v => ∃ t, v = Value.str ⟨#[fmcp n 0, fmcp n 1, fmcp n 2, fmcp n 3, fmcp n 4, fmcp n 5, fmcp n 6, fmcp n 7, fmcp n 8, fmcp n 9]⟩ t) := by
  unfold Contr
  k_fill
  intro dp un gd cn cs a ccd cl outer A₀ base h₀ L m s Q E B F X T hk hd hu hl hq
  walk_at "mine enter"
  intro L' h' F' N' B' X' T'
  try dsimp only
  try k_fold
  clear hq
  repeat ((fail_if_success (with_reducible show wpAny _ _ (call (Value.type "enumerate") _ _) _ _ _)); first | walk1 | (dsimp only; walk1))

  · rename Fr _ _ _ _ => lF
    rename News _ _ _ _ => lN
    rename_i pl _ _ _
    k_dflt (refine' enum_loop (fmJ n pl) ?hh ?hl ?eF ?eN ?h0 ?turn ?done; (case eF => exact lF); (case eN => exact lN); (case hh => rfl); (case hl => exact ⟨_, X' 68 _ (by k_is), rfl, _, rfl⟩))
    case h0 => exact ⟨_, [], _, rfl, rfl, rfl, rfl, fun _ _ h => nomatch h⟩
    case turn =>
      clear lF lN
      intro i x t m₁ news₁ h tk own hx hJ hadr hoff F₁ N₁
      obtain ⟨t0, ch, kn, e1, e2, rfl, hC⟩ := hJ
      have hme := kst_self (m := m₁) (ps := [(Str.ofString "mode", _), (Str.ofString "perm", _)]) (by simp only [List.forall_mem_cons]; exact ⟨e1, e2, fun _ h => nomatch h⟩)
      rw [hme] at F₁
      clear hme hadr
      dsimp only [kstB, envOf] at F₁
      dsimp only [List.map, List.cons_append, List.nil_append, envOf] at hoff N₁
      have hch : ch.toArray.size = i := by rw [List.size_toArray]; exact hC.1
      have hi : i < 10 := by
        obtain ⟨h1, _⟩ := Array.getElem?_eq_some_iff.mp hx
        exact h1
      have hcases : i = 0 ∨ i = 1 ∨ i = 2 ∨ i = 3 ∨ i = 4 ∨ i = 5 ∨ i = 6 ∨ i = 7 ∨ i = 8 ∨ i = 9 := lt10 hi
      have hch10 : ch.toArray.size ≤ 10 := by omega
      clear hi
      have hT : i = 0 ∨ ((i : Int) ≠ 0 ∧ TabAt10 s.heap n i x) := by
        have tup : ∀ {a : Nat} {o : Obj} {its : Array Value} {k : Nat}, ((Mine.hd.heap_39 w.params).lookup a) = some o → o.cls = .type "tuple" → o.data = .seq its k → s.heap.IsTuple a its := fun ho hc hd => ⟨_, X' _ _ ho, hc, _, hd⟩
        rcases hcases with rfl | rfl | rfl | rfl | rfl | rfl | rfl | rfl | rfl | rfl
        · exact .inl rfl
        all_goals
          refine .inr ⟨by decide, ?_⟩
          simp only [List.getElem?_toArray, List.getElem?_cons_succ, List.getElem?_cons_zero, Option.some.injEq] at hx
          subst hx
        · exact ⟨45, [(44, 256, 114)], rfl, tup (a := 45) (by k_is) rfl rfl, (allc ⟨_, _, tup (a := 44) (by k_is) rfl rfl⟩ (fun _ h => nomatch h)), rfl⟩
        · exact ⟨47, [(46, 128, 119)], rfl, tup (a := 47) (by k_is) rfl rfl, (allc ⟨_, _, tup (a := 46) (by k_is) rfl rfl⟩ (fun _ h => nomatch h)), rfl⟩
        · exact ⟨51, [(48, 2112, 115), (49, 2048, 83), (50, 64, 120)], rfl, tup (a := 51) (by k_is) rfl rfl, (allc ⟨_, _, tup (a := 48) (by k_is) rfl rfl⟩ (allc ⟨_, _, tup (a := 49) (by k_is) rfl rfl⟩ (allc ⟨_, _, tup (a := 50) (by k_is) rfl rfl⟩ (fun _ h => nomatch h)))), rfl⟩
        · exact ⟨53, [(52, 32, 114)], rfl, tup (a := 53) (by k_is) rfl rfl, (allc ⟨_, _, tup (a := 52) (by k_is) rfl rfl⟩ (fun _ h => nomatch h)), rfl⟩
        · exact ⟨55, [(54, 16, 119)], rfl, tup (a := 55) (by k_is) rfl rfl, (allc ⟨_, _, tup (a := 54) (by k_is) rfl rfl⟩ (fun _ h => nomatch h)), rfl⟩
        · exact ⟨59, [(56, 1032, 115), (57, 1024, 83), (58, 8, 120)], rfl, tup (a := 59) (by k_is) rfl rfl, (allc ⟨_, _, tup (a := 56) (by k_is) rfl rfl⟩ (allc ⟨_, _, tup (a := 57) (by k_is) rfl rfl⟩ (allc ⟨_, _, tup (a := 58) (by k_is) rfl rfl⟩ (fun _ h => nomatch h)))), rfl⟩
        · exact ⟨61, [(60, 4, 114)], rfl, tup (a := 61) (by k_is) rfl rfl, (allc ⟨_, _, tup (a := 60) (by k_is) rfl rfl⟩ (fun _ h => nomatch h)), rfl⟩
        · exact ⟨63, [(62, 2, 119)], rfl, tup (a := 63) (by k_is) rfl rfl, (allc ⟨_, _, tup (a := 62) (by k_is) rfl rfl⟩ (fun _ h => nomatch h)), rfl⟩
        · exact ⟨67, [(64, 513, 116), (65, 512, 84), (66, 1, 120)], rfl, tup (a := 67) (by k_is) rfl rfl, (allc ⟨_, _, tup (a := 64) (by k_is) rfl rfl⟩ (allc ⟨_, _, tup (a := 65) (by k_is) rfl rfl⟩ (allc ⟨_, _, tup (a := 66) (by k_is) rfl rfl⟩ (fun _ h => nomatch h)))), rfl⟩
      clear hcases
      rcases hT with rfl | ⟨hi0, T, its, rfl, hT, hU, hp⟩
      · simp only [List.getElem?_toArray, List.getElem?_cons_zero, Option.some.injEq] at hx
        subst hx
        skip
        k_steps
        all_goals (walk_at "mine fm end")
      · clear hx
        k_steps
        refine ElseAt.intro hT rfl (by assumption) (by assumption) ?_
        intro h' I' hI'
        have hpI' := ltN (hI' _ (List.mem_cons_self ..))
        dsimp only at hpI'
        refine else_ind n (fun m => m (Str.ofString "mode") = some (.int n t0) ∧ m (Str.ofString "perm") = some (.ref pl) ∧ m (Str.ofString "index") = some (.int (i : Int) t)) (fmcp n i) ?_ ?_ its _ hU ⟨rfl, rfl, rfl⟩ hp
        · clear hp hU hT F₁ N₁
          intro ⟨U, bb, cc⟩ r m hP hq hpk ih
          obtain ⟨p1, p2, p3⟩ := hP
          obtain ⟨u1, u2, hq⟩ := hq
          refine ElseRest.cons (fun it h tk F N => ?_)
          have hme := kst_self (m := m) (ps := [(Str.ofString "mode", _), (Str.ofString "perm", _), (Str.ofString "index", _)]) (by simp only [List.forall_mem_cons]; exact ⟨p1, p2, p3, fun _ h => nomatch h⟩)
          rw [hme] at F
          clear hme
          dsimp only [kstB, envOf] at F
          dsimp only at hpk hq
          refine assign2t rfl F N hq rfl rfl rfl ?_
          clear F N
          intro h₅ tk₅ F₅ N₅
          dsimp only [envOf] at F₅ N₅
          try k_fold
          k_steps
          · refine turn_fin (by assumption) (by assumption) rfl rfl (by k_mem) (by (intro p hp; k_ownIn)) (by assumption) ?_
            show _ = (⟨#[fmcp n i]⟩ : Str)
            rw [← hpk]
            show _ = (⟨#[if _ = _ then _ else _]⟩ : Str)
            rw [if_pos (by assumption)]
          · refine ih _ ⟨rfl, rfl, rfl⟩ ?_
            rw [← hpk]
            exact (if_neg (by assumption)).symm
        · intro m hP hpk
          obtain ⟨p1, p2, p3⟩ := hP
          refine ElseRest.nil (fun h tk F N => ?_)
          have hme := kst_self (m := m) (ps := [(Str.ofString "mode", _), (Str.ofString "perm", _), (Str.ofString "index", _)]) (by simp only [List.forall_mem_cons]; exact ⟨p1, p2, p3, fun _ h => nomatch h⟩)
          rw [hme] at F
          clear hme hp hU hT F₁ N₁
          dsimp only [kstB, envOf] at F N
          try k_fold
          k_steps
          refine turn_fin (by assumption) (by assumption) rfl rfl (by k_mem) (by (intro p hp; k_ownIn)) (by assumption) ?_
          show _ = (⟨#[fmcp n i]⟩ : Str)
          rw [← hpk]
          rfl
    case done =>
      clear lF lN
      intro h tk m' news' F₁ N₁ hJ
      obtain ⟨t0, ch, kn, e1, e2, rfl, hC⟩ := hJ
      have hme := kst_self (m := m') (ps := [(Str.ofString "mode", _), (Str.ofString "perm", _)]) (by simp only [List.forall_mem_cons]; exact ⟨e1, e2, fun _ h => nomatch h⟩)
      rw [hme] at F₁
      clear hme
      dsimp only [kstB] at F₁
      have hS := hC.strs
      k_steps
      exact EndP.intro (by assumption) ⟨_, rfl⟩
  · passes_own
end fm
end Mine
theorem Mine.none21 : True := by
  k_with_none
  trivial
end

/- CTold -/
section
theorem Mine.none24 : True := by
  k_with_none
  trivial
open PySem PySem.W PyProof.Rows PySem.Calls PySem.Spec
set_option maxRecDepth 100000
set_option maxHeartbeats 8000000
set_option linter.all false
namespace Mine
section told
theorem words22 : True := by
  k_with "mine enter" => (k_dflt (refine' enterP (by assumption) (by assumption) (by assumption) (by assumption) rfl rfl ?kKq28 ?k6q28 ?k7q28 ?k8q28 ?k9q28 ?kBq28 (by assumption) ?_ ?c2q28 ?c3q28 ?c4q28 ?c5q28; (case kKq28 => assumption); (case k6q28 => k_is); (case k7q28 => k_is); (case k8q28 => ktr_room); (case k9q28 => first | exact BindsTo.of_eq rfl | exact binds_K (by k_in) rfl (by k_is) rfl rfl rfl); (case c5q28 => decide); (case kBq28 => exact locs rfl); (case c2q28 => exact rfl); (case c3q28 => exact rfl); (case c4q28 => exact rfl); k_whole))
  k_with "mine start" => (unfold Contr; k_fill; intro dp un gd cn cs a ccd cl outer A₀ base h₀ L m s Q E B F X T hk hd hu hl hq; walk_at "mine enter"; intro L'9 h'9 F'9 N'9 B'9 X'9 T'9; (try dsimp only); (try k_fold); clear hq)
  trivial
noncomputable def fnd (s : String) (x : Nat) : Int := Txt.find (Str.ofString s) ⟨#[x]⟩
/-- the three ends, and what the first k turns add -/
noncomputable def endsQ (c : Str) : List Int := [Txt.find (Str.ofString "-xSs") (Txt.item c 3), Txt.find (Str.ofString "-xSs") (Txt.item c 6), Txt.find (Str.ofString "-xTt") (Txt.item c 9)]
noncomputable def toldUp (c : Str) : Nat → List Int
  | 0 => [(Txt.find (Str.ofString "-xSs") (Txt.item c 3)).fdiv 2, (Txt.find (Str.ofString "-xSs") (Txt.item c 6)).fdiv 2, (Txt.find (Str.ofString "-xTt") (Txt.item c 9)).fdiv 2]
  | k + 1 => toldUp c k ++ [Txt.find (Str.ofString "-r") (Txt.item c (3 * (k : Int) + 1)), Txt.find (Str.ofString "-w") (Txt.item c (3 * (k : Int) + 2)), ((endsQ c).getD k 0).fmod 2]
theorem words23 : True := by
  k_with "inplaceOp Add ref ref" => (k_dflt (refine' iadd_list ?Fq30 ?Nq30 ?bq30 ?eq30 ?neq30 ?Uq30 ?zq30 ?_; (case Fq30 => k_asm); (case Nq30 => k_asm); (case bq30 => k_mem); (case Uq30 => k_upd); (case eq30 => exact rfl); (case neq30 => kl_some); (case zq30 => (rw [List.size_toArray, List.size_toArray]; show _ + 3 ≤ 100; omega))); intro h'9 F'9 N'9)
  k_with "subscriptTail" => ((with_reducible show wpAny _ _ (subscriptTail (PySem.Expr.Name (PySem.Str.ofString "ends") _) _ (Value.ref _) (Value.int _ _)) _ _ _); k_dflt (refine item_listR (News.isList (by k_asm) (by k_mem)) (by with_reducible assumption) (by with_reducible assumption) (by assumption) ?_))
  trivial
inductive toldJ (c : Str) (t : Tok) (D e : Addr) (k : Nat) (m : Str → Option Value) (news : List (Addr × Obj)) : Prop
  | mk (bsv : List Value) (kb : Nat) (ev : List Value) (ke : Nat) (en : news = [(D, PySem.W.listOf bsv.toArray kb), (e, PySem.W.listOf ev.toArray ke)]) (e1 : m (Str.ofString "text") = some (.str c t)) (e2 : m (Str.ofString "ends") = some (.ref e)) (e3 : m (Str.ofString "bits") = some (.ref D)) (iB : IntsAre bsv (toldUp c k)) (iE : IntsAre ev (endsQ c)) : toldJ c t D e k m news
theorem toldUp_len (c : Str) : ∀ k, (toldUp c k).length = 3 + 3 * k
  | 0 => rfl
  | k + 1 => by
    show (toldUp c k ++ _).length = _
    rw [List.length_append, toldUp_len c k]
    show 3 + 3 * k + 3 = _
    omega
theorem told_len {c : Str} {bsv : List Value} {k : Nat} (h : IntsAre bsv (toldUp c k)) (hk : k < 3) : bsv.length ≤ 9 := by
  rw [h.length, toldUp_len]; omega
theorem ints_at0 {ys : List Value} {bits : List Int} (hb : IntsAre ys bits) : ∀ {j : Nat}, j < bits.length → ∃ t, ys[j]? = some (.int (bits.getD j 0) t) := by
  induction hb with
  | nil => intro j hj; exact absurd hj (Nat.not_lt_zero _)
  | cons n t _ ih =>
    intro j hj
    cases j with
    | zero => exact ⟨t, rfl⟩
    | succ j => simpa using ih (j := j) (by simpa using hj)
theorem off2 {D e I : Addr} {o1 o2 : Obj} (h1 : D ≠ I) (h2 : e ≠ I) : ∀ p ∈ [(D, o1), (e, o2)], p.1 ≠ I := allc h1 (allc h2 fun _ h => nomatch h)
theorem ends_item {c : Str} {ev : List Value} {k : Nat} (h : IntsAre ev (endsQ c)) (hk : k < 3) : ∃ t, ev.toArray[(0 + (k : Int)).toNat]? = some (Value.int ((endsQ c).getD k 0) t) := by
  obtain ⟨t, e⟩ := ints_at0 h (j := k) hk
  exact ⟨t, by rw [Int.zero_add, Int.toNat_natCast]; simpa using e⟩
theorem told_end {h₀ h' : Heap} {L I D e a : Addr} {oa it : Obj} {l ev : List Value} {kb ke k tk : Nat} {c : Str} {t : Tok} {m : Str → Option Value} {s₁ : Shared} (F : Fr h₀ L h' m) (N : News h₀ L h' [(a, oa), (I, it), (D, PySem.W.listOf l.toArray kb), (e, PySem.W.listOf ev.toArray ke)])
    (e1 : m (Str.ofString "text") = some (.str c t)) (e2 : m (Str.ofString "ends") = some (.ref e)) (e3 : m (Str.ofString "bits") = some (.ref D)) (h1 : D ≠ I) (h2 : e ≠ I) (iB : IntsAre l (toldUp c (k + 1))) (iE : IntsAre ev (endsQ c)) :
    Nx (UnrEnd h₀ L s₁ I it (toldJ c t D e (k + 1))) .next { s₁ with heap := h', toks := tk } :=
  ⟨rfl, h', tk, m, [(D, PySem.W.listOf l.toArray kb), (e, PySem.W.listOf ev.toArray ke)], rfl, F, fun p hp => N p (.tail _ hp), off2 h1 h2, l, kb, ev, ke, rfl, e1, e2, e3, iB, iE⟩
theorem told_fin {h₀ h' : Heap} {L D e : Addr} {bsv ev : List Value} {kb ke : Nat} {c : Str} {c0 c1 c2 c3 c4 c5 c6 c7 c8 c9 : Nat} (hc : c = ⟨#[c0, c1, c2, c3, c4, c5, c6, c7, c8, c9]⟩) (N : News h₀ L h' [(D, PySem.W.listOf bsv.toArray kb), (e, PySem.W.listOf ev.toArray ke)]) (iB : IntsAre bsv (toldUp c 3)) :
    ∃ l vs k, Value.ref D = .ref l ∧ h'.get? l = some (PySem.W.listOf vs.toArray k) ∧ h₀.get? l = none ∧ IntsAre vs [(fnd "-xSs" c3).fdiv 2, (fnd "-xSs" c6).fdiv 2, (fnd "-xTt" c9).fdiv 2, fnd "-r" c1, fnd "-w" c2, (fnd "-xSs" c3).fmod 2, fnd "-r" c4, fnd "-w" c5, (fnd "-xSs" c6).fmod 2, fnd "-r" c7, fnd "-w" c8, (fnd "-xTt" c9).fmod 2] := by
  subst hc
  exact ⟨D, bsv, kb, rfl, (N _ (.head _)).1, (N _ (.head _)).2.2, iB⟩
theorem c_told (w : World) (mean : ExcName → Option Value) (mg mb : Str → Option Value) (H : Heap) (c : Str) (c0 c1 c2 c3 c4 c5 c6 c7 c8 c9 : Nat) (t : Tok) (hc : c = ⟨#[c0, c1, c2, c3, c4, c5, c6, c7, c8, c9]⟩) : Contr 4 w mean mg mb 129 [.str c t] [] (fun h => h = H)
    (fun h' v => ∃ l vs k, v = .ref l ∧ h'.get? l = some (PySem.W.listOf vs.toArray k) ∧ H.get? l = none ∧ IntsAre vs [(fnd "-xSs" c3).fdiv 2, (fnd "-xSs" c6).fdiv 2, (fnd "-xTt" c9).fdiv 2, fnd "-r" c1, fnd "-w" c2, (fnd "-xSs" c3).fmod 2, fnd "-r" c4, fnd "-w" c5, (fnd "-xSs" c6).fmod 2, fnd "-r" c7, fnd "-w" c8, (fnd "-xTt" c9).fmod 2]) := by
  have hlen : c.length = 10 := by rw [hc]; rfl
  walk_at "mine start"
  rename _ = H => hH
  subst hH
  repeat ((fail_if_success (with_reducible show wpAny _ _ (pyIter _) (fun it s₂ => LoopAtV _ _ _ _ _ _ _ _ _ it s₂) _ _)); first | walk1 | (dsimp only; walk1))
  rename Fr _ _ _ _ => lF
  rename News _ _ _ _ => lN
  rename IsRange _ _ _ _ _ _ _ _ => lR
  with_unfolding_all refine iter_rangeUnr (n := 3) (by rfl) lR (by first | decide | rfl) (by first | decide | rfl) lF lN ?_
  clear lF lN lR
  intro I hI
  refine range_inv (toldJ c t _ _) ?turn ?done 3 0 _ _ rfl ⟨_, _, _, _, rfl, rfl, rfl, rfl, .cons _ _ (.cons _ _ (.cons _ _ .nil)), .cons _ _ (.cons _ _ (.cons _ _ .nil))⟩ (fun p hp => Nat.ne_of_lt (hI p hp))
  case turn =>
    clear hI
    intro k m' news' t' h' tk' hk hj off F' N'
    obtain ⟨bsv, kb, ev, ke, rfl, e1, e2, e3, iB, iE⟩ := hj
    have hme := kst_self (m := m') (ps := [(Str.ofString "text", _), (Str.ofString "ends", _), (Str.ofString "bits", _)]) (by simp only [List.forall_mem_cons]; exact ⟨e1, e2, e3, fun _ h => nomatch h⟩)
    rw [hme] at F'
    clear hme
    dsimp only [kstB, envOf] at F' N'
    have hDI : @Ne Nat _ I := off _ (.head _)
    have hEI : @Ne Nat _ I := off _ (.tail _ (.head _))
    dsimp only at hDI hEI
    have hbl : bsv.length ≤ 9 := told_len iB hk
    obtain ⟨ux, hx⟩ := ends_item iE hk
    have k0 : 0 ≤ 0 + (k : Int) := by omega
    have k3 : 0 + (k : Int) < 3 := by omega
    have k64 : 0 + (k : Int) < 2 ^ 63 := by omega
    have hkk : 0 + (k : Int) = (k : Int) := Int.zero_add _
    generalize 0 + (k : Int) = kk at *
    try k_fold
    k_steps
    subst hkk
    rename News _ _ _ _ => lN
    exact told_end (by assumption) lN rfl rfl rfl hDI hEI (iB.append (.cons _ _ (.cons _ _ (.cons _ _ .nil)))) iE
  case done =>
    intro m' news' h' tk' hj F' N'
    obtain ⟨bsv, kb, ev, ke, rfl, e1, e2, e3, iB, iE⟩ := hj
    have hme := kst_self (m := m') (ps := [(Str.ofString "bits", _)]) (by simp only [List.forall_mem_cons]; exact ⟨e3, fun _ h => nomatch h⟩)
    rw [hme] at F'
    clear hme
    dsimp only [kstB, envOf] at F' N'
    dsimp only
    try k_fold
    k_steps
    exact EndP.intro (by assumption) (told_fin hc (by assumption) iB)
end told
end Mine
theorem Mine.none25 : True := by
  k_with_none
  trivial
end

/- CLet -/
section
theorem Mine.none28 : True := by
  k_with_none
  trivial
open PySem PySem.W PyProof.Rows PySem.Calls PySem.Spec
set_option maxRecDepth 100000
set_option maxHeartbeats 8000000
set_option linter.all false
namespace Mine
section lett

theorem words26 : True := by
  k_with "mine enter" => (k_dflt (refine' enterP (by assumption) (by assumption) (by assumption) (by assumption) rfl rfl ?kKq32 ?k6q32 ?k7q32 ?k8q32 ?k9q32 ?kBq32 (by assumption) ?_ ?c2q32 ?c3q32 ?c4q32 ?c5q32; (case kKq32 => assumption); (case k6q32 => k_is); (case k7q32 => k_is); (case k8q32 => ktr_room); (case k9q32 => first | exact BindsTo.of_eq rfl | exact binds_K (by k_in) rfl (by k_is) rfl rfl rfl); (case c5q32 => decide); (case kBq32 => exact locs rfl); (case c2q32 => exact rfl); (case c3q32 => exact rfl); (case c4q32 => exact rfl); k_whole))
  k_with "mine start" => (unfold Contr; k_fill; intro dp un gd cn cs a ccd cl outer A₀ base h₀ L m s Q E B F X T hk hd hu hl hq; walk_at "mine enter"; intro L'9 h'9 F'9 N'9 B'9 X'9 T'9; (try dsimp only); (try k_fold); clear hq)
  trivial
theorem ex_str {x y : Str} {t : Tok} (e : x = y) : ∃ t', Value.str x t = Value.str y t' := ⟨t, by rw [e]⟩
noncomputable def let4 (q : Int × Int × Int × Int) : Nat := 65 + (8 * q.1 + 4 * q.2.1 + 2 * q.2.2.1 + q.2.2.2).toNat
noncomputable def Bit (x : Int) : Prop := x = 0 ∨ x = 1
noncomputable def Bits4 (q : Int × Int × Int × Int) : Prop := Bit q.1 ∧ Bit q.2.1 ∧ Bit q.2.2.1 ∧ Bit q.2.2.2
theorem ap_item_all : ∀ j : Fin 16, Txt.item (Str.ofString "ABCDEFGHIJKLMNOP") (j.val : Int) = ⟨#[65 + j.val]⟩ := by decide +kernel
theorem ap_item {r : Int} (h0 : 0 ≤ r) (h1 : r < 16) : Txt.item (Str.ofString "ABCDEFGHIJKLMNOP") r = ⟨#[65 + r.toNat]⟩ := by
  obtain ⟨j, rfl⟩ := Int.eq_ofNat_of_zero_le h0
  exact ap_item_all ⟨j, by omega⟩
theorem bit_le0 {b : Int} (h : Bit b) : 0 ≤ b ∧ b ≤ 1 := by rcases h with rfl | rfl <;> decide
theorem four_in {a b c d : Int} (ha : Bit a) (hb : Bit b) (hc : Bit c) (hd : Bit d) : 0 ≤ 8 * a + 4 * b + 2 * c + d ∧ 8 * a + 4 * b + 2 * c + d < 16 := by
  have le : ∀ {x : Int}, Bit x → 0 ≤ x ∧ x ≤ 1 := fun h => by rcases h with rfl | rfl <;> decide
  replace ha := le ha
  replace hb := le hb
  replace hc := le hc
  replace hd := le hd
  omega
noncomputable def LetJ (V : Nat → Value × Value × Value × Value) (q : Nat → Int × Int × Int × Int) (n : Nat) : Prop := ∀ i, i < n → Bits4 (q i) ∧ ∃ t0 t1 t2 t3, V i = (.int (q i).1 t0, .int (q i).2.1 t1, .int (q i).2.2.1 t2, .int (q i).2.2.2 t3)
noncomputable def LetPre (l : Addr) (ad : Nat → Addr) (V : Nat → Value × Value × Value × Value) (h : Heap) : Prop :=
  h.IsList l #[.ref (ad 0), .ref (ad 1), .ref (ad 2), .ref (ad 3), .ref (ad 4), .ref (ad 5)] ∧ ∀ i, i < 6 → h.IsList (ad i) #[(V i).1, (V i).2.1, (V i).2.2.1, (V i).2.2.2]
theorem words27 : True := by
  k_with "call builtin:str.join" => (k_dflt (refine join_listW (News.isList (by k_asm) (by k_mem)) (by assumption) (by decide +kernel) (Nat.le_of_ble_eq_true rfl) ?_); intro t'9 k'9)
  trivial
theorem c_let (w : World) (mean : ExcName → Option Value) (mg mb : Str → Option Value) (l : Addr) (ad : Nat → Addr) (V : Nat → Value × Value × Value × Value) (q : Nat → Int × Int × Int × Int) (hV : LetJ V q 6) : Contr 4 w mean mg mb 124 [.ref l] [] (LetPre l ad V)
    (fun _ v => ∃ t, v = Value.str ⟨#[let4 (q 0), let4 (q 1), let4 (q 2), let4 (q 3), let4 (q 4), let4 (q 5)]⟩ t) := by
  unfold Contr
  k_fill
  intro dp un gd cn cs a ccd cl outer A₀ base h₀ L m s Q E B F X T hk hd hu hl hq
  walk_at "mine enter"
  intro L' h' F' N' B' X' T'
  try dsimp only
  try k_fold
  clear hq
  obtain ⟨hl1, hl2⟩ := hl
  repeat ((fail_if_success (with_reducible show wpAny _ _ (eval (PySem.Expr.ListComp _ _ _ _) _) _ _ _)); first | walk1 | (dsimp only; walk1))
  refine comp4 (L := L') (h₀ := s.heap) (m := _) (cl := []) (fun i y => ∃ t, y = Value.str ⟨#[let4 (q i)]⟩ t) (by assumption) (by with_unfolding_all rfl) (fun _ => by rfl) (fun _ => by rfl) rfl (by decide) rfl rfl rfl rfl (by decide) (by decide) (by decide) (by decide) (by decide) (by decide) ?_
  k_dflt (refine' ld ?k1 ?k2 ?_; (case k1 => k_asm); (case k2 => exact rfl))
  · refine ⟨l, _, [], V, rfl, rfl, by assumption, by assumption, hl1, Nat.le_of_ble_eq_true rfl, ?_, ?_, ?_⟩
    · intro i v hv
      have hi : i < 6 := (Array.getElem?_eq_some_iff.mp hv).1
      have hc := lt6 hi
      refine ⟨ad i, ?_, hl2 i hi⟩
      rcases hc with rfl | rfl | rfl | rfl | rfl | rfl <;> (simp only [List.getElem?_toArray, List.getElem?_cons_succ, List.getElem?_cons_zero, Option.some.injEq] at hv; exact hv.symm)
    · intro i I oI C oC D m₂ ys h tk E' hi hC e0 e1 e2 e3 F₁ N₁
      have hi6 : i < 6 := hi
      obtain ⟨⟨b0, b1, b2, b3⟩, t0, t1, t2, t3, hVi⟩ := hV i hi6
      rw [hVi] at e0 e1 e2 e3
      dsimp only at e0 e1 e2 e3
      obtain ⟨z0, z1⟩ := four_in b0 b1 b2 b3
      have b0' := bit_le0 b0
      have b1' := bit_le0 b1
      have b2' := bit_le0 b2
      have b3' := bit_le0 b3
      clear b0 b1 b2 b3
      generalize hq0 : (q i).1 = q0 at *
      generalize hq1 : (q i).2.1 = q1 at *
      generalize hq2 : (q i).2.2.1 = q2 at *
      generalize hq3 : (q i).2.2.2 = q3 at *
      try k_fold
      k_steps
      refine C4End.intro (by assumption) (by assumption) (fun p hp => hp) (ex_str ?_)
      rw [ap_item z0 z1]
      show _ = (⟨#[65 + (8 * (q i).1 + 4 * (q i).2.1 + 2 * (q i).2.2.1 + (q i).2.2.2).toNat]⟩ : Str)
      rw [hq0, hq1, hq2, hq3]
    · intro ys D h tk hlen hG F₁ N₁
      have hS : StrsAre ys [⟨#[let4 (q 0)]⟩, ⟨#[let4 (q 1)]⟩, ⟨#[let4 (q 2)]⟩, ⟨#[let4 (q 3)]⟩, ⟨#[let4 (q 4)]⟩, ⟨#[let4 (q 5)]⟩] := by
        obtain ⟨y0, y1, y2, y3, y4, y5, rfl⟩ := list6 hlen
        obtain ⟨u0, rfl⟩ := hG 0 y0 rfl
        obtain ⟨u1, rfl⟩ := hG 1 y1 rfl
        obtain ⟨u2, rfl⟩ := hG 2 y2 rfl
        obtain ⟨u3, rfl⟩ := hG 3 y3 rfl
        obtain ⟨u4, rfl⟩ := hG 4 y4 rfl
        obtain ⟨u5, rfl⟩ := hG 5 y5 rfl
        exact .cons _ _ (.cons _ _ (.cons _ _ (.cons _ _ (.cons _ _ (.cons _ _ .nil)))))
      try k_fold
      k_steps
      exact EndP.intro (by assumption) ⟨_, rfl⟩
end lett
end Mine
theorem Mine.none29 : True := by
  k_with_none
  trivial
end

/- CImode -/
section
theorem Mine.none31 : True := by
  k_with_none
  trivial
open PySem PySem.W PyProof.Rows PySem.Calls PySem.Spec
set_option maxRecDepth 100000
set_option maxHeartbeats 8000000
set_option linter.all false
namespace Mine
section imode
theorem words30 : True := by
  k_with "mine enter" => (k_dflt (refine' enterP (by assumption) (by assumption) (by assumption) (by assumption) rfl rfl ?kKq35 ?k6q35 ?k7q35 ?k8q35 ?k9q35 ?kBq35 (by assumption) ?_ ?c2q35 ?c3q35 ?c4q35 ?c5q35; (case kKq35 => assumption); (case k6q35 => k_is); (case k7q35 => k_is); (case k8q35 => ktr_room); (case k9q35 => first | exact BindsTo.of_eq rfl | exact binds_K (by k_in) rfl (by k_is) rfl rfl rfl); (case c5q35 => decide); (case kBq35 => exact locs rfl); (case c2q35 => exact rfl); (case c3q35 => exact rfl); (case c4q35 => exact rfl); k_whole))
  k_with "mine start" => (unfold Contr; k_fill; intro dp un gd cn cs a ccd cl outer A₀ base h₀ L m s Q E B F X T hk hd hu hl hq; walk_at "mine enter"; intro L'9 h'9 F'9 N'9 B'9 X'9 T'9; (try dsimp only); (try k_fold); clear hq)
  trivial
theorem bitAnd_m12 (x : Int) : Builtin.bitAnd x 4095 = x % 4096 := kbt_mask x 12
theorem c_imode (w : World) (mean : ExcName → Option Value) (mg mb : Str → Option Value) (n : Int) (t : Tok) : Contr 3 w mean mg mb 28 [.int n t] [] (fun _ => True) (fun _ v => ∃ t', v = .int (n % 4096) t') := by
  walk_at "mine start"
  k_steps
  exact EndP.intro (by assumption) (ex_int (bitAnd_m12 n))
end imode
end Mine
theorem Mine.none32 : True := by
  k_with_none
  trivial
end

/- RestObj -/
section
open PySem PySem.W PyProof.Rows PySem.Calls PySem.Spec
open PyProof.Rows.LCg
set_option maxRecDepth 100000
set_option linter.all false
set_option maxHeartbeats 2000000
namespace Mine
section
variable {prog : Program} {w : World} {A : Around} {E : Value → Shared → Prop} {s : Shared} {h₀ : Heap} {L : Addr} {m : Str → Option Value} {env : Env}
/-- a goal at which the walk stops -/
noncomputable def Held (P : Prop) : Prop := P
theorem Held.out {P : Prop} (h : Held P) : P := h
theorem Held.mk {P : Prop} (h : P) : Held P := h
/-- an element's end: it is a new object -/
inductive ObEnd (h₀ : Heap) (L : Addr) (m : Str → Option Value) (s : Shared) (I C D : Addr) (led : List (Addr × Obj)) (G : Obj → Prop) (y : Value) (s₂ : Shared) : Prop
  | mk (l : Addr) (o : Obj) (h' : Heap) (tk' : Nat) (ey : y = .ref l) (hG : G o) (e : s₂ = { s with heap := h', toks := tk' }) (F : Fr h₀ L h' m) (N : News h₀ L h' ((l, o) :: led)) (n1 : @Ne Nat l I) (n2 : @Ne Nat l C) (n3 : @Ne Nat l D) : ObEnd h₀ L m s I C D led G y s₂
theorem ObEnd.intro {h' : Heap} {s₁ : Shared} {I C D l : Addr} {o : Obj} {led all : List (Addr × Obj)} {G : Obj → Prop} {tk' : Nat} (F : Fr h₀ L h' m) (N : News h₀ L h' all) (hs : ∀ p ∈ (l, o) :: led, p ∈ all) (hG : G o) (n1 : @Ne Nat l I) (n2 : @Ne Nat l C) (n3 : @Ne Nat l D) :
    ObEnd h₀ L m s₁ I C D led G (.ref l) { s₁ with heap := h', toks := tk' } := ⟨l, o, h', tk', rfl, hG, rfl, F, fun p hp => N p (hs p hp), n1, n2, n3⟩
/-- a block whose elements are new objects -/
theorem rest_obj {elt : PySem.Expr} {x : Str} {scope : Scope} {cl : List (Str × Addr)} {S : List (Addr × Obj) → Prop} {P : Nat → Value → Prop} {Fin : List Value → List (Addr × Obj) → Prop} {news : List (Addr × Obj)} {n : Nat} (G : Nat → Obj → Prop) (hS : ∀ ls, S (news ++ ls))
    (turn : ∀ i v I oI C oC D m₂ ys nw h tk (E' : Value → Shared → Prop), i < n → P i v → NsObj oC m₂ → m₂ x = some v → (∀ p ∈ news, p ∈ nw) → Fr h₀ L h m → News h₀ L h ((I, oI) :: (C, oC) :: (D, lst ys) :: nw) → Off3 I C D nw → ((@Ne Nat I C) ∧ (@Ne Nat I D) ∧ (@Ne Nat C D)) →
      wpAny (model prog w) A (eval elt (compEnvC scope cl C env)) (ObEnd h₀ L m s I C D ((I, oI) :: (C, oC) :: (D, lst ys) :: nw) (G i)) E' { s with heap := h, toks := tk })
    (fin : ∀ ls : List (Addr × Obj), ls.length = n → (∀ i p, ls[i]? = some p → G i p.2) → Fin (ls.map fun p => .ref p.1) (news ++ ls)) : CompRest prog w A h₀ L m env elt x scope cl s S P Fin n 0 [] news := by
  have key : ∀ (j i : Nat) (ls : List (Addr × Obj)), i + j = n → ls.length = i → (∀ i p, ls[i]? = some p → G i p.2) → CompRest prog w A h₀ L m env elt x scope cl s S P Fin j i (ls.map fun p => .ref p.1) (news ++ ls) := by
    intro j
    induction j with
    | zero => intro i ls hi hl hG; exact CompRest.zero (fin ls (by omega) hG)
    | succ j ih =>
      intro i ls hi hl hG
      refine CompRest.succ ?_
      intro v I oI C oC D m₂ h tk E' hv hC hx F N off ne
      refine wpAny_mono (turn i v I oI C oC D m₂ _ _ h tk E' (by omega) hv hC hx (fun p hp => List.mem_append_left _ hp) F N off ne) (fun y s₂ hq => ?_) fun _ _ e => e
      obtain ⟨l, o, h', tk', rfl, hGo, rfl, F', N', n1, n2, n3⟩ := hq
      have R := ih (i + 1) (ls ++ [(l, o)]) (by omega) (by rw [List.length_append, hl]; rfl) (by
        intro k u hk
        rcases Nat.lt_or_ge k ls.length with hlt | hge
        · rw [List.getElem?_append_left hlt] at hk
          exact hG k u hk
        · rw [List.getElem?_append_right hge] at hk
          have h0 : k - ls.length = 0 := by
            rcases Nat.eq_zero_or_pos (k - ls.length) with h | h
            · exact h
            · rw [List.getElem?_eq_none (by simp only [List.length_cons, List.length_nil]; omega)] at hk; cases hk
          rw [h0] at hk
          have hki : k = i := by omega
          simp only [List.getElem?_cons_zero, Option.some.injEq] at hk
          rw [← hk, hki]; exact hGo)
      rw [List.map_append] at R
      refine ⟨h', tk', news ++ (ls ++ [(l, o)]), rfl, F', ?_, ?_, hS _, R⟩
      · intro p hp
        refine N' p ?_
        rcases List.mem_cons.mp hp with rfl | hp
        · exact .tail _ (.head _)
        rcases List.mem_cons.mp hp with rfl | hp
        · exact .tail _ (.tail _ (.head _))
        rcases List.mem_cons.mp hp with rfl | hp
        · exact .tail _ (.tail _ (.tail _ (.head _)))
        rcases List.mem_append.mp hp with hp | hp
        · exact .tail _ (.tail _ (.tail _ (.tail _ (List.mem_append_left _ hp))))
        rcases List.mem_append.mp hp with hp | hp
        · exact .tail _ (.tail _ (.tail _ (.tail _ (List.mem_append_right _ hp))))
        · rw [List.mem_singleton.mp hp]; exact .head _
      · refine Off3.of fun p hp => ?_
        rw [← List.append_assoc] at hp
        rcases List.mem_append.mp hp with hp | hp
        · exact off.mem p hp
        · rw [List.mem_singleton.mp hp]; exact ⟨n1, n2, n3⟩
  have := key n 0 [] (by omega) rfl fun _ _ h => nomatch h
  rw [List.append_nil] at this
  exact this
end
end Mine
end

/- LawBase -/
section
open PySem PySem.W PyProof.Rows PySem.Calls PySem.Spec
open PyProof.Rows.LCg
set_option maxRecDepth 100000
set_option maxHeartbeats 8000000
set_option linter.all false
namespace Mine
theorem rest_el {prog : Program} {w : World} {A : Around} {s : Shared} {h₀ : Heap} {L : Addr} {m : Str → Option Value} {env : Env} {elt : PySem.Expr} {x : Str} {scope : Scope} {cl : List (Str × Addr)} {S : List (Addr × Obj) → Prop} {P : Nat → Value → Prop} {Fin : List Value → List (Addr × Obj) → Prop} {news : List (Addr × Obj)} {n : Nat} (G : Nat → Value → Prop) (hS : S news)
    (turn : ∀ i v I oI C oC D m₂ ys h tk (E' : Value → Shared → Prop), i < n → P i v → NsObj oC m₂ → m₂ x = some v → Fr h₀ L h m → News h₀ L h ((I, oI) :: (C, oC) :: (D, lst ys) :: news) → Off3 I C D news → ((@Ne Nat I C) ∧ (@Ne Nat I D) ∧ (@Ne Nat C D)) →
      wpAny (model prog w) A (eval elt (compEnvC scope cl C env)) (ElEnd h₀ L m s ((I, oI) :: (C, oC) :: (D, lst ys) :: news) (G i)) E' { s with heap := h, toks := tk })
    (fin : ∀ ys, ys.length = n → (∀ i y, ys[i]? = some y → G i y) → Fin ys news) : CompRest prog w A h₀ L m env elt x scope cl s S P Fin n 0 [] news := rest_val G hS turn fin
theorem off_mem1 {D : Addr} : ∀ {l : List (Addr × Obj)}, Off1 D l → ∀ p ∈ l, @Ne Nat p.1 D
  | [], _, _, h => nomatch h
  | _ :: _, x, p, h => by
    rcases List.mem_cons.mp h with rfl | h
    · exact x.1
    · exact off_mem1 x.2 p h
theorem ints_of : ∀ {ks : List Int} {ys : List Value}, ys.length = ks.length → (∀ (i : Nat) y k, ys[i]? = some y → ks[i]? = some k → ∃ t, y = Value.int k t) → IntsAre ys ks
  | [], [], _, _ => .nil
  | [], _ :: _, h, _ => nomatch h
  | _ :: _, [], h, _ => nomatch h
  | k :: r, y :: q, hl, hG => by
    obtain ⟨t, rfl⟩ := hG 0 y k rfl rfl
    exact .cons _ t (ints_of (by simpa using hl) fun i u v hu hv => hG (i + 1) u v (by simpa using hu) (by simpa using hv))
noncomputable def lawRec : DefRec := ((recsOf Mine.hd.view_39).find? (fun d => d.name == Str.ofString "law")).get (by decide +kernel)
/-- the def's name and scope as they are written -/
noncomputable def LNM : { s : Str // lawRec.name = s } := ⟨Str.ofString "law", rfl⟩
noncomputable def LSC : { s : Scope // lawRec.scope = s } := ⟨⟨_, _, _, _, _⟩, rfl⟩
noncomputable abbrev lawEnv (L fa : Addr) (cd : Value) : Env := envOfC LNM.1 LSC.1 L fa cd
noncomputable def lawSt (i : Nat) : Stmt := (lawRec.body[i]?).getD (.Pass default)
noncomputable def forBody : Stmt → List Stmt
  | .For _ _ b _ _ => b
  | _ => []
noncomputable def l1St (i : Nat) : Stmt := ((forBody (lawSt 4))[i]?).getD (.Pass default)
noncomputable def l2St (i : Nat) : Stmt := ((forBody (lawSt 6))[i]?).getD (.Pass default)
/-- each statement as it is written -/
noncomputable def LS0 : { s : Stmt // lawSt 0 = s } := ⟨.Assign _ _ _, rfl⟩
noncomputable def LS1 : { s : Stmt // lawSt 1 = s } := ⟨.Assign _ _ _, rfl⟩
noncomputable def LS2 : { s : Stmt // lawSt 2 = s } := ⟨.Assign _ _ _, rfl⟩
noncomputable def LS3 : { s : Stmt // lawSt 3 = s } := ⟨.Assign _ _ _, rfl⟩
noncomputable def LS4 : { s : Stmt // lawSt 4 = s } := ⟨.For _ _ _ _ _, rfl⟩
noncomputable def LS5 : { s : Stmt // lawSt 5 = s } := ⟨.Assign _ _ _, rfl⟩
noncomputable def LS6 : { s : Stmt // lawSt 6 = s } := ⟨.For _ _ _ _ _, rfl⟩
noncomputable def LS7 : { s : Stmt // lawSt 7 = s } := ⟨.Return _ _, rfl⟩
noncomputable def L1S0 : { s : Stmt // l1St 0 = s } := ⟨.Assign _ _ _, rfl⟩
noncomputable def L1S1 : { s : Stmt // l1St 1 = s } := ⟨.Assign _ _ _, rfl⟩
noncomputable def L1S2 : { s : Stmt // l1St 2 = s } := ⟨.Expr _ _, rfl⟩
noncomputable def L1S3 : { s : Stmt // l1St 3 = s } := ⟨.Expr _ _, rfl⟩
noncomputable def L1S4 : { s : Stmt // l1St 4 = s } := ⟨.Expr _ _, rfl⟩
noncomputable def L1S5 : { s : Stmt // l1St 5 = s } := ⟨.If _ _ _ _, rfl⟩
noncomputable def L1S6 : { s : Stmt // l1St 6 = s } := ⟨.Assign _ _ _, rfl⟩
noncomputable def L2S0 : { s : Stmt // l2St 0 = s } := ⟨.Assign _ _ _, rfl⟩
noncomputable def L2S1 : { s : Stmt // l2St 1 = s } := ⟨.If _ _ _ _, rfl⟩
noncomputable def L2S2 : { s : Stmt // l2St 2 = s } := ⟨.If _ _ _ _, rfl⟩
noncomputable def L2S3 : { s : Stmt // l2St 3 = s } := ⟨.If _ _ _ _, rfl⟩
noncomputable def L2S4 : { s : Stmt // l2St 4 = s } := ⟨.Assign _ _ _, rfl⟩
noncomputable def L2S5 : { s : Stmt // l2St 5 = s } := ⟨.If _ _ _ _, rfl⟩
noncomputable def L2S6 : { s : Stmt // l2St 6 = s } := ⟨.If _ _ _ _, rfl⟩
/-- the seven cells of the law's frame -/
abbrev cellsL (L : Addr) (o7 o6 o5 o4 o3 o2 o1 : Obj) : List (Addr × Obj) := [(L + 7, o7), (L + 6, o6), (L + 5, o5), (L + 4, o4), (L + 3, o3), (L + 2, o2), (L + 1, o1)]
/-- what stands through the whole call -/
structure Ctx0 (w : World) (mean : ExcName → Option Value) (mg mb : Str → Option Value) (base h₀ : Heap) (sc : Addr) (vs : List Value) (ns : List Int) : Prop where
  below : Below callerA base [] h₀
  part : (hd.heap_39 w.params).In h₀
  top : Top hd.view_39 (looseW hd.view_39 [Str.ofString "_filemode_table", Str.ofString "b2a_base64", Str.ofString "b64encode"]) mean mg mb h₀
  theList : h₀.IsList sc vs.toArray
  theInts : IntsAre vs ns
  few : ns.length ≤ 63
theorem execs_cut {M : Model} {A : Around} {E : Value → Shared → Prop} {Q : Flow → Shared → Prop} {s : Shared} {env : Env} {st : Stmt} {rest : List Stmt} (Mid : Shared → Prop)
    (h : wpAny M A (exec st env) (fun f s' => f = .next ∧ Mid s') E s) (k : ∀ s', Mid s' → wpAny M A (execs rest env) Q E s') : wpAny M A (execs (st :: rest) env) Q E s := by
  refine wpAny_execs_cons (wpAny_mono h (fun f s' hf => ?_) fun _ _ e => e)
  obtain ⟨rfl, hm⟩ := hf
  exact k s' hm
end Mine
end

/- LawA -/
section
theorem Mine.none36 : True := by
  k_with_none
  trivial
open PySem PySem.W PyProof.Rows PySem.Calls PySem.Spec
open PyProof.Rows.LCg
set_option maxRecDepth 100000
set_option maxHeartbeats 8000000
set_option linter.all false
namespace Mine
section lawA
theorem words33 : True := by
  k_with "eval ListComp Subscript" => ((with_reducible show wpAny _ _ (eval (PySem.Expr.ListComp (PySem.Expr.Subscript (PySem.Expr.Name (PySem.Str.ofString "script") _) _ _) _ _ _) _) _ _ _); k_dflt (refine ListComp_S (F₀ := by k_asm) (by with_unfolding_all rfl) (by decide) (by rfl) (by decide) (by rfl) ?_))
  trivial
noncomputable def ks2 (a : Int) (n : Nat) : List Int := (List.range n).map fun (i : Nat) => a + (i : Int) * 2
theorem ks2_length (a : Int) (n : Nat) : (ks2 a n).length = n := by simp [ks2]
theorem ks2_get {a : Int} {n i : Nat} (h : i < n) : (ks2 a n)[i]? = some (a + (i : Int) * 2) := by simp [ks2, h]
theorem ks2_mem {a b k : Int} (h : k ∈ ks2 a (size2 a b)) : a ≤ k ∧ k < b := by
  unfold ks2 at h
  obtain ⟨i, hi, rfl⟩ := List.mem_map.mp h
  have := List.mem_range.mp hi
  unfold size2 at this
  omega
theorem words34 : True := by
  k_with "SrcS" => (k_dflt (refine SrcS.intro (by rfl) (by k_asm) (by k_asm) (by assumption) (small2 (by omega) (by omega) (by omega) (by omega)) (rangeSize2 (by omega)) (by (rw [sizeLine_eq]; unfold size2; omega)) ?_); intro g'9; k_dflt (refine' kcf_rest (ks := ks2 _ _) _ (ks2_length _ _) (fun i v hi ⟨t, hv⟩ => ⟨_, t, ks2_get hi, hv⟩) (fun k'9 t'9 I'9 oI'9 C'9 oC'9 D'9 m'9 ys'9 h'9 tk'9 E'9 hk'9 hC'9 hx'9 F'9 N'9 off'9 ne'9 hMark'9 => ?_) ?_); (all_goals (try skip)); (all_goals (try (have hkk'9 := ks2_mem hk'9))); kcf_last)
  k_with "call ref" => ((with_reducible show wpAny _ _ (call (Value.ref 28) _ _) _ _ _); k_dflt (refine' use (c_imode _ _ _ _ _ _) ?u1q39 ?u2q39 ?u3q39 ?u4q39 ?u5q39 ?u6q39 ?u7q39 ?u8q39 trivial ?_; (case u1q39 => k_asm); (case u2q39 => k_asm); (case u3q39 => k_asm); (case u4q39 => k_asm); (case u5q39 => k_asm); (case u6q39 => first | exact rfl | assumption); (case u7q39 => decide); (case u8q39 => decide)); intro v'9 h'9 tk'9 F'9 N'9 st'9 ev'9; obtain ⟨t'9, ev'9⟩ := ev'9; subst ev'9; (try dsimp only))
  trivial
variable {w : World} {mean : ExcName → Option Value} {mg mb : Str → Option Value} {base h₀ : Heap} {sc : Addr} {vs : List Value} {ns : List Int} {L fa : Addr} {cd : Value}
inductive MidA (h₀ : Heap) (L : Addr) (m : Str → Option Value) (s : Shared) (led : Obj → List (Addr × Obj)) (s' : Shared) : Prop
  | mk (h' : Heap) (tk : Nat) (o : Obj) (f : Int) (t : Tok) (e : s' = { s with heap := h', toks := tk }) (F : Fr h₀ L h' m) (N : News h₀ L h' (led o)) (c : o.data = .cell (some (.int f t))) (l0 : 0 ≤ f) (l1 : f < 4096) : MidA h₀ L m s led s'
theorem s1 {s : Shared} {m : Str → Option Value} {o7 o6 o5 o4 o3 o2 o1 : Obj} (X : Ctx0 w mean mg mb base h₀ sc vs ns) (F : Fr h₀ L s.heap m) (N : News h₀ L s.heap (cellsL L o7 o6 o5 o4 o3 o2 o1)) (c1 : o1.data = .cell (some (.ref sc))) (c2 : o2.data = .cell none) :
    wpAny (model Challenge.rw_op0029_01.row.prog w) (callerA.deeper (lawEnv L fa cd)) (exec (lawSt 0) (lawEnv L fa cd)) (fun f s' => f = .next ∧ MidA h₀ L m s (fun o => cellsL L o7 o6 o5 o4 o3 o o1) s') (fun _ _ => False) s := by
  obtain ⟨B, KX, T, hl, hi, hn⟩ := X
  revert KX
  k_fill
  intro KX
  rw [LS0.2]
  dsimp only [lawEnv, LS0, LNM, LSC]
  obtain ⟨hp, gn, dr, tk, os⟩ := s
  dsimp only [cellsL] at N F ⊢
  try k_fold
  k_steps
  rename News _ _ _ _ => lN
  exact ⟨_, _, _, _, _, rfl, by assumption, fun p hp => lN p (.tail _ hp), by assumption, by omega, by omega⟩
theorem s2 {s : Shared} {m : Str → Option Value} {o7 o6 o5 o4 o3 o2 o1 : Obj} (X : Ctx0 w mean mg mb base h₀ sc vs ns) (F : Fr h₀ L s.heap m) (N : News h₀ L s.heap (cellsL L o7 o6 o5 o4 o3 o2 o1)) (c1 : o1.data = .cell (some (.ref sc))) (c3 : o3.data = .cell none) :
    wpAny (model Challenge.rw_op0029_01.row.prog w) (callerA.deeper (lawEnv L fa cd)) (exec (lawSt 1) (lawEnv L fa cd)) (fun f s' => f = .next ∧ MidA h₀ L m s (fun o => cellsL L o7 o6 o5 o4 o o2 o1) s') (fun _ _ => False) s := by
  obtain ⟨B, KX, T, hl, hi, hn⟩ := X
  revert KX
  k_fill
  intro KX
  rw [LS1.2]
  dsimp only [lawEnv, LS1, LNM, LSC]
  obtain ⟨hp, gn, dr, tk, os⟩ := s
  dsimp only [cellsL] at N F ⊢
  try k_fold
  k_steps
  rename News _ _ _ _ => lN
  exact ⟨_, _, _, _, _, rfl, by assumption, fun p hp => lN p (.tail _ hp), by assumption, by omega, by omega⟩
noncomputable def rowN (N : Int) : List Int := (List.range 24).map fun (j : Nat) => N / 2 ^ (23 - j) % 2
theorem row_bit (N : Int) {i : Nat} (hi : i < 24) : Builtin.bitAnd (N.fdiv (2 ^ (23 - (0 + (i : Int) * 1)).toNat)) 1 = N / 2 ^ (23 - i) % 2 := by
  rw [bitAnd_m1, Int.fdiv_eq_ediv_of_nonneg _ (Int.le_of_lt (Int.pow_pos (by decide))), show (23 - (0 + (i : Int) * 1)).toNat = 23 - i by omega]
theorem row_ints {zs : List Value} {N : Int} (hl : zs.length = 24) (hG : ∀ (i : Nat) y, zs[i]? = some y → ∃ t, y = Value.int (N / 2 ^ (23 - i) % 2) t) : IntsAre zs (rowN N) := by
  refine ints_of (by rw [hl]; simp [rowN]) fun i y k hy hk => ?_
  obtain ⟨t, rfl⟩ := hG i y hy
  have hi : i < 24 := by
    have := (List.getElem?_eq_some_iff.mp hy).1
    omega
  refine ⟨t, ?_⟩
  simp only [rowN, List.getElem?_map, List.getElem?_range hi, Option.map_some, Option.some.injEq] at hk
  rw [hk]
theorem words35 : True := by
  k_with "eval ListComp BinOp" => ((with_reducible show wpAny _ _ (eval (PySem.Expr.ListComp (PySem.Expr.BinOp _ _ _ _) _ _ _) _) _ _ _); k_dflt (refine ListComp_S (F₀ := by k_asm) (by with_unfolding_all rfl) (by decide) (by rfl) (by decide) (by rfl) ?_))
  k_with "SrcS" => (k_dflt (refine SrcS.intro (n := 24) (by rfl) (by k_asm) (by k_asm) (by assumption) (by decide) (by decide) (by decide) ?_); refine Held.out ?_)
  trivial
noncomputable def Off7 (L r : Addr) : Prop := @Ne Nat (L + 7) r ∧ @Ne Nat (L + 6) r ∧ @Ne Nat (L + 5) r ∧ @Ne Nat (L + 4) r ∧ @Ne Nat (L + 3) r ∧ @Ne Nat (L + 2) r ∧ @Ne Nat (L + 1) r
inductive MidR (h₀ : Heap) (L : Addr) (m : Str → Option Value) (s : Shared) (N0 : Int) (led : Addr → List Value → Obj → List (Addr × Obj)) (s' : Shared) : Prop
  | mk (h' : Heap) (tk : Nat) (o : Obj) (r : Addr) (ys : List Value) (e : s' = { s with heap := h', toks := tk }) (F : Fr h₀ L h' m) (N : News h₀ L h' (led r ys o)) (c : o.data = .cell (some (.ref r))) (off : Off7 L r) (hI : IntsAre ys (rowN N0)) : MidR h₀ L m s N0 led s'
theorem s3 {s : Shared} {m : Str → Option Value} {o7 o6 o5 o4 o3 o2 o1 : Obj} (X : Ctx0 w mean mg mb base h₀ sc vs ns) (F : Fr h₀ L s.heap m) (N : News h₀ L s.heap (cellsL L o7 o6 o5 o4 o3 o2 o1)) {f l : Int} {tf tl : Tok} (c2 : o2.data = .cell (some (.int f tf))) (c3 : o3.data = .cell (some (.int l tl))) (c4 : o4.data = .cell none) (hf0 : 0 ≤ f) (hf1 : f < 4096) (hl0 : 0 ≤ l) (hl1 : l < 4096) :
    wpAny (model Challenge.rw_op0029_01.row.prog w) (callerA.deeper (lawEnv L fa cd)) (exec (lawSt 2) (lawEnv L fa cd)) (fun fl s' => fl = .next ∧ MidR h₀ L m s (4096 * f + l) (fun r ys o => (r, lst ys) :: cellsL L o7 o6 o5 o o3 o2 o1) s') (fun _ _ => False) s := by
  obtain ⟨B, KX, T, hl, hi, hn⟩ := X
  revert KX
  k_fill
  intro KX
  rw [LS2.2]
  dsimp only [lawEnv, LS2, LNM, LSC]
  obtain ⟨hp, gn, dr, tk, os⟩ := s
  dsimp only [cellsL] at N F ⊢
  try k_fold
  k_steps
  refine Held.mk ?_
  intro g'
  refine rest_el (fun i y => ∃ t, y = Value.int ((4096 * f + l) / 2 ^ (23 - i) % 2) t) trivial ?_ ?_
  · intro i v I oI C oC D m₂ zs h tk' E' hi hv hC hx' F' N' off' ne
    obtain ⟨tv, rfl⟩ := hv
    clear off' ne
    have k0 : 0 ≤ 0 + (i : Int) * 1 := by omega
    have k1 : 0 + (i : Int) * 1 < 24 := by omega
    dsimp only
    try k_fold
    k_steps
    exact ElEnd.intro (by assumption) (by assumption) (fun p hp => hp) (ex_int (row_bit _ hi))
  · intro zs hlz hG
    have hY : IntsAre zs (rowN (4096 * f + l)) := row_ints hlz hG
    intro D hE tkE FE NE offE
    have hne := off_mem1 offE
    have hD4 : @Ne Nat (L + 4) D := hne _ (.tail _ (.tail _ (.tail _ (.head _))))
    have h7 : Off7 L D := ⟨hne _ (.head _), hne _ (.tail _ (.head _)), hne _ (.tail _ (.tail _ (.head _))), hne _ (.tail _ (.tail _ (.tail _ (.head _)))), hne _ (.tail _ (.tail _ (.tail _ (.tail _ (.head _))))), hne _ (.tail _ (.tail _ (.tail _ (.tail _ (.tail _ (.head _)))))), hne _ (.tail _ (.tail _ (.tail _ (.tail _ (.tail _ (.tail _ (.head _))))))) ⟩
    dsimp only
    try k_fold
    k_steps
    exact ⟨_, _, _, _, _, rfl, by assumption, by assumption, by assumption, h7, hY⟩
inductive MidW (h₀ : Heap) (L : Addr) (m : Str → Option Value) (s : Shared) (r : Addr) (led : Addr → Addr → Addr → List (Addr × Obj)) (s' : Shared) : Prop
  | mk (h' : Heap) (tk : Nat) (m' : Str → Option Value) (wa ta la : Addr) (e : s' = { s with heap := h', toks := tk }) (F : Fr h₀ L h' m') (N : News h₀ L h' (led wa ta la)) (e1 : m' (Str.ofString "words") = some (.ref wa)) (e2 : m' (Str.ofString "texts") = some (.ref ta)) (e3 : m' (Str.ofString "lists") = some (.ref la))
    (l1 : @LT.lt Nat _ r wa) (l2 : @LT.lt Nat _ (L + 7) wa) (l3 : @LT.lt Nat _ wa ta) (l4 : @LT.lt Nat _ ta la) : MidW h₀ L m s r led s'
theorem s4 {s : Shared} {m : Str → Option Value} {r : Addr} {ys : List Value} {o7 o6 o5 o4 o3 o2 o1 : Obj} (X : Ctx0 w mean mg mb base h₀ sc vs ns) (F : Fr h₀ L s.heap m) (N : News h₀ L s.heap ((r, lst ys) :: cellsL L o7 o6 o5 o4 o3 o2 o1)) :
    wpAny (model Challenge.rw_op0029_01.row.prog w) (callerA.deeper (lawEnv L fa cd)) (exec (lawSt 3) (lawEnv L fa cd)) (fun fl s' => fl = .next ∧ MidW h₀ L m s r (fun wa ta la => (la, PySem.W.listOf #[] 0) :: (ta, PySem.W.listOf #[] 0) :: (wa, PySem.W.listOf #[] 0) :: (r, lst ys) :: cellsL L o7 o6 o5 o4 o3 o2 o1) s') (fun _ _ => False) s := by
  obtain ⟨B, KX, T, hl, hi, hn⟩ := X
  revert KX
  k_fill
  intro KX
  rw [LS3.2]
  dsimp only [lawEnv, LS3, LNM, LSC]
  obtain ⟨hp, gn, dr, tk, os⟩ := s
  dsimp only [cellsL] at N F ⊢
  try k_fold
  k_steps
  rename News _ _ _ _ => lN
  exact ⟨_, _, _, _, _, _, rfl, by assumption, fun p hp => lN p (.tail _ hp), rfl, rfl, rfl, by omega, by omega, by omega, by omega⟩
end lawA
end Mine
theorem Mine.none37 : True := by
  k_with_none
  trivial
end

/- LawB -/
section
theorem Mine.none40 : True := by
  k_with_none
  trivial
open PySem PySem.W PyProof.Rows PySem.Calls PySem.Spec
open PyProof.Rows.LCg
set_option maxRecDepth 100000
set_option maxHeartbeats 8000000
set_option linter.all false
namespace Mine
section lawB
theorem isList_led {h₀ h : Heap} {L r : Addr} {led : List (Addr × Obj)} {ys : List Value} (N : News h₀ L h led) (hm : (r, lst ys) ∈ led) : h.IsList r ys.toArray := ⟨_, (N _ hm).1, rfl, _, rfl⟩
theorem words38 : True := by
  k_with "call ref" => ((with_reducible show wpAny _ _ (call (Value.ref 119) _ _) _ _ _); k_dflt (refine' use (c_number _ _ _ _ _ _ _ ?uiq42 ?unq42) ?u1q42 ?u2q42 ?u3q42 ?u4q42 ?u5q42 ?u6q42 ?u7q42 ?u8q42 ?upq42 ?_; (case uiq42 => assumption); (case unq42 => assumption); (case u1q42 => k_asm); (case u2q42 => k_asm); (case u3q42 => k_asm); (case u4q42 => k_asm); (case u5q42 => k_asm); (case u6q42 => first | exact rfl | assumption); (case u7q42 => decide); (case u8q42 => decide); (case upq42 => exact isList_led (by k_asm) (by k_mem))); intro v'9 h'9 tk'9 F'9 N'9 st'9 ev'9; obtain ⟨t'9, ev'9⟩ := ev'9; subst ev'9; (try dsimp only))
  k_with "call ref" => ((with_reducible show wpAny _ _ (call (Value.ref 112) _ _) _ _ _); k_dflt (refine' use (c_ap _ _ _ _ _ _ ?uiq43 ?unq43) ?u1q43 ?u2q43 ?u3q43 ?u4q43 ?u5q43 ?u6q43 ?u7q43 ?u8q43 trivial ?_; (case uiq43 => assumption); (case unq43 => assumption); (case u1q43 => k_asm); (case u2q43 => k_asm); (case u3q43 => k_asm); (case u4q43 => k_asm); (case u5q43 => k_asm); (case u6q43 => first | exact rfl | assumption); (case u7q43 => decide); (case u8q43 => decide)); intro v'9 h'9 tk'9 F'9 N'9 st'9 ev'9; obtain ⟨j'9, t'9, hj'9, hn'9, ev'9⟩ := ev'9; subst ev'9; (try dsimp only))
  k_with "eval ListComp Call" => ((with_reducible show wpAny _ _ (eval (PySem.Expr.ListComp (PySem.Expr.Call (PySem.Expr.Name (PySem.Str.ofString "chr") _) _ _ _) _ _ _) _) _ _ _); k_dflt (refine ListComp_By (F₀ := by k_asm) (by with_unfolding_all rfl) (by decide) (by rfl) (by decide) (by rfl) ?_))
  trivial
theorem ap_size (N j : Nat) (h : j ≤ 6) : (apDig N j).toArray.size ≤ sizeLine := by rw [List.size_toArray, apDig_length, sizeLine_eq]; omega
theorem words39 : True := by
  k_with "SrcBy" => (k_dflt (refine SrcBy.intro (by rfl) (by k_asm) (by k_asm) (ap_size _ _ (by assumption)) ?_); intro g'9; k_dflt (refine' rest_by (fun k y => ∃ t, y = Value.str ⟨#[k.toNat]⟩ t) (fun k'9 t'9 I'9 oI'9 C'9 oC'9 D'9 m'9 ys'9 h'9 tk'9 E'9 hlo'9 hhi'9 hk'9 hC'9 hx'9 F'9 N'9 => ?_) (fun ys'9 hlen'9 hG'9 => ?_)); (all_goals (try k_fold)))
  k_with "ElEnd" => (refine ElEnd.intro (by assumption) (by assumption) (fun p hp => hp) ⟨_, rfl⟩)
  k_with "call builtin:str.join" => (k_dflt (refine join_listW (isList_led (by k_asm) (by k_mem)) (strs_of (by assumption) (by assumption)) (by decide +kernel) (by (rw [ones_weight, List.length_map, KBw.ints_length, List.size_toArray, apDig_length]; omega)) ?_); rw [ap_join]; intro t'9 k'9)
  trivial
variable {w : World} {mean : ExcName → Option Value} {mg mb : Str → Option Value} {base h₀ : Heap} {sc : Addr} {vs : List Value} {ns : List Int} {L fa : Addr} {cd : Value}
/-- one local name is stored, the ledger stands -/
noncomputable def MidN (h₀ : Heap) (L : Addr) (m : Str → Option Value) (s : Shared) (led : List (Addr × Obj)) (x : Str) (P : Value → Prop) (s' : Shared) : Prop :=
  ∃ h' tk v, s' = { s with heap := h', toks := tk } ∧ Fr h₀ L h' (fun y => if y = x then some v else m y) ∧ News h₀ L h' led ∧ P v
theorem midN {m : Str → Option Value} {h' : Heap} {tk : Nat} {s : Shared} {led all : List (Addr × Obj)} {x : Str} {v : Value} {P : Value → Prop} (ps : List (Str × Value)) (hk : ∀ p ∈ ps, m p.1 = some p.2) (F : Fr h₀ L h' (fun y => if y = x then some v else kstB m ps y)) (N : News h₀ L h' all) (hs : ∀ p ∈ led, p ∈ all) (hp : P v) :
    Nx (MidN h₀ L m s led x P) .next { s with heap := h', toks := tk } := by
  rw [← kst_self hk] at F
  exact ⟨rfl, h', tk, v, rfl, F, fun p hp => N p (hs p hp), hp⟩
theorem p0 {s : Shared} {m : Str → Option Value} {led : List (Addr × Obj)} {o4 : Obj} {r : Addr} {ys : List Value} {bits : List Int} (X : Ctx0 w mean mg mb base h₀ sc vs ns) (F : Fr h₀ L s.heap m) (N : News h₀ L s.heap led)
    (h4 : (L + 4, o4) ∈ led) (c4 : o4.data = .cell (some (.ref r))) (hr : (r, lst ys) ∈ led) (hb : IntsAre ys bits) (hlen : bits.length < 2 ^ 62) :
    wpAny (model Challenge.rw_op0029_01.row.prog w) (callerA.deeper (lawEnv L fa cd)) (exec (l1St 0) (lawEnv L fa cd)) (Nx (MidN h₀ L m s led (Str.ofString "number") (fun v => ∃ t, v = .int (numOf bits) t))) (fun _ _ => False) s := by
  have B := X.below
  have T := X.top
  have KX := X.part
  clear X
  revert KX
  k_fill
  intro KX
  rw [L1S0.2]
  dsimp only [lawEnv, L1S0, LNM, LSC]
  obtain ⟨hp, gn, dr, tk, os⟩ := s
  dsimp only at N F ⊢
  try k_fold
  k_steps
  exact midN [] (fun _ h => nomatch h) (by assumption) (by assumption) (fun p hp => hp) ⟨_, rfl⟩
theorem p1 {s : Shared} {m : Str → Option Value} {led : List (Addr × Obj)} {n : Int} {t : Tok} (X : Ctx0 w mean mg mb base h₀ sc vs ns) (F : Fr h₀ L s.heap m) (N : News h₀ L s.heap led)
    (e1 : m (Str.ofString "number") = some (.int n t)) (h0 : 0 ≤ n) (h1 : n < 16777216) :
    wpAny (model Challenge.rw_op0029_01.row.prog w) (callerA.deeper (lawEnv L fa cd)) (exec (l1St 1) (lawEnv L fa cd)) (Nx (MidN h₀ L m s led (Str.ofString "word") (fun v => ∃ j t, j ≤ 6 ∧ n.toNat < 16 ^ j ∧ v = .str ⟨((apDig n.toNat j).map (·.toNat)).toArray⟩ t))) (fun _ _ => False) s := by
  have B := X.below
  have T := X.top
  have KX := X.part
  clear X
  revert KX
  k_fill
  intro KX
  rw [L1S1.2]
  dsimp only [lawEnv, L1S1, LNM, LSC]
  obtain ⟨hp, gn, dr, tk, os⟩ := s
  dsimp only at N F ⊢
  have hk1 : ∀ p ∈ [(Str.ofString "number", Value.int n t)], m p.1 = some p.2 := by simp only [List.forall_mem_cons]; exact ⟨e1, fun _ h => nomatch h⟩
  rw [kst_self hk1] at F
  dsimp only [kstB] at F
  try k_fold
  k_steps
  exact midN _ hk1 (by assumption) (by assumption) (fun p hp => .tail _ hp) ⟨_, _, by assumption, by assumption, rfl⟩
end lawB
end Mine
theorem Mine.none41 : True := by
  k_with_none
  trivial
end

/- Pad -/
section
open PySem PySem.W PyProof.Rows PySem.Calls PySem.Spec
set_option maxRecDepth 100000
set_option linter.all false
namespace Mine
noncomputable def wordS (n : Nat) : Str := ⟨#[65 + n / 1048576 % 16, 65 + n / 65536 % 16, 65 + n / 4096 % 16, 65 + n / 256 % 16, 65 + n / 16 % 16, 65 + n % 16]⟩
theorem u8 (x : Nat) : (UInt8.ofNat (65 + x % 16)).toNat = 65 + x % 16 := by
  rw [UInt8.toNat_ofNat']
  omega
theorem str6 {a0 a1 a2 a3 a4 a5 b0 b1 b2 b3 b4 b5 : Nat} (h0 : a0 = b0) (h1 : a1 = b1) (h2 : a2 = b2) (h3 : a3 = b3) (h4 : a4 = b4) (h5 : a5 = b5) : (⟨#[a0, a1, a2, a3, a4, a5]⟩ : Str) = ⟨#[b0, b1, b2, b3, b4, b5]⟩ := by
  subst h0 h1 h2 h3 h4 h5; rfl
/-- the letters of a number, the least last -/
noncomputable def tail16 (n : Nat) : Nat → List Nat
  | 0 => []
  | j + 1 => (65 + n / 16 ^ j % 16) :: tail16 n j
theorem apDig_tail (n : Nat) : ∀ j, (apDig n j).map (·.toNat) = tail16 n j
  | 0 => rfl
  | j + 1 => by
    show (UInt8.ofNat (65 + n / 16 ^ j % 16)).toNat :: (apDig n j).map (·.toNat) = _
    rw [u8, apDig_tail n j]
    rfl
theorem tail16_pad {n j : Nat} (h : n < 16 ^ j) : tail16 n (j + 1) = 65 :: tail16 n j := by
  show (65 + n / 16 ^ j % 16) :: _ = _
  rw [Nat.div_eq_of_lt h]
theorem pow_up {n j : Nat} (h : n < 16 ^ j) : n < 16 ^ (j + 1) := Nat.lt_of_lt_of_le h (Nat.pow_le_pow_right (by decide) (Nat.le_succ j))
theorem wordS_tail (n : Nat) : wordS n = ⟨(tail16 n 6).toArray⟩ := by
  show (⟨#[65 + n / 1048576 % 16, 65 + n / 65536 % 16, 65 + n / 4096 % 16, 65 + n / 256 % 16, 65 + n / 16 % 16, 65 + n % 16]⟩ : Str) = ⟨#[65 + n / 1048576 % 16, 65 + n / 65536 % 16, 65 + n / 4096 % 16, 65 + n / 256 % 16, 65 + n / 16 % 16, 65 + n / 1 % 16]⟩
  rw [Nat.div_one]
theorem pad_at {N0 j : Nat} (hj : j ≤ 6) (hN : N0 < 16 ^ j) : Txt.mul (Str.ofString "A") (6 - (j : Int)) ++ (⟨((apDig N0 j).map (·.toNat)).toArray⟩ : Str) = wordS N0 := by
  rw [wordS_tail, apDig_tail]
  have hc : j = 0 ∨ j = 1 ∨ j = 2 ∨ j = 3 ∨ j = 4 ∨ j = 5 ∨ j = 6 := by omega
  rcases hc with rfl | rfl | rfl | rfl | rfl | rfl | rfl
  · rw [tail16_pad (pow_up (pow_up (pow_up (pow_up (pow_up hN))))), tail16_pad (pow_up (pow_up (pow_up (pow_up hN)))), tail16_pad (pow_up (pow_up (pow_up hN))), tail16_pad (pow_up (pow_up hN)), tail16_pad (pow_up hN), tail16_pad hN]; rfl
  · rw [tail16_pad (pow_up (pow_up (pow_up (pow_up hN)))), tail16_pad (pow_up (pow_up (pow_up hN))), tail16_pad (pow_up (pow_up hN)), tail16_pad (pow_up hN), tail16_pad hN]; rfl
  · rw [tail16_pad (pow_up (pow_up (pow_up hN))), tail16_pad (pow_up (pow_up hN)), tail16_pad (pow_up hN), tail16_pad hN]; rfl
  · rw [tail16_pad (pow_up (pow_up hN)), tail16_pad (pow_up hN), tail16_pad hN]; rfl
  · rw [tail16_pad (pow_up hN), tail16_pad hN]; rfl
  · rw [tail16_pad hN]; rfl
  · rfl
end Mine
end

/- Ifmt -/
section
open PySem PySem.W PyProof.Rows PySem.Calls PySem.Spec
set_option maxRecDepth 100000
set_option linter.all false
namespace Mine
theorem and_dbl (x y : Int) : Builtin.bitAnd x (2 * y) = 2 * Builtin.bitAnd (x / 2) y := by
  rw [kbt_halves]
  have h1 : (2 * y) / 2 = y := by omega
  have h2 : (2 * y) % 2 = 0 := by omega
  rw [h1, h2]
  simp
theorem ifmt_eq {x : Int} (h0 : 0 ≤ x) (h1 : x < 4096) : Builtin.bitAnd (40960 + x) 61440 = 40960 := by
  rw [show (61440 : Int) = 2 * (2 * (2 * (2 * (2 * (2 * (2 * (2 * (2 * (2 * (2 * (2 * 15))))))))))) by decide]
  rw [and_dbl, and_dbl, and_dbl, and_dbl, and_dbl, and_dbl, and_dbl, and_dbl, and_dbl, and_dbl, and_dbl, and_dbl]
  have d2 : ∀ {y z : Int}, 0 ≤ y → (40960 + x) / y / z = (40960 + x) / (y * z) := fun h => Int.ediv_ediv_of_nonneg h
  rw [d2 (by decide), d2 (by decide), d2 (by decide), d2 (by decide), d2 (by decide), d2 (by decide), d2 (by decide), d2 (by decide), d2 (by decide), d2 (by decide), d2 (by decide)]
  rw [show (40960 + x) / (2 * 2 * 2 * 2 * 2 * 2 * 2 * 2 * 2 * 2 * 2 * 2) = 10 from (show (40960 + x) / 4096 = 10 by omega)]
  rfl
noncomputable def listing (x : Int) : Str := ⟨#[fmcp (40960 + x) 0, fmcp (40960 + x) 1, fmcp (40960 + x) 2, fmcp (40960 + x) 3, fmcp (40960 + x) 4, fmcp (40960 + x) 5, fmcp (40960 + x) 6, fmcp (40960 + x) 7, fmcp (40960 + x) 8, fmcp (40960 + x) 9]⟩
/-- the four signs of a row's number -/
noncomputable def txI (n : Int) : List Int := [sgn (n / 262144), sgn (n / 4096 % 64), sgn (n / 64 % 64), sgn (n % 64)]
theorem tx1 {n : Int} : n / 65536 / 4 = n / 262144 := Int.ediv_ediv_of_nonneg (x := n) (y := 65536) (z := 4) (by decide)
theorem tx2 (n : Int) : n / 65536 % 4 * 16 + n / 256 % 256 / 16 = n / 4096 % 64 := by
  have e1 : n / 65536 = n / 256 / 256 := (Int.ediv_ediv_of_nonneg (x := n) (y := 256) (z := 256) (by decide)).symm
  have e2 : n / 4096 = n / 256 / 16 := (Int.ediv_ediv_of_nonneg (x := n) (y := 256) (z := 16) (by decide)).symm
  rw [e1, e2]
  generalize n / 256 = y
  omega
theorem tx3 (n : Int) : n / 256 % 256 % 16 * 4 + n % 256 / 64 = n / 64 % 64 := by
  have e1 : n / 256 = n / 64 / 4 := (Int.ediv_ediv_of_nonneg (x := n) (y := 64) (z := 4) (by decide)).symm
  rw [e1, show n % 256 / 64 = n / 64 % 4 by omega]
  generalize n / 64 = y
  omega
theorem tx4 (n : Int) : n % 256 % 64 = n % 64 := Int.emod_emod_of_dvd n (by decide)
theorem txI_eq {n : Int} (h0 : 0 ≤ n) (h1 : n < 16777216) : [sgn (n.fdiv 65536 / 4), sgn (n.fdiv 65536 % 4 * 16 + (n.fdiv 256).fmod 256 / 16), sgn ((n.fdiv 256).fmod 256 % 16 * 4 + n.fmod 256 / 64), sgn (n.fmod 256 % 64)] = txI n := by
  rw [Int.fdiv_eq_ediv_of_nonneg _ (by decide : (0 : Int) ≤ 65536), Int.fdiv_eq_ediv_of_nonneg _ (by decide : (0 : Int) ≤ 256), Int.fmod_eq_emod_of_nonneg _ (by decide : (0 : Int) ≤ 256), Int.fmod_eq_emod_of_nonneg _ (by decide : (0 : Int) ≤ 256), tx1, tx2, tx3, tx4]
  rfl
/-- the frame stands, the ledger is turned, something is known of what is new -/
noncomputable def MidX {α : Type} (h₀ : Heap) (L : Addr) (m : Str → Option Value) (s : Shared) (led : α → List (Addr × Obj)) (P : α → Prop) (s' : Shared) : Prop :=
  ∃ h' tk a, s' = { s with heap := h', toks := tk } ∧ Fr h₀ L h' m ∧ News h₀ L h' (led a) ∧ P a
theorem midX {α : Type} {h₀ h' : Heap} {L : Addr} {m : Str → Option Value} {tk : Nat} {s : Shared} {led : α → List (Addr × Obj)} {P : α → Prop} {all : List (Addr × Obj)} (a : α) (ps : List (Str × Value)) (hk : ∀ p ∈ ps, m p.1 = some p.2) (F : Fr h₀ L h' (kstB m ps)) (N : News h₀ L h' all) (hs : ∀ p ∈ led a, p ∈ all) (hp : P a) :
    Nx (MidX h₀ L m s led P) .next { s with heap := h', toks := tk } := by
  rw [← kst_self hk] at F
  exact ⟨rfl, h', tk, a, rfl, F, fun p hp => N p (hs p hp), hp⟩
theorem allLt_mem {d : Addr} : ∀ {l : List (Addr × Obj)}, AllLt d l → ∀ p ∈ l, @LT.lt Nat _ p.1 d
  | [], _, _, h => nomatch h
  | _ :: _, x, p, h => by
    rcases List.mem_cons.mp h with rfl | h
    · exact x.1
    · exact allLt_mem x.2 p h
end Mine
end

/- LawC -/
section
theorem Mine.none45 : True := by
  k_with_none
  trivial
open PySem PySem.W PyProof.Rows PySem.Calls PySem.Spec
open PyProof.Rows.LCg
set_option maxRecDepth 100000
set_option maxHeartbeats 8000000
set_option linter.all false
namespace Mine
section lawC
theorem words42 : True := by
  k_with "call ref" => ((with_reducible show wpAny _ _ (call (Value.ref 28) _ _) _ _ _); k_dflt (refine' use (c_imode _ _ _ _ _ _) ?u1q48 ?u2q48 ?u3q48 ?u4q48 ?u5q48 ?u6q48 ?u7q48 ?u8q48 trivial ?_; (case u1q48 => k_asm); (case u2q48 => k_asm); (case u3q48 => k_asm); (case u4q48 => k_asm); (case u5q48 => k_asm); (case u6q48 => first | exact rfl | assumption); (case u7q48 => decide); (case u8q48 => decide)); intro v'9 h'9 tk'9 F'9 N'9 st'9 ev'9; obtain ⟨t'9, ev'9⟩ := ev'9; subst ev'9; (try dsimp only))
  trivial
variable {w : World} {mean : ExcName → Option Value} {mg mb : Str → Option Value} {base h₀ : Heap} {sc : Addr} {vs : List Value} {ns : List Int} {L fa : Addr} {cd : Value}
/-- the frame stands, the ledger is turned -/
noncomputable def MidL (h₀ : Heap) (L : Addr) (m : Str → Option Value) (s : Shared) (led : Tok → List (Addr × Obj)) (s' : Shared) : Prop :=
  ∃ h' tk t, s' = { s with heap := h', toks := tk } ∧ Fr h₀ L h' m ∧ News h₀ L h' (led t)
theorem midL {m : Str → Option Value} {h' : Heap} {tk : Nat} {s : Shared} {led : Tok → List (Addr × Obj)} {all : List (Addr × Obj)} (t : Tok) (ps : List (Str × Value)) (hk : ∀ p ∈ ps, m p.1 = some p.2) (F : Fr h₀ L h' (kstB m ps)) (N : News h₀ L h' all) (hs : ∀ p ∈ led t, p ∈ all) :
    Nx (MidL h₀ L m s led) .next { s with heap := h', toks := tk } := by
  rw [← kst_self hk] at F
  exact ⟨rfl, h', tk, t, rfl, F, fun p hp => N p (hs p hp)⟩
theorem p2 {s : Shared} {m : Str → Option Value} {rest : List (Addr × Obj)} {la ta wa : Addr} {La Ta : Obj} {wsv : List Value} {kw N0 j : Nat} {t : Tok} (X : Ctx0 w mean mg mb base h₀ sc vs ns) (F : Fr h₀ L s.heap m) (N : News h₀ L s.heap ((la, La) :: (ta, Ta) :: (wa, PySem.W.listOf wsv.toArray kw) :: rest))
    (e1 : m (Str.ofString "words") = some (.ref wa)) (e2 : m (Str.ofString "word") = some (.str ⟨((apDig N0 j).map (·.toNat)).toArray⟩ t)) (hj : j ≤ 6) (hN : N0 < 16 ^ j) (o1 : @LT.lt Nat _ wa ta) (o2 : @LT.lt Nat _ ta la) (off : OwnOff rest [la, ta, wa]) (hsz : wsv.toArray.size ≤ 100) :
    wpAny (model Challenge.rw_op0029_01.row.prog w) (callerA.deeper (lawEnv L fa cd)) (exec (l1St 2) (lawEnv L fa cd)) (Nx (MidL h₀ L m s (fun t => (la, La) :: (ta, Ta) :: (wa, PySem.W.listOf (wsv ++ [Value.str (wordS N0) t]).toArray (kw + 1)) :: rest))) (fun _ _ => False) s := by
  have B := X.below
  have T := X.top
  have KX := X.part
  clear X
  revert KX
  k_fill
  intro KX
  rw [L1S2.2]
  dsimp only [lawEnv, L1S2, LNM, LSC]
  obtain ⟨hp, gn, dr, tk, os⟩ := s
  dsimp only at N F ⊢
  generalize hW : (⟨((apDig N0 j).map (·.toNat)).toArray⟩ : Str) = W at *
  have hlW : W.length = j := by rw [← hW]; show (List.toArray _).size = j; rw [List.size_toArray, List.length_map, apDig_length]
  have hk1 : ∀ p ∈ [(Str.ofString "words", Value.ref wa), (Str.ofString "word", Value.str W t)], m p.1 = some p.2 := by simp only [List.forall_mem_cons]; exact ⟨e1, e2, fun _ h => nomatch h⟩
  rw [kst_self hk1] at F
  dsimp only [kstB] at F
  try k_fold
  k_steps
  rename News _ _ _ _ => lN
  rw [hlW, ← hW, pad_at hj hN, List.push_toArray] at lN
  exact midL _ _ hk1 (by assumption) lN (fun p hp => hp)
theorem words43 : True := by
  k_with "call ref" => ((with_reducible show wpAny _ _ (call (Value.ref 105) _ _) _ _ _); k_dflt (refine' use (c_b64 _ _ _ _ _ _ _ _ _ ?uhq49) ?u1q49 ?u2q49 ?u3q49 ?u4q49 ?u5q49 ?u6q49 ?u7q49 ?u8q49 trivial ?_; (case uhq49 => first | assumption | exact KBa.ints_make (by assumption)); (case u1q49 => k_asm); (case u2q49 => k_asm); (case u3q49 => k_asm); (case u4q49 => k_asm); (case u5q49 => k_asm); (case u6q49 => first | exact rfl | assumption); (case u7q49 => decide); (case u8q49 => decide)); intro v'9 h'9 tk'9 F'9 N'9 st'9 ev'9; obtain ⟨b'9, t'9, ev'9, eb'9⟩ := ev'9; subst ev'9; (try dsimp only))
  k_with "call ref" => ((with_reducible show wpAny _ _ (call (Value.ref 75) _ _) _ _ _); k_dflt (refine' use (c_fm _ _ _ _ _ _ ?uhq50) ?u1q50 ?u2q50 ?u3q50 ?u4q50 ?u5q50 ?u6q50 ?u7q50 ?u8q50 trivial ?_; (case uhq50 => first | assumption | exact ifmt_eq (by assumption) (by assumption)); (case u1q50 => k_asm); (case u2q50 => k_asm); (case u3q50 => k_asm); (case u4q50 => k_asm); (case u5q50 => k_asm); (case u6q50 => first | exact rfl | assumption); (case u7q50 => decide); (case u8q50 => decide)); intro v'9 h'9 tk'9 F'9 N'9 st'9 ev'9; obtain ⟨t'9, ev'9⟩ := ev'9; subst ev'9; (try dsimp only))
  trivial
theorem bytes3 {prog : Program} {w : World} {A : Around} {E : Value → Shared → Prop} {s : Shared} {h₀ : Heap} {L D : Addr} {m : Str → Option Value} {news : List (Addr × Obj)} {a b c : Int} {ta tb tc : Tok} {n : Nat} {Q : Value → Shared → Prop} (F : Fr h₀ L s.heap m) (N : News h₀ L s.heap news) (hh : A.handled = none)
    (hm : (D, PySem.W.listOf #[.int a ta, .int b tb, .int c tc] n) ∈ news) (ha : 0 ≤ a ∧ a < 256) (hb : 0 ≤ b ∧ b < 256) (hc : 0 ≤ c ∧ c < 256)
    (h : ∀ h' b' t' k, Fr h₀ L h' m → News h₀ L h' news → KBw.bInts b' = [a, b, c] → Q (.bytes b' t') { s with heap := h', toks := k }) : wpAny (model prog w) A (call (.type "bytes") [.ref D]) Q E s := by
  have hin : KBa.In [a, b, c] := by
    intro x hx
    simp only [List.mem_cons, List.not_mem_nil, or_false] at hx
    rcases hx with rfl | rfl | rfl <;> assumption
  refine KBa.make_K (vs := [.int a ta, .int b tb, .int c tc]) (ns := [a, b, c]) F N hh ⟨_, (N _ hm).1, rfl, _, rfl⟩ (.cons _ _ (.cons _ _ (.cons _ _ .nil))) hin (Nat.le_of_ble_eq_true rfl) ?_
  intro h' t' k F' N' _
  exact h h' _ t' k F' N' (KBa.ints_make hin)
theorem words44 : True := by
  k_with "call type:bytes" => (k_dflt (refine bytes3 (by k_asm) (by k_asm) rfl (by k_mem) (by assumption) (by assumption) (by assumption) ?_); intro h'9 b'9 t'9 k'9 F'9 N'9 hB'9)
  trivial
theorem p3 {s : Shared} {m : Str → Option Value} {rest : List (Addr × Obj)} {la ta wa : Addr} {La Wa : Obj} {tsv : List Value} {kt : Nat} {n : Int} {t : Tok} (X : Ctx0 w mean mg mb base h₀ sc vs ns) (F : Fr h₀ L s.heap m) (N : News h₀ L s.heap ((la, La) :: (ta, PySem.W.listOf tsv.toArray kt) :: (wa, Wa) :: rest))
    (e1 : m (Str.ofString "texts") = some (.ref ta)) (e2 : m (Str.ofString "number") = some (.int n t)) (h0 : 0 ≤ n) (h1 : n < 16777216) (o1 : @LT.lt Nat _ wa ta) (o2 : @LT.lt Nat _ ta la) (off : OwnOff rest [la, ta, wa]) (hsz : tsv.toArray.size ≤ 100) :
    wpAny (model Challenge.rw_op0029_01.row.prog w) (callerA.deeper (lawEnv L fa cd)) (exec (l1St 3) (lawEnv L fa cd)) (Nx (MidX h₀ L m s (fun (a : Array UInt8 × Tok) => (la, La) :: (ta, PySem.W.listOf (tsv ++ [Value.bytes a.1 a.2]).toArray (kt + 1)) :: (wa, Wa) :: rest) (fun a => KBw.bInts a.1 = txI n))) (fun _ _ => False) s := by
  have B := X.below
  have T := X.top
  have KX := X.part
  clear X
  revert KX
  k_fill
  intro KX
  rw [L1S3.2]
  dsimp only [lawEnv, L1S3, LNM, LSC]
  obtain ⟨hp, gn, dr, tk, os⟩ := s
  dsimp only at N F ⊢
  have hf1 : 0 ≤ n.fdiv 65536 ∧ n.fdiv 65536 < 256 := by rw [Int.fdiv_eq_ediv_of_nonneg _ (by decide)]; omega
  have hf2 : 0 ≤ (n.fdiv 256).fmod 256 ∧ (n.fdiv 256).fmod 256 < 256 := ⟨Int.fmod_nonneg_of_pos _ (by decide), Int.fmod_lt_of_pos _ (by decide)⟩
  have hf3 : 0 ≤ n.fmod 256 ∧ n.fmod 256 < 256 := ⟨Int.fmod_nonneg_of_pos _ (by decide), Int.fmod_lt_of_pos _ (by decide)⟩
  have hk1 : ∀ p ∈ [(Str.ofString "texts", Value.ref ta), (Str.ofString "number", Value.int n t)], m p.1 = some p.2 := by simp only [List.forall_mem_cons]; exact ⟨e1, e2, fun _ h => nomatch h⟩
  rw [kst_self hk1] at F
  dsimp only [kstB] at F
  try k_fold
  k_steps
  rename News _ _ _ _ => lN
  rename KBw.bInts _ = [_, _, _, _] => hB
  rw [List.push_toArray] at lN
  exact midX (_, _) _ hk1 (by assumption) lN (fun p hp => .tail _ hp) (hB.trans (txI_eq h0 h1))
theorem p4 {s : Shared} {m : Str → Option Value} {rest : List (Addr × Obj)} {la ta wa : Addr} {Ta Wa : Obj} {lsv : List Value} {kl : Nat} {n : Int} {t : Tok} (X : Ctx0 w mean mg mb base h₀ sc vs ns) (F : Fr h₀ L s.heap m) (N : News h₀ L s.heap ((la, PySem.W.listOf lsv.toArray kl) :: (ta, Ta) :: (wa, Wa) :: rest))
    (e1 : m (Str.ofString "lists") = some (.ref la)) (e2 : m (Str.ofString "number") = some (.int n t)) (h0 : 0 ≤ n) (h1 : n < 16777216) (o1 : @LT.lt Nat _ wa ta) (o2 : @LT.lt Nat _ ta la) (off : OwnOff rest [la, ta, wa]) (hsz : lsv.toArray.size ≤ 100) :
    wpAny (model Challenge.rw_op0029_01.row.prog w) (callerA.deeper (lawEnv L fa cd)) (exec (l1St 4) (lawEnv L fa cd)) (Nx (MidX h₀ L m s (fun (a : Addr × Tok × Tok × Nat) => (la, PySem.W.listOf (lsv ++ [Value.ref a.1]).toArray (kl + 1)) :: (ta, Ta) :: (wa, Wa) :: (a.1, PySem.W.listOf #[Value.str (listing (n / 4096)) a.2.1, Value.str (listing (n % 4096)) a.2.2.1] a.2.2.2) :: rest) (fun a => (∀ p ∈ rest, @LT.lt Nat _ p.1 a.1) ∧ @LT.lt Nat _ la a.1))) (fun _ _ => False) s := by
  have B := X.below
  have T := X.top
  have KX := X.part
  clear X
  revert KX
  k_fill
  intro KX
  rw [L1S4.2]
  dsimp only [lawEnv, L1S4, LNM, LSC]
  obtain ⟨hp, gn, dr, tk, os⟩ := s
  dsimp only at N F ⊢
  have hq : n.fdiv 4096 = n / 4096 := Int.fdiv_eq_ediv_of_nonneg _ (by decide)
  have hf1 : 0 ≤ n.fdiv 4096 := by omega
  have hf2 : n.fdiv 4096 < 4096 := by omega
  have hf3 : 0 ≤ n % 4096 := by omega
  have hf4 : n % 4096 < 4096 := by omega
  have hk1 : ∀ p ∈ [(Str.ofString "lists", Value.ref la), (Str.ofString "number", Value.int n t)], m p.1 = some p.2 := by simp only [List.forall_mem_cons]; exact ⟨e1, e2, fun _ h => nomatch h⟩
  rw [kst_self hk1] at F
  dsimp only [kstB] at F
  try k_fold
  k_steps
  rename News _ _ _ _ => lN
  rw [List.push_toArray, hq] at lN
  rename _ ∧ _ ∧ _ ∧ AllLt _ _ => aN
  exact midX (_, _, _, _) _ hk1 (by assumption) lN (fun p hp => by
    rcases List.mem_cons.mp hp with e | hp
    · subst e; exact .tail _ (.head _)
    rcases List.mem_cons.mp hp with e | hp
    · subst e; exact .tail _ (.tail _ (.head _))
    rcases List.mem_cons.mp hp with e | hp
    · subst e; exact .tail _ (.tail _ (.tail _ (.head _)))
    rcases List.mem_cons.mp hp with e | hp
    · subst e; exact .head _
    exact .tail _ (.tail _ (.tail _ (.tail _ hp)))) ⟨allLt_mem aN.2.2.2, aN.1⟩
theorem cutN {M : Model} {A : Around} {E : Value → Shared → Prop} {Q : Flow → Shared → Prop} {s : Shared} {env : Env} {st : Stmt} {rest : List Stmt} {m : Str → Option Value} {led : List (Addr × Obj)} {x : Str} {P : Value → Prop} (h : wpAny M A (exec st env) (Nx (MidN h₀ L m s led x P)) E s)
    (k : ∀ g tk v, Fr h₀ L g (fun y => if y = x then some v else m y) → News h₀ L g led → P v → wpAny M A (execs rest env) Q E { s with heap := g, toks := tk }) : wpAny M A (execs (st :: rest) env) Q E s :=
  execs_cut _ h fun _ ⟨g, tk, v, e, F, N, p⟩ => e ▸ k g tk v F N p
theorem cutL {M : Model} {A : Around} {E : Value → Shared → Prop} {Q : Flow → Shared → Prop} {s : Shared} {env : Env} {st : Stmt} {rest : List Stmt} {m : Str → Option Value} {led : Tok → List (Addr × Obj)} (h : wpAny M A (exec st env) (Nx (MidL h₀ L m s led)) E s)
    (k : ∀ g tk t, Fr h₀ L g m → News h₀ L g (led t) → wpAny M A (execs rest env) Q E { s with heap := g, toks := tk }) : wpAny M A (execs (st :: rest) env) Q E s :=
  execs_cut _ h fun _ ⟨g, tk, t, e, F, N⟩ => e ▸ k g tk t F N
theorem cutX {α : Type} {M : Model} {A : Around} {E : Value → Shared → Prop} {Q : Flow → Shared → Prop} {s : Shared} {env : Env} {st : Stmt} {rest : List Stmt} {m : Str → Option Value} {led : α → List (Addr × Obj)} {P : α → Prop} (h : wpAny M A (exec st env) (Nx (MidX h₀ L m s led P)) E s)
    (k : ∀ g tk a, Fr h₀ L g m → News h₀ L g (led a) → P a → wpAny M A (execs rest env) Q E { s with heap := g, toks := tk }) : wpAny M A (execs (st :: rest) env) Q E s :=
  execs_cut _ h fun _ ⟨g, tk, a, e, F, N, p⟩ => e ▸ k g tk a F N p
end lawC
end Mine
theorem Mine.none46 : True := by
  k_with_none
  trivial
end

/- RowLaw -/
section
open PySem PySem.W PyProof.Rows PySem.Calls PySem.Spec
set_option maxRecDepth 100000
set_option linter.all false
namespace Mine
noncomputable def fourOf (bits : List Int) (i : Nat) : Int × Int × Int × Int := (bits.getD (4 * i) 0, bits.getD (4 * i + 1) 0, bits.getD (4 * i + 2) 0, bits.getD (4 * i + 3) 0)
noncomputable def rowLet (bits : List Int) : Str := ⟨#[let4 (fourOf bits 0), let4 (fourOf bits 1), let4 (fourOf bits 2), let4 (fourOf bits 3), let4 (fourOf bits 4), let4 (fourOf bits 5)]⟩
/-- the i-th four of a row's values -/
noncomputable def vOf (ys : List Value) (i : Nat) : Value × Value × Value × Value := (ys.getD (4 * i) .none, ys.getD (4 * i + 1) .none, ys.getD (4 * i + 2) .none, ys.getD (4 * i + 3) .none)
theorem ints_getD {ys : List Value} {bits : List Int} (hb : IntsAre ys bits) : ∀ {j : Nat}, j < bits.length → ∃ t, ys.getD j .none = .int (bits.getD j 0) t := by
  induction hb with
  | nil => intro j hj; exact absurd hj (Nat.not_lt_zero _)
  | cons n t _ ih =>
    intro j hj
    cases j with
    | zero => exact ⟨t, rfl⟩
    | succ j => simpa using ih (j := j) (by simpa using hj)
theorem bit_getD {bits : List Int} (hB : ∀ b ∈ bits, Bit b) {j : Nat} (hj : j < bits.length) : Bit (bits.getD j 0) := by
  have e : bits.getD j 0 = bits[j] := by simp [hj]
  rw [e]
  exact hB _ (List.getElem_mem hj)
theorem letJ_row {ys : List Value} {bits : List Int} (hb : IntsAre ys bits) (hlen : bits.length = 24) (hB : ∀ b ∈ bits, Bit b) : LetJ (vOf ys) (fourOf bits) 6 := by
  intro i hi
  refine ⟨⟨bit_getD hB (by omega), bit_getD hB (by omega), bit_getD hB (by omega), bit_getD hB (by omega)⟩, ?_⟩
  obtain ⟨t0, e0⟩ := ints_getD hb (j := 4 * i) (by omega)
  obtain ⟨t1, e1⟩ := ints_getD hb (j := 4 * i + 1) (by omega)
  obtain ⟨t2, e2⟩ := ints_getD hb (j := 4 * i + 2) (by omega)
  obtain ⟨t3, e3⟩ := ints_getD hb (j := 4 * i + 3) (by omega)
  refine ⟨t0, t1, t2, t3, ?_⟩
  unfold vOf fourOf
  rw [e0, e1, e2, e3]
theorem pick_row {ys : List Value} (hl : ys.length = 24) {i : Nat} (hi : i < 6) : kms_pick ys (some (4 * (0 + (i : Int) * 1))) (some (4 * (0 + (i : Int) * 1) + 4)) = [(vOf ys i).1, (vOf ys i).2.1, (vOf ys i).2.2.1, (vOf ys i).2.2.2] := by
  have hc := lt6 hi
  obtain ⟨a0, a1, a2, a3, a4, a5, a6, a7, a8, a9, b0, b1, b2, b3, b4, b5, b6, b7, b8, b9, c0, c1, c2, c3, rfl⟩ := list24 hl
  rcases hc with rfl | rfl | rfl | rfl | rfl | rfl <;> rfl
end Mine
end

section
local macro_rules | `(tactic| k_mem) => `(tactic| first | exact List.Mem.head _ | assumption | (refine' List.Mem.tail _ ?_; k_mem))

/- LawD -/
section
theorem Mine.none48 : True := by
  k_with_none
  trivial
open PySem PySem.W PyProof.Rows PySem.Calls PySem.Spec
open PyProof.Rows.LCg
set_option maxRecDepth 100000
set_option maxHeartbeats 8000000
set_option linter.all false
namespace Mine
section lawD
theorem words47 : True := by
  k_with "eval ListComp Subscript" => ((with_reducible show wpAny _ _ (eval (PySem.Expr.ListComp (PySem.Expr.Subscript (PySem.Expr.Name (PySem.Str.ofString "row") _) _ _) _ _ _) _) _ _ _); k_dflt (refine ListComp_S (F₀ := by k_asm) (by with_unfolding_all rfl) (by decide) (by rfl) (by decide) (by rfl) ?_))
  k_with "subscriptTail" => ((with_reducible show wpAny _ _ (subscriptTail (PySem.Expr.Name (PySem.Str.ofString "words") _) _ (Value.ref _) (Value.int _ _)) _ _ _); k_dflt (refine item_listR (News.isList (by k_asm) (by k_mem)) (by omega) (by omega) (by assumption) ?_))
  k_with "subscriptTail Name Slice ref ref" => ((with_reducible show wpAny _ _ (subscriptTail _ (PySem.Expr.Slice _ _ none _) (Value.ref _) (Value.ref _)) _ _ _); k_dflt (refine' kms_slice_lit ?Fq54 ?Nq54 ?lq54 ?pq54 ?qq54 ?eq54 ?_ ?sq54 ?tq54 ?zq54; (case Fq54 => k_asm); (case Nq54 => k_asm); (case lq54 => exact isList_led (by k_asm) (.tail _ (.tail _ (.tail _ (by assumption))))); (case pq54 => kmk_part); (case qq54 => kmk_part); (case eq54 => rfl); (case sq54 => with_unfolding_all rfl); (case tq54 => kmk_pure); (case zq54 => (rw [List.size_toArray, sizeLine_eq]; omega))); intro D'9 h'9 F'9 N'9 l1; (try k_lt l1))
  k_with "SrcS" => (k_dflt (refine SrcS.intro (n := 6) (by rfl) (by k_asm) (by k_asm) (by assumption) (by decide) (by decide) (by decide) ?_); refine Held.out ?_)
  k_with "call ref" => ((with_reducible show wpAny _ _ (call (Value.ref 124) _ _) _ _ _); refine Held.out ?_)
  k_with "eval Name" => ((with_reducible show wpAny _ _ (eval (PySem.Expr.Name (PySem.Str.ofString "row") _) (compEnvC _ _ _ _)) _ _ _); k_dflt (refine' lcf_cell ?Nq57 ?cq57 ?mq57 ?dq57 ?_ ?aq57 ?bq57; (case aq57 => rfl); (case bq57 => rfl); (case Nq57 => k_asm); (case cq57 => rfl); (case mq57 => exact .tail _ (.tail _ (.tail _ (by assumption)))); (case dq57 => assumption)))
  trivial
variable {w : World} {mean : ExcName → Option Value} {mg mb : Str → Option Value} {base h₀ : Heap} {sc : Addr} {vs : List Value} {ns : List Int} {L fa : Addr} {cd : Value}
theorem p5 {s : Shared} {m : Str → Option Value} {led : List (Addr × Obj)} {o4 : Obj} {r wa : Addr} {ys : List Value} {bits : List Int} {wv : List Value} {kw k : Nat} {t tk : Tok} (X : Ctx0 w mean mg mb base h₀ sc vs ns) (F : Fr h₀ L s.heap m) (N : News h₀ L s.heap led)
    (h4 : (L + 4, o4) ∈ led) (c4 : o4.data = .cell (some (.ref r))) (hr : (r, lst ys) ∈ led) (hb : IntsAre ys bits) (hlen : bits.length = 24) (hB : ∀ b ∈ bits, Bit b)
    (hw : (wa, PySem.W.listOf wv.toArray kw) ∈ led) (e1 : m (Str.ofString "words") = some (.ref wa)) (e2 : m (Str.ofString "k") = some (.int (k : Int) tk)) (hk : wv[k]? = some (.str (rowLet bits) t)) (hk1 : k < 11) :
    wpAny (model Challenge.rw_op0029_01.row.prog w) (callerA.deeper (lawEnv L fa cd)) (exec (l1St 5) (lawEnv L fa cd)) (Nx (MidX h₀ L m s (fun (_ : Unit) => led) (fun _ => True))) (fun _ _ => False) s := by
  have B := X.below
  have T := X.top
  have KX := X.part
  clear X
  revert KX
  k_fill
  intro KX
  rw [L1S5.2]
  dsimp only [lawEnv, L1S5, LNM, LSC]
  obtain ⟨hp, gn, dr, tok, os⟩ := s
  dsimp only at N F ⊢
  have hkk : ∀ p ∈ [(Str.ofString "words", Value.ref wa), (Str.ofString "k", Value.int (k : Int) tk)], m p.1 = some p.2 := by simp only [List.forall_mem_cons]; exact ⟨e1, e2, fun _ h => nomatch h⟩
  rw [kst_self hkk] at F
  dsimp only [kstB] at F
  have hx : wv.toArray[(k : Int).toNat]? = some (.str (rowLet bits) t) := by simpa using hk
  have hly : ys.length = 24 := by rw [hb.length, hlen]
  try k_fold
  k_steps
  refine Held.mk ?_
  intro g'
  refine rest_obj (fun i o => o = PySem.W.listOf (kms_pick ys (some (4 * (0 + (i : Int) * 1))) (some (4 * (0 + (i : Int) * 1) + 4))).toArray 0) (fun _ => trivial) ?_ ?_
  · intro i v I oI C oC D m₂ zs nw h tk' E' hi hv hC hx' hsub F' N' off ne
    obtain ⟨tv, rfl⟩ := hv
    have h4' := hsub _ h4
    have hr' := hsub _ hr
    clear hsub
    have h4'' : (L + 3 + 1, o4) ∈ nw := h4'
    dsimp only
    try k_fold
    k_steps
    rename _ ∧ _ ∧ _ ∧ AllLt _ _ => aN
    obtain ⟨aN1, aN2, aN3, _⟩ := aN
    dsimp only
    refine ObEnd.intro (by assumption) (by assumption) (fun p hp => hp) ?_ (by omega) (by omega) (by omega)
    rfl
  · intro ls hll hG
    obtain ⟨⟨a0, u0⟩, ⟨a1, u1⟩, ⟨a2, u2⟩, ⟨a3, u3⟩, ⟨a4, u4⟩, ⟨a5, u5⟩, rfl⟩ := list6 hll
    · clear hll
      have g0 := hG 0 _ rfl
      have g1 := hG 1 _ rfl
      have g2 := hG 2 _ rfl
      have g3 := hG 3 _ rfl
      have g4 := hG 4 _ rfl
      have g5 := hG 5 _ rfl
      dsimp only at g0 g1 g2 g3 g4 g5
      clear hG
      intro D hE tkE FE NE offE
      dsimp only [List.map_cons, List.map_nil] at NE ⊢
      generalize hnw : led ++ [(a0, u0), (a1, u1), (a2, u2), (a3, u3), (a4, u4), (a5, u5)] = nw at NE offE
      have mled : ∀ p ∈ led, p ∈ nw := fun p hp => hnw ▸ List.mem_append_left _ hp
      have m0 : (a0, u0) ∈ nw := hnw ▸ List.mem_append_right _ (.head _)
      have m1 : (a1, u1) ∈ nw := hnw ▸ List.mem_append_right _ (.tail _ (.head _))
      have m2 : (a2, u2) ∈ nw := hnw ▸ List.mem_append_right _ (.tail _ (.tail _ (.head _)))
      have m3 : (a3, u3) ∈ nw := hnw ▸ List.mem_append_right _ (.tail _ (.tail _ (.tail _ (.head _))))
      have m4 : (a4, u4) ∈ nw := hnw ▸ List.mem_append_right _ (.tail _ (.tail _ (.tail _ (.tail _ (.head _)))))
      have m5 : (a5, u5) ∈ nw := hnw ▸ List.mem_append_right _ (.tail _ (.tail _ (.tail _ (.tail _ (.tail _ (.head _))))))
      clear hnw
      rw [pick_row hly (by decide)] at g0 g1 g2 g3 g4 g5
      have hP : ∀ {g : Heap}, News h₀ L g ((D, lst [.ref a0, .ref a1, .ref a2, .ref a3, .ref a4, .ref a5]) :: nw) → LetPre D (fun i => [a0, a1, a2, a3, a4, a5].getD i 0) (vOf ys) g := by
        intro g Ng
        refine ⟨isList_led Ng (.head _), fun i hi => ?_⟩
        have hc := lt6 hi
        rcases hc with rfl | rfl | rfl | rfl | rfl | rfl
        · exact ⟨u0, (Ng _ (.tail _ m0)).1, by rw [g0], 0, by rw [g0]⟩
        · exact ⟨u1, (Ng _ (.tail _ m1)).1, by rw [g1], 0, by rw [g1]⟩
        · exact ⟨u2, (Ng _ (.tail _ m2)).1, by rw [g2], 0, by rw [g2]⟩
        · exact ⟨u3, (Ng _ (.tail _ m3)).1, by rw [g3], 0, by rw [g3]⟩
        · exact ⟨u4, (Ng _ (.tail _ m4)).1, by rw [g4], 0, by rw [g4]⟩
        · exact ⟨u5, (Ng _ (.tail _ m5)).1, by rw [g5], 0, by rw [g5]⟩
      have hV := letJ_row hb hlen hB
      clear m0 m1 m2 m3 m4 m5 g0 g1 g2 g3 g4 g5
      try k_fold
      k_steps
      refine Held.mk ?_
      refine use (c_let w mean mg mb D _ _ _ hV) (by k_asm) FE (by k_asm) NE (by k_asm) ?_ (by decide) (by decide) (hP NE) ?_
      · first | exact rfl | assumption
      intro v' h' tk' F' N' st' ev'
      obtain ⟨t', ev'⟩ := ev'
      change v' = Value.str (rowLet bits) t' at ev'
      subst ev'
      generalize rowLet bits = W at *
      try k_fold
      k_steps
      all_goals first
        | exact midX (led := fun (_ : Unit) => led) (P := fun _ => True) () _ hkk (by assumption) N' (fun p hp => .tail _ (mled p hp)) trivial
        | (exfalso; rename (_ != _) = true => hne; simp at hne)
end lawD
end Mine
theorem Mine.none49 : True := by
  k_with_none
  trivial
end

/- LawE -/
section
theorem Mine.none51 : True := by
  k_with_none
  trivial
open PySem PySem.W PyProof.Rows PySem.Calls PySem.Spec
open PyProof.Rows.LCg
set_option maxRecDepth 100000
set_option maxHeartbeats 8000000
set_option linter.all false
namespace Mine
section lawE
/-- the riffle -/
noncomputable def shuf (bits : List Int) : List Int := (List.range 24).map fun p => bits.getD (p / 2 + 12 * (p % 2)) 0
theorem riffle_idx (i : Nat) : (0 + (i : Int) * 1).fdiv 2 + 12 * (0 + (i : Int) * 1).fmod 2 = ((i / 2 + 12 * (i % 2) : Nat) : Int) := by
  rw [Int.fdiv_eq_ediv_of_nonneg _ (by decide : (0 : Int) ≤ 2), Int.fmod_eq_emod_of_nonneg _ (by decide : (0 : Int) ≤ 2)]
  omega
theorem riffle_item {ys : List Value} {bits : List Int} (hb : IntsAre ys bits) (hlen : bits.length = 24) {i : Nat} (hi : i < 24) : ∃ t, ys.toArray[((0 + (i : Int) * 1).fdiv 2 + 12 * (0 + (i : Int) * 1).fmod 2).toNat]? = some (Value.int (bits.getD (i / 2 + 12 * (i % 2)) 0) t) := by
  have hj : i / 2 + 12 * (i % 2) < bits.length := by omega
  obtain ⟨t, e⟩ := ints_getD hb hj
  refine ⟨t, ?_⟩
  rw [riffle_idx, Int.toNat_natCast, ← e]
  have hl : i / 2 + 12 * (i % 2) < ys.length := by rw [hb.length]; exact hj
  simp [hl]
theorem riffle_ints {zs : List Value} {bits : List Int} (hl : zs.length = 24) (hG : ∀ (i : Nat) y, zs[i]? = some y → ∃ t, y = Value.int (bits.getD (i / 2 + 12 * (i % 2)) 0) t) : IntsAre zs (shuf bits) := by
  refine ints_of (by rw [hl]; simp [shuf]) fun i y k hy hk => ?_
  obtain ⟨t, rfl⟩ := hG i y hy
  have hi : i < 24 := by
    have := (List.getElem?_eq_some_iff.mp hy).1
    omega
  refine ⟨t, ?_⟩
  simp only [shuf, List.getElem?_map, List.getElem?_range hi, Option.map_some, Option.some.injEq] at hk
  rw [hk]
theorem words50 : True := by
  k_with "subscriptTail" => ((with_reducible show wpAny _ _ (subscriptTail (PySem.Expr.Name (PySem.Str.ofString "row") _) _ (Value.ref _) (Value.int _ _)) _ _ _); k_dflt (refine item_listR (isList_led (by k_asm) (by k_mem)) (by assumption) (by assumption) (by assumption) ?_))
  k_with "eval ListComp Subscript" => ((with_reducible show wpAny _ _ (eval (PySem.Expr.ListComp (PySem.Expr.Subscript (PySem.Expr.Name (PySem.Str.ofString "row") _) _ _) _ _ _) _) _ _ _); k_dflt (refine ListComp_S (F₀ := by k_asm) (by with_unfolding_all rfl) (by decide) (by rfl) (by decide) (by rfl) ?_))
  k_with "SrcS" => (k_dflt (refine SrcS.intro (n := 24) (by rfl) (by k_asm) (by k_asm) (by assumption) (by decide) (by decide) (by decide) ?_); refine Held.out ?_)
  k_with "eval Name" => ((with_reducible show wpAny _ _ (eval (PySem.Expr.Name (PySem.Str.ofString "row") _) (compEnvC _ _ _ _)) _ _ _); k_dflt (refine' lcf_cell ?Nq61 ?cq61 ?mq61 ?dq61 ?_ ?aq61 ?bq61; (case aq61 => rfl); (case bq61 => rfl); (case Nq61 => k_asm); (case cq61 => rfl); (case mq61 => k_mem); (case dq61 => assumption)))
  trivial
variable {w : World} {mean : ExcName → Option Value} {mg mb : Str → Option Value} {base h₀ : Heap} {sc : Addr} {vs : List Value} {ns : List Int} {L fa : Addr} {cd : Value}
theorem p6 {s : Shared} {m : Str → Option Value} {rest : List (Addr × Obj)} {o4 : Obj} {r : Addr} {ys : List Value} {bits : List Int} (X : Ctx0 w mean mg mb base h₀ sc vs ns) (F : Fr h₀ L s.heap m) (N : News h₀ L s.heap ((L + 4, o4) :: rest))
    (c4 : o4.data = .cell (some (.ref r))) (hr : (r, lst ys) ∈ rest) (off : OwnOff rest [L + 4]) (hb : IntsAre ys bits) (hlen : bits.length = 24) :
    wpAny (model Challenge.rw_op0029_01.row.prog w) (callerA.deeper (lawEnv L fa cd)) (exec (l1St 6) (lawEnv L fa cd)) (Nx (MidX h₀ L m s (fun (a : Addr × List Value × Obj) => (a.1, lst a.2.1) :: (L + 4, a.2.2) :: rest) (fun a => a.2.2.data = .cell (some (.ref a.1)) ∧ IntsAre a.2.1 (shuf bits) ∧ @Ne Nat (L + 4) a.1 ∧ ∀ p ∈ rest, @Ne Nat p.1 a.1))) (fun _ _ => False) s := by
  have B := X.below
  have T := X.top
  have KX := X.part
  clear X
  revert KX
  k_fill
  intro KX
  rw [L1S6.2]
  dsimp only [lawEnv, L1S6, LNM, LSC]
  obtain ⟨hp, gn, dr, tok, os⟩ := s
  dsimp only at N F ⊢
  have hly : ys.length = 24 := by rw [hb.length, hlen]
  try k_fold
  k_steps
  refine Held.mk ?_
  intro g'
  refine rest_el (fun i y => ∃ t, y = Value.int (bits.getD (i / 2 + 12 * (i % 2)) 0) t) trivial ?_ ?_
  · intro i v I oI C oC D m₂ zs h tk' E' hi hv hC hx' F' N' off' ne
    obtain ⟨tv, rfl⟩ := hv
    obtain ⟨ty, hy⟩ := riffle_item hb hlen hi
    have k0 : 0 ≤ (0 + (i : Int) * 1).fdiv 2 + 12 * (0 + (i : Int) * 1).fmod 2 := by rw [riffle_idx]; omega
    have k1 : (0 + (i : Int) * 1).fdiv 2 + 12 * (0 + (i : Int) * 1).fmod 2 < 2 ^ 63 := by rw [riffle_idx]; omega
    dsimp only
    try k_fold
    k_steps
    exact ElEnd.intro (by assumption) (by assumption) (fun p hp => hp) ⟨_, rfl⟩
  · intro zs hlz hG
    have hI : IntsAre zs (shuf bits) := riffle_ints hlz hG
    intro D hE tkE FE NE offE
    have hne := off_mem1 offE
    have hD4 : @Ne Nat (L + 4) D := hne _ (.head _)
    dsimp only
    try k_fold
    k_steps
    rename News _ _ _ (_ :: _ :: rest) => lN
    exact midX (D, zs, _) [] (fun _ h => nomatch h) (by assumption) lN (fun p hp => hp) ⟨by assumption, hI, hD4, fun p hp => hne p (.tail _ hp)⟩
end lawE
end Mine
theorem Mine.none52 : True := by
  k_with_none
  trivial
end

/- T7 -/
section
open PySem PySem.W PyProof.Rows PySem.Calls PySem.Spec
set_option maxRecDepth 100000
set_option linter.all false
namespace Mine
theorem list7 {α : Type} {d : α} {l : List α} (h : l.length = 7) : l = [(l[0]?).getD d, (l[1]?).getD d, (l[2]?).getD d, (l[3]?).getD d, (l[4]?).getD d, (l[5]?).getD d, (l[6]?).getD d] := by
  match l, h with
  | [a, b, c, e, f, g, i], _ => rfl
theorem l1_list : forBody (lawSt 4) = [l1St 0, l1St 1, l1St 2, l1St 3, l1St 4, l1St 5, l1St 6] := list7 (by decide +kernel)
end Mine
end

/- RowNum -/
section
open PySem PySem.W PyProof.Rows PySem.Calls PySem.Spec
set_option maxRecDepth 100000
set_option linter.all false
set_option maxHeartbeats 2000000
namespace Mine
noncomputable def RowBits (bits : List Int) : Prop := bits.length = 24 ∧ ∀ b ∈ bits, Bit b
theorem rowN_bits (N : Int) : RowBits (rowN N) := by
  refine ⟨by simp [rowN], fun b hb => ?_⟩
  obtain ⟨j, _, rfl⟩ := List.mem_map.mp hb
  generalize N / 2 ^ (23 - j) = x
  unfold Bit
  omega
theorem shuf_bits {bits : List Int} (h : RowBits bits) : RowBits (shuf bits) := by
  refine ⟨by simp [shuf], fun b hb => ?_⟩
  obtain ⟨p, hp, rfl⟩ := List.mem_map.mp hb
  exact bit_getD h.2 (by rw [h.1]; have := List.mem_range.mp hp; omega)
/-- one digit of base 16 more -/
theorem dig {n q x : Int} (hn : n = 16 * q + x) (h0 : 0 ≤ x) (h1 : x < 16) : n / 16 = q ∧ n % 16 = x := by omega
theorem dig_nat {n : Int} (h : 0 ≤ n) : n.toNat / 16 = (n / 16).toNat ∧ n.toNat % 16 = (n % 16).toNat := by omega
theorem nn {q x : Int} (hq : 0 ≤ q) (hx : 0 ≤ x) : 0 ≤ 16 * q + x := by omega
theorem num_word {q0 q1 q2 q3 q4 q5 : Int} (h0 : 0 ≤ q0 ∧ q0 < 16) (h1 : 0 ≤ q1 ∧ q1 < 16) (h2 : 0 ≤ q2 ∧ q2 < 16) (h3 : 0 ≤ q3 ∧ q3 < 16) (h4 : 0 ≤ q4 ∧ q4 < 16) (h5 : 0 ≤ q5 ∧ q5 < 16) :
    wordS (16 * (16 * (16 * (16 * (16 * q0 + q1) + q2) + q3) + q4) + q5).toNat = ⟨#[65 + q0.toNat, 65 + q1.toNat, 65 + q2.toNat, 65 + q3.toNat, 65 + q4.toNat, 65 + q5.toNat]⟩ := by
  have e1 := dig (n := 16 * q0 + q1) rfl h1.1 h1.2
  have p1 := nn h0.1 h1.1
  have m1 := dig_nat p1
  rw [e1.1, e1.2] at m1
  generalize 16 * q0 + q1 = n1 at *
  have e2 := dig (n := 16 * n1 + q2) rfl h2.1 h2.2
  have p2 := nn p1 h2.1
  have m2 := dig_nat p2
  rw [e2.1, e2.2] at m2
  generalize 16 * n1 + q2 = n2 at *
  have e3 := dig (n := 16 * n2 + q3) rfl h3.1 h3.2
  have p3 := nn p2 h3.1
  have m3 := dig_nat p3
  rw [e3.1, e3.2] at m3
  generalize 16 * n2 + q3 = n3 at *
  have e4 := dig (n := 16 * n3 + q4) rfl h4.1 h4.2
  have p4 := nn p3 h4.1
  have m4 := dig_nat p4
  rw [e4.1, e4.2] at m4
  generalize 16 * n3 + q4 = n4 at *
  have e5 := dig (n := 16 * n4 + q5) rfl h5.1 h5.2
  have p5 := nn p4 h5.1
  have m5 := dig_nat p5
  rw [e5.1, e5.2] at m5
  generalize 16 * n4 + q5 = n5 at *
  clear e1 e2 e3 e4 e5 p1 p2 p3 p4 p5 h1 h2 h3 h4 h5
  generalize n1.toNat = w1 at *
  generalize n2.toNat = w2 at *
  generalize n3.toNat = w3 at *
  generalize n4.toNat = w4 at *
  generalize n5.toNat = w5 at *
  have hq : q0.toNat % 16 = q0.toNat := Nat.mod_eq_of_lt (by omega)
  unfold wordS
  rw [show w5 / 1048576 = w5 / 16 / 16 / 16 / 16 / 16 by simp only [Nat.div_div_eq_div_mul], show w5 / 65536 = w5 / 16 / 16 / 16 / 16 by simp only [Nat.div_div_eq_div_mul], show w5 / 4096 = w5 / 16 / 16 / 16 by simp only [Nat.div_div_eq_div_mul], show w5 / 256 = w5 / 16 / 16 by simp only [Nat.div_div_eq_div_mul],
    m5.1, m4.1, m3.1, m2.1, m1.1, m5.2, m4.2, m3.2, m2.2, m1.2, hq]
theorem bit_le {b : Int} (h : Bit b) : 0 ≤ b ∧ b ≤ 1 := by rcases h with rfl | rfl <;> decide
theorem four_lt {a b c d : Int} (ha : Bit a) (hb : Bit b) (hc : Bit c) (hd : Bit d) : 0 ≤ 8 * a + 4 * b + 2 * c + d ∧ 8 * a + 4 * b + 2 * c + d < 16 := by
  replace ha := bit_le ha
  replace hb := bit_le hb
  replace hc := bit_le hc
  replace hd := bit_le hd
  omega
noncomputable def fold4 (ns : List Int) (x : Int) : Int := ns.foldl (fun n b => 2 * n + b) x
theorem fold4_step (x a b c d : Int) (r : List Int) : fold4 (a :: b :: c :: d :: r) x = fold4 r (16 * x + (8 * a + 4 * b + 2 * c + d)) := by
  show fold4 r (2 * (2 * (2 * (2 * x + a) + b) + c) + d) = _
  congr 1
  omega
theorem num6_lt {q0 q1 q2 q3 q4 q5 : Int} (h0 : 0 ≤ q0 ∧ q0 < 16) (h1 : 0 ≤ q1 ∧ q1 < 16) (h2 : 0 ≤ q2 ∧ q2 < 16) (h3 : 0 ≤ q3 ∧ q3 < 16) (h4 : 0 ≤ q4 ∧ q4 < 16) (h5 : 0 ≤ q5 ∧ q5 < 16) :
    0 ≤ 16 * (16 * (16 * (16 * (16 * q0 + q1) + q2) + q3) + q4) + q5 ∧ 16 * (16 * (16 * (16 * (16 * q0 + q1) + q2) + q3) + q4) + q5 < 16777216 := by omega
theorem num_fours (a0 a1 a2 a3 a4 a5 a6 a7 a8 a9 b0 b1 b2 b3 b4 b5 b6 b7 b8 b9 c0 c1 c2 c3 : Int) : numOf [a0, a1, a2, a3, a4, a5, a6, a7, a8, a9, b0, b1, b2, b3, b4, b5, b6, b7, b8, b9, c0, c1, c2, c3] =
    16 * (16 * (16 * (16 * (16 * (8 * a0 + 4 * a1 + 2 * a2 + a3) + (8 * a4 + 4 * a5 + 2 * a6 + a7)) + (8 * a8 + 4 * a9 + 2 * b0 + b1)) + (8 * b2 + 4 * b3 + 2 * b4 + b5)) + (8 * b6 + 4 * b7 + 2 * b8 + b9)) + (8 * c0 + 4 * c1 + 2 * c2 + c3) := by
  show fold4 _ 0 = _
  rw [fold4_step, fold4_step, fold4_step, fold4_step, fold4_step, fold4_step]
  show 16 * (16 * (16 * (16 * (16 * (16 * 0 + _) + _) + _) + _) + _) + _ = _
  rw [Int.mul_zero, Int.zero_add]
theorem row_word {bits : List Int} (h : RowBits bits) : (0 ≤ numOf bits ∧ numOf bits < 16777216) ∧ wordS (numOf bits).toNat = rowLet bits := by
  obtain ⟨hl, hB⟩ := h
  obtain ⟨a0, a1, a2, a3, a4, a5, a6, a7, a8, a9, b0, b1, b2, b3, b4, b5, b6, b7, b8, b9, c0, c1, c2, c3, rfl⟩ := list24 hl
  simp only [List.forall_mem_cons] at hB
  obtain ⟨h0, h1, h2, h3, h4, h5, h6, h7, h8, h9, g0, g1, g2, g3, g4, g5, g6, g7, g8, g9, f0, f1, f2, f3, _⟩ := hB
  have z0 := four_lt h0 h1 h2 h3
  have z1 := four_lt h4 h5 h6 h7
  have z2 := four_lt h8 h9 g0 g1
  have z3 := four_lt g2 g3 g4 g5
  have z4 := four_lt g6 g7 g8 g9
  have z5 := four_lt f0 f1 f2 f3
  rw [num_fours]
  exact ⟨num6_lt z0 z1 z2 z3 z4 z5, num_word z0 z1 z2 z3 z4 z5⟩
end Mine
end

/- LawF -/
section
open PySem PySem.W PyProof.Rows PySem.Calls PySem.Spec
open PyProof.Rows.LCg
set_option maxRecDepth 100000
set_option maxHeartbeats 4000000
set_option linter.all false
namespace Mine
section lawF
noncomputable def rowAt (N : Int) : Nat → List Int
  | 0 => rowN N
  | i + 1 => shuf (rowAt N i)
theorem rowAt_bits (N : Int) : ∀ i, RowBits (rowAt N i)
  | 0 => rowN_bits N
  | i + 1 => shuf_bits (rowAt_bits N i)
noncomputable def numAt (N : Int) (i : Nat) : Int := numOf (rowAt N i)
noncomputable def WordsAre (N : Int) (i : Nat) (ws : List Value) : Prop := ws.length = i ∧ ∀ j, j < i → ∃ t, ws[j]? = some (Value.str (rowLet (rowAt N j)) t)
noncomputable def TextsAre (N : Int) (i : Nat) (ts : List Value) : Prop := ts.length = i ∧ ∀ j, j < i → ∃ b t, ts[j]? = some (Value.bytes b t) ∧ KBw.bInts b = txI (numAt N j)
noncomputable def pairO (n : Int) (t1 t2 : Tok) (k : Nat) : Obj := PySem.W.listOf #[Value.str (listing (n / 4096)) t1, Value.str (listing (n % 4096)) t2] k
noncomputable def ListsAre (N : Int) (i : Nat) (ls : List Value) (tail : List (Addr × Obj)) : Prop := ls.length = i ∧ ∀ j, j < i → ∃ a t1 t2 k, ls[j]? = some (Value.ref a) ∧ (a, pairO (numAt N j) t1 t2 k) ∈ tail
theorem snoc_get {P : Nat → Value → Prop} {i : Nat} {l : List Value} {v : Value} (hl : l.length = i) (h : ∀ j, j < i → ∃ x, l[j]? = some x ∧ P j x) (hv : P i v) : (l ++ [v]).length = i + 1 ∧ ∀ j, j < i + 1 → ∃ x, (l ++ [v])[j]? = some x ∧ P j x := by
  refine ⟨by simp [hl], fun j hj => ?_⟩
  rcases Nat.lt_or_ge j i with h1 | h1
  · obtain ⟨x, e, p⟩ := h j h1
    exact ⟨x, by rw [List.getElem?_append_left (by omega)]; exact e, p⟩
  · obtain rfl : j = i := by omega
    exact ⟨v, by rw [List.getElem?_append_right (by omega), hl]; simp, hv⟩
theorem WordsAre.snoc {N : Int} {i : Nat} {ws : List Value} {t : Tok} (h : WordsAre N i ws) : WordsAre N (i + 1) (ws ++ [Value.str (rowLet (rowAt N i)) t]) := by
  obtain ⟨a, b⟩ := snoc_get (P := fun j x => ∃ t, x = Value.str (rowLet (rowAt N j)) t) (v := Value.str (rowLet (rowAt N i)) t) h.1 (fun j hj => let ⟨t, e⟩ := h.2 j hj; ⟨_, e, t, rfl⟩) ⟨t, rfl⟩
  exact ⟨a, fun j hj => by obtain ⟨x, e, t, rfl⟩ := b j hj; exact ⟨t, e⟩⟩
theorem TextsAre.snoc {N : Int} {i : Nat} {ts : List Value} {b : Array UInt8} {t : Tok} (h : TextsAre N i ts) (hb : KBw.bInts b = txI (numAt N i)) : TextsAre N (i + 1) (ts ++ [Value.bytes b t]) := by
  obtain ⟨a, c⟩ := snoc_get (P := fun j x => ∃ b t, x = Value.bytes b t ∧ KBw.bInts b = txI (numAt N j)) (v := Value.bytes b t) h.1 (fun j hj => let ⟨b, t, e, q⟩ := h.2 j hj; ⟨_, e, b, t, rfl, q⟩) ⟨b, t, rfl, hb⟩
  exact ⟨a, fun j hj => by obtain ⟨x, e, b, t, rfl, q⟩ := c j hj; exact ⟨b, t, e, q⟩⟩
theorem ListsAre.snoc {N : Int} {i : Nat} {ls : List Value} {tail tail' : List (Addr × Obj)} {a : Addr} {t1 t2 : Tok} {k : Nat} (h : ListsAre N i ls tail) (hs : ∀ p ∈ tail, p ∈ tail') (hm : (a, pairO (numAt N i) t1 t2 k) ∈ tail') : ListsAre N (i + 1) (ls ++ [Value.ref a]) tail' := by
  obtain ⟨p, c⟩ := snoc_get (P := fun j x => ∃ a t1 t2 k, x = Value.ref a ∧ (a, pairO (numAt N j) t1 t2 k) ∈ tail') (v := Value.ref a) h.1 (fun j hj => let ⟨a, t1, t2, k, e, q⟩ := h.2 j hj; ⟨_, e, a, t1, t2, k, rfl, hs _ q⟩) ⟨a, t1, t2, k, rfl, hm⟩
  exact ⟨p, fun j hj => by obtain ⟨x, e, a, t1, t2, k, rfl, q⟩ := c j hj; exact ⟨a, t1, t2, k, e, q⟩⟩
/-- loop 1 ahead of its i-th turn -/
inductive J1 (N : Int) (L la ta wa : Addr) (cs : List (Addr × Obj)) (i : Nat) (m : Str → Option Value) (news : List (Addr × Obj)) : Prop
  | mk (lsv tsv wsv : List Value) (kl kt kw : Nat) (o4 : Obj) (r : Addr) (ys : List Value) (tail : List (Addr × Obj)) (e : news = (la, PySem.W.listOf lsv.toArray kl) :: (ta, PySem.W.listOf tsv.toArray kt) :: (wa, PySem.W.listOf wsv.toArray kw) :: (L + 4, o4) :: tail)
    (e1 : m (Str.ofString "words") = some (.ref wa)) (e2 : m (Str.ofString "texts") = some (.ref ta)) (e3 : m (Str.ofString "lists") = some (.ref la)) (hW : WordsAre N i wsv) (hT : TextsAre N i tsv) (hL : ListsAre N i lsv tail)
    (c4 : Obj.data o4 = .cell (some (.ref r))) (hr : (r, lst ys) ∈ tail) (hI : IntsAre ys (rowAt N i)) (hcs : ∀ p ∈ cs, p ∈ tail) (off : OwnOff tail [la, ta, wa, L + 4]) : J1 N L la ta wa cs i m news
end lawF
end Mine
end

/- LawG -/
section
open PySem PySem.W PyProof.Rows PySem.Calls PySem.Spec
open PyProof.Rows.LCg
set_option maxRecDepth 100000
set_option maxHeartbeats 4000000
set_option linter.all false
namespace Mine
section lawG
variable {w : World} {mean : ExcName → Option Value} {mg mb : Str → Option Value} {base h₀ : Heap} {sc : Addr} {vs : List Value} {ns : List Int} {L fa : Addr} {cd : Value}
theorem turn1 {s : Shared} {N0 : Int} {la ta wa I : Addr} {it : Obj} {cs news : List (Addr × Obj)} {i : Nat} {m : Str → Option Value} {t : Tok} (X : Ctx0 w mean mg mb base h₀ sc vs ns) (hi : i < 11) (hJ : J1 N0 L la ta wa cs i m news) (offI : ∀ p ∈ news, p.1 ≠ I)
    (o1 : @LT.lt Nat _ (L + 7) wa) (o2 : @LT.lt Nat _ wa ta) (o3 : @LT.lt Nat _ ta la)
    (F : Fr h₀ L s.heap (fun y => if y = Str.ofString "k" then some (.int (0 + (i : Int)) t) else m y)) (N : News h₀ L s.heap ((I, it) :: news)) :
    wpAny (model Challenge.rw_op0029_01.row.prog w) (callerA.deeper (lawEnv L fa cd)) (execs (forBody (lawSt 4)) (lawEnv L fa cd)) (Nx (UnrEnd h₀ L s I it (J1 N0 L la ta wa cs (i + 1)))) (fun _ _ => False) s := by
  obtain ⟨lsv, tsv, wsv, kl, kt, kw, o4, r, ys, tail, rfl, e1, e2, e3, hW, hT, hLs, c4, hr, hI, hcs, off⟩ := hJ
  have hb := rowAt_bits N0 i
  obtain ⟨⟨hn0, hn1⟩, hword⟩ := row_word hb
  have iL : @Ne Nat la I := offI _ (.head _)
  have iT : @Ne Nat ta I := offI _ (.tail _ (.head _))
  have iW : @Ne Nat wa I := offI _ (.tail _ (.tail _ (.head _)))
  have i4 : @Ne Nat (L + 4) I := offI _ (.tail _ (.tail _ (.tail _ (.head _))))
  rw [l1_list]
  -- number
  refine cutN (p0 X F N (.tail _ (.tail _ (.tail _ (.tail _ (.head _))))) c4 (.tail _ (.tail _ (.tail _ (.tail _ (.tail _ hr))))) hI (by rw [hb.1]; decide)) ?_
  rintro g1 tk1 _ F1 N1 ⟨tn, rfl⟩
  -- word
  refine cutN (p1 X F1 N1 (if_pos rfl) hn0 hn1) ?_
  rintro g2 tk2 _ F2 N2 ⟨j, tw, hj, hjn, rfl⟩
  -- words.append
  have N2' : News h₀ L g2 ((la, PySem.W.listOf lsv.toArray kl) :: (ta, PySem.W.listOf tsv.toArray kt) :: (wa, PySem.W.listOf wsv.toArray kw) :: (I, it) :: (L + 4, o4) :: tail) := fun p hp => N2 p (by
    exact memc hp (.tail _ (.head _)) (fun p hp => memc hp (.tail _ (.tail _ (.head _))) (fun p hp => memc hp (.tail _ (.tail _ (.tail _ (.head _)))) (fun p hp => memc hp (.head _) (fun p hp => .tail _ (.tail _ (.tail _ (.tail _ hp))))))))
  have offR : OwnOff ((I, it) :: (L + 4, o4) :: tail) [la, ta, wa] := by
    intro p hp b hb'
    rcases List.mem_cons.mp hp with rfl | hp
    · exact memc hb' (Ne.symm iL) (fun b hb' => memc hb' (Ne.symm iT) (fun b hb' => memc hb' (Ne.symm iW) (fun _ h => nomatch h)))
    rcases List.mem_cons.mp hp with rfl | hp
    · exact memc hb' ((Nat.ne_of_lt (Nat.lt_trans (addL_lt (j := 4) o1 (by decide)) (Nat.lt_trans o2 o3)))) (fun b hb' => memc hb' ((Nat.ne_of_lt (Nat.lt_trans (addL_lt (j := 4) o1 (by decide)) o2))) (fun b hb' => memc hb' ((Nat.ne_of_lt (addL_lt (j := 4) o1 (by decide)))) (fun _ h => nomatch h)))
    · refine off p hp b ?_
      exact memc hb' (.head _) (fun b hb' => memc hb' (.tail _ (.head _)) (fun b hb' => memc hb' (.tail _ (.tail _ (.head _))) (fun _ h => nomatch h)))
  refine cutL (p2 X F2 N2' (by rw [if_neg (by decide), if_neg (by decide), if_neg (by decide)]; exact e1) (if_pos rfl) hj hjn o2 o3 offR (by rw [List.size_toArray, hW.1]; omega)) ?_
  rintro g3 tk3 t3 F3 N3
  rw [hword] at N3
  have hW' : WordsAre N0 (i + 1) (wsv ++ [Value.str (rowLet (rowAt N0 i)) t3]) := hW.snoc
  -- texts.append
  refine cutX (p3 X F3 N3 (by rw [if_neg (by decide), if_neg (by decide), if_neg (by decide)]; exact e2) (by rw [if_neg (by decide)]; exact if_pos rfl) hn0 hn1 o2 o3 offR (by rw [List.size_toArray, hT.1]; omega)) ?_
  rintro g4 tk4 ⟨b4, t4⟩ F4 N4 hb4
  dsimp only at N4 hb4
  have hT' : TextsAre N0 (i + 1) (tsv ++ [Value.bytes b4 t4]) := hT.snoc hb4
  -- lists.append
  refine cutX (p4 X F4 N4 (by rw [if_neg (by decide), if_neg (by decide), if_neg (by decide)]; exact e3) (by rw [if_neg (by decide)]; exact if_pos rfl) hn0 hn1 o2 o3 offR (by rw [List.size_toArray, hLs.1]; omega)) ?_
  rintro g5 tk5 ⟨a5, u5, v5, k5⟩ F5 N5 ⟨lt5, la5⟩
  dsimp only at N5 lt5 la5
  -- the test
  refine cutX (p5 (k := i) X F5 N5 (.tail _ (.tail _ (.tail _ (.tail _ (.tail _ (.head _)))))) c4 (.tail _ (.tail _ (.tail _ (.tail _ (.tail _ (.tail _ hr)))))) hI hb.1 hb.2 (.tail _ (.tail _ (.head _)))
    (by rw [if_neg (by decide), if_neg (by decide), if_neg (by decide)]; exact e1) (by rw [if_neg (by decide), if_neg (by decide), if_pos rfl, Int.zero_add]) (by rw [List.getElem?_append_right (by rw [hW.1]; exact Nat.le_refl _), hW.1, Nat.sub_self]; rfl) hi) ?_
  rintro g6 tk6 _ F6 N6 _
  have wa7' := addL_lt (j := 4) o1 (by decide)
  have la7 : @LT.lt Nat _ (L + 4) la := Nat.lt_trans wa7' (Nat.lt_trans o2 o3)
  have ta7 : @LT.lt Nat _ (L + 4) ta := Nat.lt_trans wa7' o2
  have wa7 : @LT.lt Nat _ (L + 4) wa := wa7'
  have a57 : @LT.lt Nat _ (L + 4) a5 := lt5 _ (.tail _ (.head _))
  have aI : @LT.lt Nat _ I a5 := lt5 _ (.head _)
  have N6' : News h₀ L g6 ((L + 4, o4) :: (la, PySem.W.listOf (lsv ++ [Value.ref a5]).toArray (kl + 1)) :: (ta, PySem.W.listOf (tsv ++ [Value.bytes b4 t4]).toArray (kt + 1)) :: (wa, PySem.W.listOf (wsv ++ [Value.str (rowLet (rowAt N0 i)) t3]).toArray (kw + 1)) :: (a5, pairO (numAt N0 i) u5 v5 k5) :: (I, it) :: tail) := fun p hp => N6 p (by
    exact memc hp (.tail _ (.tail _ (.tail _ (.tail _ (.tail _ (.head _)))))) (fun p hp => memc hp (.head _) (fun p hp => memc hp (.tail _ (.head _)) (fun p hp => memc hp (.tail _ (.tail _ (.head _))) (fun p hp => memc hp (.tail _ (.tail _ (.tail _ (.head _)))) (fun p hp => memc hp (.tail _ (.tail _ (.tail _ (.tail _ (.head _))))) (fun p hp => .tail _ (.tail _ (.tail _ (.tail _ (.tail _ (.tail _ hp))))))))))))
  have off6 : OwnOff ((la, PySem.W.listOf (lsv ++ [Value.ref a5]).toArray (kl + 1)) :: (ta, PySem.W.listOf (tsv ++ [Value.bytes b4 t4]).toArray (kt + 1)) :: (wa, PySem.W.listOf (wsv ++ [Value.str (rowLet (rowAt N0 i)) t3]).toArray (kw + 1)) :: (a5, pairO (numAt N0 i) u5 v5 k5) :: (I, it) :: tail) [L + 4] := by
    intro p hp b hb'
    rw [List.mem_singleton.mp hb']
    exact memc hp ((Nat.ne_of_gt la7)) (fun p hp => memc hp ((Nat.ne_of_gt ta7)) (fun p hp => memc hp ((Nat.ne_of_gt wa7)) (fun p hp => memc hp ((Nat.ne_of_gt a57)) (fun p hp => memc hp ((Ne.symm i4 : @Ne Nat I (L + 4))) (fun p hp => off p hp _ (.tail _ (.tail _ (.tail _ (.head _)))))))))
  -- the riffle
  refine cutX (p6 X F6 N6' c4 (.tail _ (.tail _ (.tail _ (.tail _ (.tail _ hr))))) off6 hI hb.1) ?_
  rintro g7 tk7 ⟨r7, y7, o7⟩ F7 N7 ⟨c7, hI7, n47, nr7⟩
  dsimp only at N7 c7 hI7 n47 nr7
  refine wpAny_execs_nil ?_
  refine ⟨rfl, g7, tk7, _, (la, PySem.W.listOf (lsv ++ [Value.ref a5]).toArray (kl + 1)) :: (ta, PySem.W.listOf (tsv ++ [Value.bytes b4 t4]).toArray (kt + 1)) :: (wa, PySem.W.listOf (wsv ++ [Value.str (rowLet (rowAt N0 i)) t3]).toArray (kw + 1)) :: (L + 4, o7) :: (r7, lst y7) :: (a5, pairO (numAt N0 i) u5 v5 k5) :: tail, rfl, F7, fun p hp => N7 p ?_, fun p hp => ?_, ?_⟩
  · exact memc hp (.tail _ (.tail _ (.tail _ (.tail _ (.tail _ (.tail _ (.head _))))))) (fun p hp => memc hp (.tail _ (.tail _ (.head _))) (fun p hp => memc hp (.tail _ (.tail _ (.tail _ (.head _)))) (fun p hp => memc hp (.tail _ (.tail _ (.tail _ (.tail _ (.head _))))) (fun p hp => memc hp (.tail _ (.head _)) (fun p hp => memc hp (.head _) (fun p hp => memc hp (.tail _ (.tail _ (.tail _ (.tail _ (.tail _ (.head _)))))) (fun p hp => .tail _ (.tail _ (.tail _ (.tail _ (.tail _ (.tail _ (.tail _ hp)))))))))))))
  · exact memc hp (iL) (fun p hp => memc hp (iT) (fun p hp => memc hp (iW) (fun p hp => memc hp (i4) (fun p hp => memc hp (Ne.symm (nr7 _ (.tail _ (.tail _ (.tail _ (.tail _ (.head _))))))) (fun p hp => memc hp ((Nat.ne_of_gt aI)) (fun p hp => offI p (.tail _ (.tail _ (.tail _ (.tail _ hp))))))))))
  · refine ⟨_, _, _, _, _, _, o7, r7, y7, _, rfl, ?_, ?_, ?_, hW', hT', hLs.snoc (fun p hp => .tail _ (.tail _ hp)) (.tail _ (.head _)), c7, .head _, hI7, fun p hp => .tail _ (.tail _ (hcs p hp)), ?_⟩
    · (try dsimp only); rw [if_neg (by decide), if_neg (by decide), if_neg (by decide)]; exact e1
    · (try dsimp only); rw [if_neg (by decide), if_neg (by decide), if_neg (by decide)]; exact e2
    · (try dsimp only); rw [if_neg (by decide), if_neg (by decide), if_neg (by decide)]; exact e3
    · intro p hp b hb'
      rcases List.mem_cons.mp hp with rfl | hp
      · exact memc hb' (Ne.symm (nr7 _ (.head _))) (fun b hb' => memc hb' (Ne.symm (nr7 _ (.tail _ (.head _)))) (fun b hb' => memc hb' (Ne.symm (nr7 _ (.tail _ (.tail _ (.head _))))) (fun b hb' => memc hb' (Ne.symm n47) (fun _ h => nomatch h))))
      rcases List.mem_cons.mp hp with rfl | hp
      · exact memc hb' ((Nat.ne_of_gt la5)) (fun b hb' => memc hb' ((Nat.ne_of_gt (Nat.lt_trans o3 la5))) (fun b hb' => memc hb' ((Nat.ne_of_gt (Nat.lt_trans (Nat.lt_trans o2 o3) la5))) (fun b hb' => memc hb' ((Nat.ne_of_gt a57)) (fun _ h => nomatch h))))
      exact off p hp b hb'
end lawG
end Mine
end

/- LawH -/
section
open PySem PySem.W PyProof.Rows PySem.Calls PySem.Spec
open PyProof.Rows.LCg
set_option maxRecDepth 100000
set_option maxHeartbeats 4000000
set_option linter.all false
namespace Mine
section lawH
variable {w : World} {mean : ExcName → Option Value} {mg mb : Str → Option Value} {base h₀ : Heap} {sc : Addr} {vs : List Value} {ns : List Int} {L fa : Addr} {cd : Value}
/-- loop 1 is through -/
inductive Mid1 (N0 : Int) (h₀ : Heap) (L la ta wa : Addr) (cs : List (Addr × Obj)) (s s' : Shared) : Prop
  | mk (h' : Heap) (tk : Nat) (m' : Str → Option Value) (news' : List (Addr × Obj)) (e : s' = { s with heap := h', toks := tk }) (F : Fr h₀ L h' m') (N : News h₀ L h' news') (J : J1 N0 L la ta wa cs 11 m' news') : Mid1 N0 h₀ L la ta wa cs s s'
theorem q4 {s : Shared} {m : Str → Option Value} {news : List (Addr × Obj)} {N0 : Int} {la ta wa : Addr} {cs : List (Addr × Obj)} (X : Ctx0 w mean mg mb base h₀ sc vs ns) (F : Fr h₀ L s.heap m) (N : News h₀ L s.heap news) (hJ : J1 N0 L la ta wa cs 0 m news)
    (o1 : @LT.lt Nat _ (L + 7) wa) (o2 : @LT.lt Nat _ wa ta) (o3 : @LT.lt Nat _ ta la) :
    wpAny (model Challenge.rw_op0029_01.row.prog w) (callerA.deeper (lawEnv L fa cd)) (exec (lawSt 4) (lawEnv L fa cd)) (Nx (Mid1 N0 h₀ L la ta wa cs s)) (fun _ _ => False) s := by
  have B := X.below
  have T := X.top
  have KX := X.part
  revert KX
  k_fill
  intro KX
  rw [LS4.2]
  dsimp only [lawEnv, LS4, LNM, LSC]
  obtain ⟨hp, gn, dr, tok, os⟩ := s
  dsimp only at N F ⊢
  try k_fold
  repeat ((fail_if_success (with_reducible show wpAny _ _ (pyIter _) _ _ _)); first | walk1 | (dsimp only; walk1))
  rename Fr _ _ _ _ => lF
  rename News _ _ _ _ => lN
  rename IsRange _ _ _ _ _ _ _ _ => lR
  with_unfolding_all refine iter_rangeUnr (n := 11) (by rfl) lR (by first | decide | rfl) (by first | decide | rfl) lF lN ?_
  intro I hI
  refine range_inv (J1 N0 L la ta wa cs) (fun i m' news' t h' tk' hi hj off F' N' => ?_) (fun m' news' h' tk' hj F' N' => ?_) 11 0 m news rfl hJ (fun p hp => Nat.ne_of_lt (hI p hp))
  · clear lF lN lR
    exact turn1 (fa := fa) (cd := cd) X hi hj off o1 o2 o3 F' N'
  · exact ⟨rfl, h', tk', m', news', rfl, F', N', hj⟩
end lawH
end Mine
end

/- LawI -/
section
theorem Mine.none56 : True := by
  k_with_none
  trivial
open PySem PySem.W PyProof.Rows PySem.Calls PySem.Spec
open PyProof.Rows.LCg
set_option maxRecDepth 100000
set_option maxHeartbeats 4000000
set_option linter.all false
namespace Mine
section lawI
variable {w : World} {mean : ExcName → Option Value} {mg mb : Str → Option Value} {base h₀ : Heap} {sc : Addr} {vs : List Value} {ns : List Int} {L fa : Addr} {cd : Value}
noncomputable def SIGNS : Str := Str.ofString "ABCDEFGHIJKLMNOPQRSTUVWXYZabcdefghijklmnopqrstuvwxyz0123456789+/"
theorem q5 {s : Shared} {m : Str → Option Value} {rest : List (Addr × Obj)} {o5 : Obj} (X : Ctx0 w mean mg mb base h₀ sc vs ns) (F : Fr h₀ L s.heap m) (N : News h₀ L s.heap ((L + 5, o5) :: rest)) (c5 : o5.data = .cell none) (off : OwnOff rest [L + 5]) :
    wpAny (model Challenge.rw_op0029_01.row.prog w) (callerA.deeper (lawEnv L fa cd)) (exec (lawSt 5) (lawEnv L fa cd)) (Nx (MidX h₀ L m s (fun (a : Obj × Tok) => (L + 5, a.1) :: rest) (fun a => a.1.data = .cell (some (.str SIGNS a.2))))) (fun _ _ => False) s := by
  have B := X.below
  have T := X.top
  have KX := X.part
  clear X
  revert KX
  k_fill
  intro KX
  rw [LS5.2]
  dsimp only [lawEnv, LS5, LNM, LSC]
  obtain ⟨hp, gn, dr, tok, os⟩ := s
  dsimp only at N F ⊢
  try k_fold
  k_steps
  rename News _ _ _ (_ :: rest) => lN
  exact midX (_, _) [] (fun _ h => nomatch h) (by assumption) lN (fun p hp => hp) (by assumption)
theorem words53 : True := by
  k_with "eval ListComp Call" => ((with_reducible show wpAny _ _ (eval (PySem.Expr.ListComp (PySem.Expr.Call (PySem.Expr.Attribute (PySem.Expr.Name (PySem.Str.ofString "signs") _) _ _) _ _ _) _ _ _) _) _ _ _); k_dflt (refine ListComp_By (F₀ := by k_asm) (by with_unfolding_all rfl) (by decide) (by rfl) (by decide) (by rfl) ?_))
  k_with "SrcBy" => (k_dflt (refine SrcBy.intro (by rfl) (by k_asm) (by k_asm) (by assumption) ?_); refine Held.out ?_)
  k_with "subscriptTail" => ((with_reducible show wpAny _ _ (subscriptTail (PySem.Expr.Name (PySem.Str.ofString "texts") _) _ (Value.ref _) (Value.int _ _)) _ _ _); k_dflt (refine item_listR (News.isList (by k_asm) (by k_mem)) (by omega) (by omega) (by assumption) ?_))
  trivial
theorem find_ints {ks : List Int} {zs : List Value} (hl : zs.length = ks.length) (hG : ∀ (i : Nat) y k, zs[i]? = some y → ks[i]? = some k → ∃ t, y = Value.int (Txt.find SIGNS ⟨#[k.toNat]⟩) t) : IntsAre zs (ks.map fun c => Txt.find SIGNS ⟨#[c.toNat]⟩) := by
  refine ints_of (by rw [hl, List.length_map]) fun i y k hy hk => ?_
  rw [List.getElem?_map] at hk
  cases hc : ks[i]? with
  | none => rw [hc] at hk; cases hk
  | some c =>
    rw [hc] at hk
    obtain ⟨t, e⟩ := hG i y c hy hc
    cases hk
    exact ⟨t, e⟩
theorem d1 {s : Shared} {m : Str → Option Value} {rest : List (Addr × Obj)} {o6 o5 : Obj} {v6 : Option Value} {ta : Addr} {tv : List Value} {kt k : Nat} {b : Array UInt8} {t5 t tk : Tok} (X : Ctx0 w mean mg mb base h₀ sc vs ns) (F : Fr h₀ L s.heap m) (N : News h₀ L s.heap ((L + 6, o6) :: rest))
    (c6 : o6.data = .cell v6) (h5 : (L + 5, o5) ∈ rest) (c5 : o5.data = .cell (some (.str SIGNS t5))) (ht : (ta, PySem.W.listOf tv.toArray kt) ∈ rest) (off : OwnOff rest [L + 6])
    (e1 : m (Str.ofString "texts") = some (.ref ta)) (e2 : m (Str.ofString "k") = some (.int (k : Int) tk)) (hk : tv[k]? = some (.bytes b t)) (hk1 : k < 11) (hbs : b.size ≤ sizeLine) :
    wpAny (model Challenge.rw_op0029_01.row.prog w) (callerA.deeper (lawEnv L fa cd)) (exec (l2St 0) (lawEnv L fa cd)) (Nx (MidX h₀ L m s (fun (a : Addr × List Value × Obj) => (a.1, lst a.2.1) :: (L + 6, a.2.2) :: rest) (fun a => a.2.2.data = .cell (some (.ref a.1)) ∧ IntsAre a.2.1 ((KBw.bInts b).map fun c => Txt.find SIGNS ⟨#[c.toNat]⟩) ∧ @Ne Nat (L + 6) a.1 ∧ ∀ p ∈ rest, @Ne Nat p.1 a.1))) (fun _ _ => False) s := by
  have B := X.below
  have T := X.top
  have KX := X.part
  clear X
  revert KX
  k_fill
  intro KX
  rw [L2S0.2]
  dsimp only [lawEnv, L2S0, LNM, LSC]
  obtain ⟨hp, gn, dr, tok, os⟩ := s
  dsimp only at N F ⊢
  have hkk : ∀ p ∈ [(Str.ofString "texts", Value.ref ta), (Str.ofString "k", Value.int (k : Int) tk)], m p.1 = some p.2 := by simp only [List.forall_mem_cons]; exact ⟨e1, e2, fun _ h => nomatch h⟩
  rw [kst_self hkk] at F
  dsimp only [kstB] at F
  have hx : tv.toArray[(k : Int).toNat]? = some (.bytes b t) := by simpa using hk
  try k_fold
  k_steps
  refine Held.mk ?_
  intro g'
  refine rest_by (fun c y => ∃ t, y = Value.int (Txt.find SIGNS ⟨#[c.toNat]⟩) t) ?_ ?_
  · intro c t' I oI C oC D m₂ zs h tk' E' hc0 hc1 hcm hC hx' F' N'
    dsimp only
    try k_fold
    k_steps
    exact ElEnd.intro (by assumption) (by assumption) (fun p hp => hp) ⟨_, rfl⟩
  · intro zs hlz hG
    have hI : IntsAre zs ((KBw.bInts b).map fun c => Txt.find SIGNS ⟨#[c.toNat]⟩) := find_ints hlz hG
    intro D hE tkE FE NE offE
    have hne := off_mem1 offE
    have hD6 : @Ne Nat (L + 6) D := hne _ (.head _)
    dsimp only
    try k_fold
    k_steps
    rename News _ _ _ (_ :: _ :: rest) => lN
    exact midX (D, zs, _) _ hkk (by assumption) lN (fun p hp => hp) ⟨by assumption, hI, hD6, fun p hp => hne p (.tail _ hp)⟩
theorem words54 : True := by
  k_with "eval Name" => ((with_reducible show wpAny _ _ (eval (PySem.Expr.Name (PySem.Str.ofString "four") _) (compEnvC _ _ _ _)) _ _ _); k_dflt (refine' lcf_cell ?Nq65 ?cq65 ?mq65 ?dq65 ?_ ?aq65 ?bq65; (case aq65 => rfl); (case bq65 => rfl); (case Nq65 => k_asm); (case cq65 => rfl); (case mq65 => k_mem); (case dq65 => assumption)))
  trivial
theorem len_at {prog : Program} {w : World} {A : Around} {E : Value → Shared → Prop} {s : Shared} {l : Addr} {vs : List Value} {n : Nat} {Q : Value → Shared → Prop} (hl : s.heap.IsList l vs.toArray) (hn : vs.length = n) (hs : n < 100)
    (h : Q (.int (n : Int) (s.toks + 1)) { s with toks := s.toks + 1 + 1 }) : wpAny (model prog w) A (call (.builtin "len") [.ref l]) Q E s := by
  refine len_list hl ?_ ?_
  · rw [List.size_toArray, hn]; omega
  · rw [List.size_toArray, hn]; exact h
theorem in_none {prog : Program} {w : World} {A : Around} {E : Value → Shared → Prop} {s : Shared} {l : Addr} {vs : List Value} {ns : List Int} {k : Int} {t : Tok} {Q : Value → Shared → Prop} (hl : s.heap.IsList l vs.toArray) (hi : IntsAre vs ns) (hm : ∀ x ∈ ns, x ≠ k)
    (h : Q (.bool false) s) : wpAny (model prog w) A (compareOp .In (.int k t) (.ref l)) Q E s := by
  refine in_list_ints hl hi ?_
  rw [show ns.any (· == k) = false from List.any_eq_false.mpr fun x hx => by simpa using hm x hx]
  exact h
theorem words55 : True := by
  k_with "call builtin:len" => ((with_reducible show wpAny _ _ (call (Value.builtin "len") [Value.ref _]) _ _ _); k_dflt (refine len_at (n := 4) (isList_led (by k_asm) (by k_mem)) (by assumption) (by decide) ?_))
  k_with "compareOp In int ref" => ((with_reducible show wpAny _ _ (compareOp CmpOp.In (Value.int _ _) (Value.ref _)) _ _ _); k_dflt (refine in_none (isList_led (by k_asm) (by k_mem)) (by assumption) (by assumption) ?_))
  trivial
theorem d2 {s : Shared} {m : Str → Option Value} {led : List (Addr × Obj)} {o6 : Obj} {f : Addr} {ys : List Value} {q : List Int} (X : Ctx0 w mean mg mb base h₀ sc vs ns) (F : Fr h₀ L s.heap m) (N : News h₀ L s.heap led)
    (h6 : (L + 6, o6) ∈ led) (c6 : o6.data = .cell (some (.ref f))) (hf : (f, lst ys) ∈ led) (hq : IntsAre ys q) (hl : q.length = 4) (hm : ∀ x ∈ q, x ≠ -1) :
    wpAny (model Challenge.rw_op0029_01.row.prog w) (callerA.deeper (lawEnv L fa cd)) (exec (l2St 1) (lawEnv L fa cd)) (Nx (MidX h₀ L m s (fun (_ : Unit) => led) (fun _ => True))) (fun _ _ => False) s := by
  have B := X.below
  have T := X.top
  have KX := X.part
  clear X
  revert KX
  k_fill
  intro KX
  rw [L2S1.2]
  dsimp only [lawEnv, L2S1, LNM, LSC]
  obtain ⟨hp, gn, dr, tok, os⟩ := s
  dsimp only at N F ⊢
  have hly : ys.length = 4 := by rw [hq.length, hl]
  try k_fold
  k_steps
  exact midX (led := fun (_ : Unit) => led) (P := fun _ => True) () [] (fun _ h => nomatch h) (by assumption) (by assumption) (fun p hp => hp) trivial
end lawI
end Mine
theorem Mine.none57 : True := by
  k_with_none
  trivial
end

/- BlockC -/
section
open PySem PySem.W PyProof.Rows PySem.Calls PySem.Spec
open PyProof.Rows.LCg
set_option maxRecDepth 100000
set_option linter.all false
set_option maxHeartbeats 4000000
namespace Mine
section
variable {prog : Program} {w : World} {A : Around} {E : Value → Shared → Prop} {s : Shared} {h₀ : Heap} {L : Addr} {m : Str → Option Value} {env : Env}
/-- an element's end: it is a new object, apart from four addresses -/
inductive ObEnd4 (h₀ : Heap) (L : Addr) (m : Str → Option Value) (s : Shared) (I C D X : Addr) (led : List (Addr × Obj)) (G : Obj → Prop) (y : Value) (s₂ : Shared) : Prop
  | mk (l : Addr) (o : Obj) (h' : Heap) (tk' : Nat) (ey : y = .ref l) (hG : G o) (e : s₂ = { s with heap := h', toks := tk' }) (F : Fr h₀ L h' m) (N : News h₀ L h' ((l, o) :: led)) (n1 : @Ne Nat l I) (n2 : @Ne Nat l C) (n3 : @Ne Nat l D) (n4 : @Ne Nat l X) : ObEnd4 h₀ L m s I C D X led G y s₂
theorem ObEnd4.intro {h' : Heap} {s₁ : Shared} {I C D X l : Addr} {o : Obj} {led all : List (Addr × Obj)} {G : Obj → Prop} {tk' : Nat} (F : Fr h₀ L h' m) (N : News h₀ L h' all) (hs : ∀ p ∈ (l, o) :: led, p ∈ all) (hG : G o) (n1 : @Ne Nat l I) (n2 : @Ne Nat l C) (n3 : @Ne Nat l D) (n4 : @Ne Nat l X) :
    ObEnd4 h₀ L m s₁ I C D X led G (.ref l) { s₁ with heap := h', toks := tk' } := ⟨l, o, h', tk', rfl, hG, rfl, F, fun p hp => N p (hs p hp), n1, n2, n3, n4⟩
/-- a block over a range is opened: the iterator, the list, the names, the cells -/
theorem open_range {e : PySem.Expr} {scope : Scope} {cl : List (Str × Addr)} {clf : Nat → List (Str × Addr)} {P : Heap → Nat → Prop} {RR : Value → Addr → Result → Shared → Prop} {r : Addr} {t u v : Tok} {n : Nat} (F : Fr h₀ L s.heap m)
    (hr : IsRange s.heap r 0 (n : Nat) 1 t u v) (hsm : Builtin.Range.small 0 (n : Nat) 1 = true) (hn : Builtin.Range.rangeSize 0 (n : Nat) 1 = ((n : Nat) : Int))
    (hcf : ∀ k, cellsFrom k scope.names cl = clf k) (hP : ∀ (H : Heap) k, H.objs.size = k → P (pushCells H scope.names) k)
    (k : ∀ (I : Nat) (H : Heap), (∀ b o, s.heap.get? b = some o → H.get? b = some o) → (∀ b o, s.heap.get? b = some o → @LT.lt Nat _ b I) → @LT.lt Nat _ L I → h₀.get? I = none → IsRangeIter H I 0 ((n : Nat) : Int) 1 → H.get? (I + 1) = some (lst []) → H.Ns (I + 2) (fun _ => none) → P H (I + 3) →
      codeAny (model prog w) A (.compStart e 0 (.ref I) (.ref (I + 1)) (compEnvC scope (clf (I + 3)) (I + 2) env)) (RR (.ref (I + 1)) (I + 2)) { s with heap := H }) :
    wpAny (model prog w) A (pyIter (.ref r)) (fun it s₂ => wpAny (model prog w) A (newList []) (fun acc s₃ => wpAny (model prog w) A (newFunctionEnv scope env.globals cl [] env.qual none .none (some env)) (fun cenv s₄ =>
      codeAny (model prog w) A (.compStart e 0 it acc { cenv with scope := relabel scope env }) (RR acc cenv.locals) s₄) E s₃) E s₂) E s := by
  refine wpAny_pyIter_range hr hsm ?_
  rw [hn]
  have hsz1 : (s.heap.push { cls := .type "range_iterator", data := .fields #[rawInt 0, rawInt ((n : Nat) : Int), rawInt 1] }).objs.size = s.heap.objs.size + 1 := Heap.size_push ..
  have hsz2 : ((s.heap.push { cls := .type "range_iterator", data := .fields #[rawInt 0, rawInt ((n : Nat) : Int), rawInt 1] }).push { cls := .type "list", dict := none, data := .seq ([] : List Value).toArray }).objs.size = s.heap.objs.size + 2 := by rw [Heap.size_push, hsz1]
  refine wpAny_newObj_type (newEnv_comp ?_)
  dsimp only
  rw [hsz2, hcf, hsz1]
  refine k s.heap.objs.size _ (fun b o e => pushCells_keeps _ _ _ _ (Heap.get?_push_of_some _ (Heap.get?_push_of_some _ (Heap.get?_push_of_some _ e)))) (fun b o e => Heap.lt_size e) F.ns.lt (next_is_new F)
    (pushCells_keeps _ _ _ _ (Heap.get?_push_of_some _ (Heap.get?_push_of_some _ (Heap.get?_push_size _ rfl)))) (pushCells_keeps _ _ _ _ (Heap.get?_push_of_some _ (hsz1 ▸ Heap.get?_push_size _ rfl))) ?_ (hP _ _ ?_)
  · exact (hsz2 ▸ Heap.Ns.new _ (.type "dict")).keeps (pushCells_keeps _ _)
  · rw [Heap.size_push, hsz2]
/-- the source of a block over a range whose target is a cell -/
inductive SrcC (prog : Program) (w : World) (A : Around) (h₀ : Heap) (L : Addr) (m : Str → Option Value) (env : Env) (elt : PySem.Expr) (x : Str) (scope : Scope) (cl : List (Str × Addr)) (Q : Value → Shared → Prop) (xv : Value) (s₁ : Shared) : Prop
  | mk (r : Addr) (t u v : Tok) (n : Nat) (news : List (Addr × Obj)) (G : Nat → Obj → Prop) (e : xv = .ref r) (hh : A.handled = none) (F : Fr h₀ L s₁.heap m) (N : News h₀ L s₁.heap news) (hr : IsRange s₁.heap r 0 (n : Nat) 1 t u v) (hsm : Builtin.Range.small 0 (n : Nat) 1 = true) (hn : Builtin.Range.rangeSize 0 (n : Nat) 1 = ((n : Nat) : Int)) (hsz : n ≤ sizeLine)
    (turn : ∀ i t I oI C oC D X oX ys nw h tk (E' : Value → Shared → Prop), i < n → oX.data = .cell (some (.int ((i : Nat) : Int) t)) → (∀ p ∈ news, p ∈ nw) → Fr h₀ L h m → News h₀ L h ((I, oI) :: (C, oC) :: (D, lst ys) :: (X, oX) :: nw) →
      wpAny (model prog w) A (eval elt (compEnvC scope ((x, X) :: cl) C env)) (ObEnd4 h₀ L m { s₁ with heap := h, toks := tk } I C D X ((I, oI) :: (C, oC) :: (D, lst ys) :: (X, oX) :: nw) (G i)) E' { s₁ with heap := h, toks := tk })
    (fin : ∀ (ls : List (Addr × Obj)) D h tk, ls.length = n → (∀ i p, ls[i]? = some p → G i p.2) → Fr h₀ L h m → News h₀ L h ((D, lst (ls.map fun p => .ref p.1)) :: (news ++ ls)) → (∀ p ∈ news, @Ne Nat p.1 D) → Q (.ref D) { s₁ with heap := h, toks := tk }) : SrcC prog w A h₀ L m env elt x scope cl Q xv s₁
inductive CInv (s₁ : Shared) (n : Nat) (I : Addr) (h₀ : Heap) (L : Addr) (m : Str → Option Value) (news : List (Addr × Obj)) (G : Nat → Obj → Prop) (q : Nat) (s' : Shared) : Prop
  | mk (h' : Heap) (tk i : Nat) (ls : List (Addr × Obj)) (m' : Str → Option Value) (e : s' = { s₁ with heap := h', toks := tk }) (hi : i ≤ n) (hq : q = n + 1 - i) (hl : ls.length = i) (hit : IsRangeIter h' I ((i : Nat) : Int) ((n : Int) - (i : Nat)) 1) (F : Fr h₀ L h' m) (hn : h'.Ns (I + 2) m') (hX : ∃ v, h'.IsCell (I + 3) v)
    (N : News h₀ L h' ((I + 1, lst (ls.map fun p => .ref p.1)) :: (news ++ ls))) (off : ∀ p ∈ ls, @Ne Nat p.1 I ∧ @Ne Nat p.1 (I + 2) ∧ @Ne Nat p.1 (I + 1) ∧ @Ne Nat p.1 (I + 3)) (hG : ∀ j p, ls[j]? = some p → G j p.2) : CInv s₁ n I h₀ L m news G q s'
theorem ListComp_C {elt iter : PySem.Expr} {x : Str} {px : Pos} {scope : Scope} {cl : List (Str × Addr)} {pos : Pos} {Q : Value → Shared → Prop} (F₀ : Fr h₀ L s.heap m)
    (hclos : closureFor scope env = pure cl) (hkind : scope.kind = .function)
    (hnames : ∀ y ∈ scope.names, y.2 = .local → scope.names.lookup y.1 = some .local) (hx : (relabel scope env).names.lookup x = some .cell)
    (hcf : ∀ k, cellsFrom k scope.names cl = (x, k) :: cl) (hpc : ∀ h, pushCells h scope.names = h.push { cls := .type "cell", data := .cell none })
    (h : wpAny (model prog w) A (eval iter env) (SrcC prog w A h₀ L m env elt x scope cl Q) E s)
    (hs : ∀ x, foldedSetIterable iter env x = pure x := by intro _; rfl) :
    wpAny (model prog w) A (eval (.ListComp elt [⟨.Name x px, iter, [], 0⟩] scope pos) env) Q E s := by
  rw [eval_ListComp]
  refine wpAny_comprehension_free (use := none) rfl hs hclos hkind hnames (wpAny_mono h (fun xv s₁ h₁ => ?_) fun _ _ e => e)
  obtain ⟨r, t, u, v, n, news, G, rfl, hh, F, N, hr, hsm, hn, hsz, turn, fin⟩ := h₁
  refine open_range (RR := fun acc C => compPost (model prog w) A E none Q acc C) (P := fun H k => H.IsCell k none) F hr hsm hn hcf (fun H k hk => by rw [hpc]; exact ⟨_, hk ▸ Heap.get?_push_size _ rfl, rfl⟩) ?_
  intro I H4 up14 lt1 hLlt hI₀ hit0 acc4 ns4 cell4
  have fresh₀ : ∀ y : Nat, I ≤ y → h₀.get? y = none := fun y hy => by
    cases e : h₀.get? y with
    | none => rfl
    | some o' => exact absurd (lt1 y o' (F.keep y o' e)) (Nat.not_lt.mpr hy)
  have hLI : L ≠ I := Nat.ne_of_lt hLlt
  have a10 : @Ne Nat (I + 1) I := n10 I
  have a20 : @Ne Nat (I + 2) I := n20 I
  have a30 : @Ne Nat (I + 3) I := n30 I
  have a21 : @Ne Nat (I + 2) (I + 1) := n21 I
  have a31 : @Ne Nat (I + 3) (I + 1) := n31 I
  have a32 : @Ne Nat (I + 3) (I + 2) := n32 I
  have a01 : @Ne Nat I (I + 1) := Ne.symm a10
  have a02 : @Ne Nat I (I + 2) := Ne.symm a20
  have a03 : @Ne Nat I (I + 3) := Ne.symm a30
  have a12 : @Ne Nat (I + 1) (I + 2) := Ne.symm a21
  have a13 : @Ne Nat (I + 1) (I + 3) := Ne.symm a31
  have a23 : @Ne Nat (I + 2) (I + 3) := Ne.symm a32
  have l1 : @LT.lt Nat _ L (I + 1) := Nat.lt_add_right 1 hLlt
  have l2 : @LT.lt Nat _ L (I + 2) := Nat.lt_add_right 2 hLlt
  have l3 : @LT.lt Nat _ L (I + 3) := Nat.lt_add_right 3 hLlt
  have e1 : I ≤ I + 1 := Nat.le_add_right I 1
  have e2 : I ≤ I + 2 := Nat.le_add_right I 2
  have e3 : I ≤ I + 3 := Nat.le_add_right I 3
  have hDL : (I + 1 : Nat) ≠ L := Nat.ne_of_gt (by first | with_reducible assumption | omega)
  have hCL : (I + 2 : Nat) ≠ L := Nat.ne_of_gt (by first | with_reducible assumption | omega)
  have hXL : (I + 3 : Nat) ≠ L := Nat.ne_of_gt (by first | with_reducible assumption | omega)
  have hD₀ : h₀.get? (I + 1) = none := fresh₀ (I + 1) (by first | with_reducible assumption | omega)
  have hC₀ : h₀.get? (I + 2) = none := fresh₀ (I + 2) (by first | with_reducible assumption | omega)
  have hX₀ : h₀.get? (I + 3) = none := fresh₀ (I + 3) (by first | with_reducible assumption | omega)
  have ltN : ∀ p ∈ news, @LT.lt Nat _ p.1 I := fun p hp => lt1 _ _ (N p hp).1
  have loop : ∀ s₃ : Shared, s₃ = { s₁ with heap := H4 } →
      codeAny (model prog w) A (.compLoop (.ListComp elt [⟨.Name x px, iter, [], 0⟩] scope pos) 0 (.ref I) (.ref (I + 1)) (compEnvC scope ((x, I + 3) :: cl) (I + 2) env))
        (compPost (model prog w) A E none Q (.ref (I + 1)) (I + 2)) s₃ := by
    rintro s₃ rfl
    refine codeAny_compLoop_list
      (CInv s₁ n I h₀ L m news G) ?_ (n + 1)
      ⟨H4, _, 0, [], _, rfl, Nat.zero_le _, rfl, rfl, ?_, F.keeps up14, ns4, ⟨none, cell4⟩, fun p hp => ?_, (by intro _ h; cases h), (by intro _ _ hj; cases hj)⟩
    · rintro q s' ⟨h', tk, i, ls, m', rfl, hi, rfl, hyl, hit, F', hn', ⟨vX, hX'⟩, N', off, hG⟩
      have offA : ∀ p ∈ news ++ ls, @Ne Nat p.1 I ∧ @Ne Nat p.1 (I + 2) ∧ @Ne Nat p.1 (I + 1) ∧ @Ne Nat p.1 (I + 3) := fun p hp => by
        rcases List.mem_append.mp hp with hp | hp
        · have := ltN p hp; exact ⟨Nat.ne_of_lt this, Nat.ne_of_lt (Nat.lt_add_right 2 this), Nat.ne_of_lt (Nat.lt_add_right 1 this), Nat.ne_of_lt (Nat.lt_add_right 3 this)⟩
        · exact off p hp
      by_cases hlt : i < n
      · refine wpAny_pyNext_range_item hit (by first | with_reducible assumption | omega) fun h₂ hit₂ hs₂ => ?_
        have k2 : ∀ b o, @Ne Nat b I → h'.get? b = some o → h₂.get? b = some o := fun b o hb e => hs₂.extBut b o hb e
        refine wpAny_assign_Name (wpAny_storeName_cell (c := I + 3) (by simp [compEnvC, relabel, hkind]) hx (by simp [compEnvC]) (let ⟨o, e, d⟩ := hX'; ⟨o, k2 _ o (by first | with_reducible assumption | omega) e, d⟩) fun h₃ hX₃ hs₃ => ?_)
        have k3 : ∀ b o, @Ne Nat b (I + 3) → h₂.get? b = some o → h₃.get? b = some o := fun b o hb e => hs₃.extBut b o hb e
        have k23 : ∀ b o, @Ne Nat b I → @Ne Nat b (I + 3) → h'.get? b = some o → h₃.get? b = some o := fun b o h1 h2 e => k3 b o h2 (k2 b o h1 e)
        obtain ⟨oX, heX, hdX⟩ := hX₃
        have hit₃ : IsRangeIter h₃ I (((i : Nat) : Int) + 1) ((n : Int) - (i : Nat) - 1) 1 := by
          show h₃.get? I = _
          exact k3 I _ (by first | with_reducible assumption | omega) hit₂
        have F₃ : Fr h₀ L h₃ m := ⟨F'.ns.at' fun o e => k23 _ o hLI (Ne.symm hXL) e, fun b o e => k23 b o (fun q => by rw [q, hI₀] at e; cases e) (fun q => by rw [q, hX₀] at e; cases e) (F'.keep b o e), F'.above⟩
        have hn₃ : h₃.Ns (I + 2) m' := hn'.at' fun o e => k23 _ o (by first | with_reducible assumption | omega) (by first | with_reducible assumption | omega) e
        obtain ⟨oC, heC, hoC⟩ := ns_obj hn₃
        have N₃ : News h₀ L h₃ ((I, _) :: (I + 2, oC) :: (I + 1, lst (ls.map fun p => .ref p.1)) :: (I + 3, oX) :: (news ++ ls)) := fun p hp => by
          rcases List.mem_cons.mp hp with rfl | hp
          · exact ⟨hit₃, Ne.symm hLI, hI₀⟩
          rcases List.mem_cons.mp hp with rfl | hp
          · exact ⟨heC, hCL, hC₀⟩
          rcases List.mem_cons.mp hp with rfl | hp
          · have z := N' _ List.mem_cons_self
            exact ⟨k23 _ _ (by show @Ne Nat (I + 1) I; first | with_reducible assumption | omega) (by show @Ne Nat (I + 1) (I + 3); first | with_reducible assumption | omega) z.1, z.2⟩
          rcases List.mem_cons.mp hp with rfl | hp
          · exact ⟨heX, hXL, hX₀⟩
          have z := N' p (List.mem_cons_of_mem _ hp)
          exact ⟨k23 _ _ (offA p hp).1 (offA p hp).2.2.2 z.1, z.2⟩
        refine wpAny_mono (turn i tk I _ (I + 2) oC (I + 1) (I + 3) oX _ _ h₃ (tk + 1) _ hlt hdX (fun p hp => List.mem_append_left _ hp) F₃ N₃) (fun y s₄ h₄ => ?_) fun _ _ e => e
        obtain ⟨l, o, h₄, tk₄, rfl, hGo, rfl, F₄, N₄, n1, n2, n3, n4⟩ := h₄
        have zI := (N₄ (I, _) (.tail _ (.head _))).1
        have zC := (N₄ (I + 2, oC) (.tail _ (.tail _ (.head _)))).1
        have zD := (N₄ (I + 1, lst (ls.map fun p => .ref p.1)) (.tail _ (.tail _ (.tail _ (.head _))))).1
        have zX := (N₄ (I + 3, oX) (.tail _ (.tail _ (.tail _ (.tail _ (.head _)))))).1
        refine append_at (hsz := by rw [List.size_toArray, List.length_map, hyl]; exact Nat.le_trans hi hsz) zD fun h₅ hs₅ hD₅ => ?_
        have k5 : ∀ b o, @Ne Nat b (I + 1) → h₄.get? b = some o → h₅.get? b = some o := fun b o hb e => hs₅.extBut b o hb e
        refine ⟨n + 1 - (i + 1), by first | with_reducible assumption | omega, h₅, tk₄, i + 1, ls ++ [(l, o)], m', rfl, hlt, rfl, by rw [List.length_append, List.length_singleton, hyl], ?_, F₄.change hs₅ hDL hD₀, (hoC.ns zC).at' fun o e => k5 _ o (by first | with_reducible assumption | omega) e, ⟨_, ⟨oX, k5 _ _ (by first | with_reducible assumption | omega) zX, hdX⟩⟩, fun p hp => ?_, fun p hp => ?_, fun j p hj => ?_⟩
        · show h₅.get? I = _
          have e1 : ((i + 1 : Nat) : Int) = (i : Int) + 1 := by first | with_reducible assumption | omega
          have e2 : (n : Int) - ((i + 1 : Nat) : Int) = (n : Int) - (i : Nat) - 1 := by first | with_reducible assumption | omega
          rw [e2, e1]
          exact k5 I _ (by first | with_reducible assumption | omega) zI
        · rcases List.mem_cons.mp hp with rfl | hp
          · rw [List.map_append]
            exact ⟨hD₅.trans (congrArg some (lst_snoc _ _)), hDL, hD₀⟩
          rw [← List.append_assoc] at hp
          rcases List.mem_append.mp hp with hp | hp
          · have z := N₄ p (.tail _ (.tail _ (.tail _ (.tail _ (.tail _ hp)))))
            exact ⟨k5 _ _ (offA p hp).2.2.1 z.1, z.2⟩
          · rw [List.mem_singleton.mp hp]
            have z := N₄ (l, o) (.head _)
            exact ⟨k5 _ _ n3 z.1, z.2⟩
        · rcases List.mem_append.mp hp with hp | hp
          · exact off p hp
          · rw [List.mem_singleton.mp hp]; exact ⟨n1, n2, n3, n4⟩
        · rcases Nat.lt_or_ge j ls.length with hlt₂ | hge
          · rw [List.getElem?_append_left hlt₂] at hj
            exact hG j p hj
          · rw [List.getElem?_append_right hge] at hj
            have h0 : j - ls.length = 0 := by
              rcases Nat.eq_zero_or_pos (j - ls.length) with h | h
              · exact h
              · rw [List.getElem?_eq_none (by simp only [List.length_cons, List.length_nil]; first | with_reducible assumption | omega)] at hj; cases hj
            rw [h0] at hj
            have hji : j = i := by first | with_reducible assumption | omega
            simp only [List.getElem?_cons_zero, Option.some.injEq] at hj
            rw [← hj, hji]; exact hGo
      · obtain rfl : i = n := Nat.le_antisymm hi (Nat.not_lt.mp hlt)
        refine wpAny_pyNext_range_end hh hit (by first | with_reducible assumption | omega) fun h₂ he₂ => ?_
        refine ⟨m', hn'.at' fun o e => he₂ _ o (show @Ne Nat (I + 2) I by first | with_reducible assumption | omega) e, fun h₃ hs₃ => ?_⟩
        have keep2 : ∀ b o, @Ne Nat b I → @Ne Nat b (I + 2) → h'.get? b = some o → h₃.get? b = some o := fun b o h1 h2 e => hs₃.extBut b o h2 (he₂ b o h1 e)
        refine fin ls (I + 1) h₃ tk hyl hG ⟨F'.ns.at' fun o e => keep2 _ o hLI (Ne.symm hCL) e, fun b o e => keep2 b o (fun q => by rw [q, hI₀] at e; cases e) (fun q => by rw [q, hC₀] at e; cases e) (F'.keep b o e), F'.above⟩ (fun p hp => ?_) fun p hp => Nat.ne_of_lt (Nat.lt_add_right 1 (ltN p hp))
        refine ⟨keep2 _ _ ?_ ?_ (N' p hp).1, (N' p hp).2⟩
        · rcases List.mem_cons.mp hp with rfl | hp
          · show @Ne Nat (I + 1) I; first | with_reducible assumption | omega
          · exact (offA p hp).1
        · rcases List.mem_cons.mp hp with rfl | hp
          · show @Ne Nat (I + 1) (I + 2); first | with_reducible assumption | omega
          · exact (offA p hp).2.1
    · show H4.get? I = _
      have : H4.get? I = _ := hit0
      simpa using this
    · rw [List.append_nil] at hp
      rcases List.mem_cons.mp hp with rfl | hp
      · exact ⟨acc4, hDL, hD₀⟩
      · exact ⟨up14 _ _ (N p hp).1, (N p hp).2⟩
  refine codeAny_compStart_list (loop _ rfl) (wpAny_pyIter_rangeiter (x := 0) (left := ((n : Nat) : Int)) (step := 1) hit0 (loop _ rfl))
end
end Mine
end

/- LetK -/
section
open PySem PySem.W PyProof.Rows PySem.Calls PySem.Spec
open PyProof.Rows.LCg
set_option maxRecDepth 100000
set_option linter.all false
namespace Mine
noncomputable def seqOf (o : Obj) : List Value := match o.data with | .seq a _ => a.toList | _ => []
noncomputable def FourAt (qq : Nat → Int × Int × Int × Int) (i : Nat) (o : Obj) : Prop := ∃ t0 t1 t2 t3 k, o = PySem.W.listOf #[.int (qq i).1 t0, .int (qq i).2.1 t1, .int (qq i).2.2.1 t2, .int (qq i).2.2.2 t3] k
theorem getD_some {α : Type} {d : α} : ∀ {l : List α} {i : Nat}, i < l.length → l[i]? = some (l.getD i d)
  | _ :: _, 0, _ => rfl
  | _ :: r, i + 1, h => by
    have := getD_some (d := d) (l := r) (i := i) (by simpa using h)
    simpa using this
theorem let_pre {ls : List (Addr × Obj)} {qq : Nat → Int × Int × Int × Int} (hl : ls.length = 6) (hG : ∀ i p, ls[i]? = some p → FourAt qq i p.2) (hB : ∀ i, i < 6 → Bits4 (qq i)) :
    ∃ ad V, LetJ V qq 6 ∧ ∀ (D : Addr) nw (h₀ g : Heap) (L : Addr), News h₀ L g ((D, lst (ls.map fun p => .ref p.1)) :: nw) → (∀ p ∈ ls, p ∈ nw) → LetPre D ad V g := by
  refine ⟨fun i => (ls.getD i (0, default)).1, fun i => ((seqOf (ls.getD i (0, default)).2).getD 0 .none, (seqOf (ls.getD i (0, default)).2).getD 1 .none, (seqOf (ls.getD i (0, default)).2).getD 2 .none, (seqOf (ls.getD i (0, default)).2).getD 3 .none), ?_, ?_⟩
  · intro i hi
    refine ⟨hB i hi, ?_⟩
    have hg : ls[i]? = some (ls.getD i (0, default)) := getD_some (by omega)
    obtain ⟨t0, t1, t2, t3, k, e⟩ := hG i _ hg
    refine ⟨t0, t1, t2, t3, ?_⟩
    dsimp only
    rw [e]
    rfl
  · intro D nw h₀ g L N hs
    obtain ⟨p0, p1, p2, p3, p4, p5, rfl⟩ := list6 hl
    refine ⟨⟨_, (N _ (.head _)).1, rfl, _, rfl⟩, fun i hi => ?_⟩
    have hg : [p0, p1, p2, p3, p4, p5][i]? = some ([p0, p1, p2, p3, p4, p5].getD i (0, default)) := getD_some hi
    obtain ⟨t0, t1, t2, t3, k, e⟩ := hG i _ hg
    have z := N _ (.tail _ (hs _ (List.mem_of_getElem? hg)))
    dsimp only
    generalize [p0, p1, p2, p3, p4, p5].getD i (0, default) = p at e z ⊢
    obtain ⟨a, o⟩ := p
    dsimp only at e z ⊢
    subst e
    exact ⟨_, z.1, rfl, _, rfl⟩
end Mine
end

/- LawJ -/
section
theorem Mine.none60 : True := by
  k_with_none
  trivial
open PySem PySem.W PyProof.Rows PySem.Calls PySem.Spec
open PyProof.Rows.LCg
set_option maxRecDepth 100000
set_option maxHeartbeats 4000000
set_option linter.all false
namespace Mine
section lawJ
variable {w : World} {mean : ExcName → Option Value} {mg mb : Str → Option Value} {base h₀ : Heap} {sc : Addr} {vs : List Value} {ns : List Int} {L fa : Addr} {cd : Value}
noncomputable def bitq (x : Int) (i : Nat) : Int := x / 2 ^ (5 - i) % 2
noncomputable def signQ (q : List Int) (i : Nat) : Int × Int × Int × Int := (bitq (q.getD 0 0) i, bitq (q.getD 1 0) i, bitq (q.getD 2 0) i, bitq (q.getD 3 0) i)
noncomputable def word6 (qq : Nat → Int × Int × Int × Int) : Str := ⟨#[let4 (qq 0), let4 (qq 1), let4 (qq 2), let4 (qq 3), let4 (qq 4), let4 (qq 5)]⟩
theorem idx_mod (k : Nat) (c : Nat) : ((k : Int) + (c : Int)).fmod 11 = (((k + c) % 11 : Nat) : Int) := by
  rw [Int.fmod_eq_emod_of_nonneg _ (by decide : (0 : Int) ≤ 11)]; omega
theorem words58 : True := by
  k_with "eval ListComp ListComp" => ((with_reducible show wpAny _ _ (eval (PySem.Expr.ListComp (PySem.Expr.ListComp _ _ _ _) _ _ _) _) _ _ _); k_dflt (refine ListComp_C (F₀ := by k_asm) (by with_unfolding_all rfl) (by decide) (by decide) (by rfl) (fun _ => by rfl) (fun _ => by rfl) ?_))
  k_with "subscriptTail" => ((with_reducible show wpAny _ _ (subscriptTail (PySem.Expr.Name (PySem.Str.ofString "words") _) _ (Value.ref _) (Value.int _ _)) _ _ _); k_dflt (refine item_listR (News.isList (by k_asm) (by k_mem)) (by with_reducible assumption) (by with_reducible assumption) (by assumption) ?_))
  k_with "call ref" => ((with_reducible show wpAny _ _ (call (Value.ref 124) _ _) _ _ _); refine Held.out ?_)
  k_with "eval Name" => ((with_reducible show wpAny _ _ (eval (PySem.Expr.Name (PySem.Str.ofString "four") _) (compEnvC _ _ _ _)) _ _ _); k_dflt (refine' lcf_cell ?Nq71 ?cq71 ?mq71 ?dq71 ?_ ?aq71 ?bq71; (case aq71 => rfl); (case bq71 => rfl); (case Nq71 => k_asm); (case cq71 => rfl); (case mq71 => k_mem); (case dq71 => assumption)))
  k_with "eval Name" => ((with_reducible show wpAny _ _ (eval (PySem.Expr.Name (PySem.Str.ofString "i") _) (compEnvC _ _ _ _)) _ _ _); k_dflt (refine' lcf_cell ?Nq72 ?cq72 ?mq72 ?dq72 ?_ ?aq72 ?bq72; (case aq72 => rfl); (case bq72 => rfl); (case Nq72 => k_asm); (case cq72 => rfl); (case mq72 => k_mem); (case dq72 => assumption)))
  trivial
theorem ints_at {ys : List Value} {q : List Int} (h : IntsAre ys q) : ∀ {j : Nat} {v : Value}, ys.toArray[j]? = some v → ∃ t, v = .int (q.getD j 0) t := by
  intro j v hv
  have hv' : ys[j]? = some v := by simpa using hv
  have hj : j < ys.length := (List.getElem?_eq_some_iff.mp hv').1
  obtain ⟨t, e⟩ := ints_getD h (j := j) (by rw [← h.length]; exact hj)
  refine ⟨t, ?_⟩
  rw [← e]
  have := getD_some (d := Value.none) hj
  rw [hv'] at this
  exact Option.some.inj this
theorem getD_mem {q : List Int} {j : Nat} (hj : j < q.length) : q.getD j 0 ∈ q := List.mem_of_getElem? (getD_some hj)
theorem fmod_bit (x : Int) {i : Nat} (hi : i < 6) : Builtin.bitAnd (x.fdiv (2 ^ (5 - (i : Int)).toNat)) 1 = bitq x i := by
  rw [bitAnd_m1, Int.fdiv_eq_ediv_of_nonneg _ (Int.le_of_lt (Int.pow_pos (by decide))), show (5 - (i : Int)).toNat = 5 - i by omega]
  rfl
theorem bitq_bit (x : Int) (i : Nat) : Bit (bitq x i) := by unfold Bit bitq; omega
theorem sign_ints {zs : List Value} {q : List Int} {i : Nat} (hl : q.length = 4) (hz : zs.length = 4) (hG : ∀ (j : Nat) y, zs[j]? = some y → ∃ t, y = Value.int (bitq (q.getD j 0) i) t) : FourAt (signQ q) i (lst zs) := by
  obtain ⟨z0, z1, z2, z3, rfl⟩ := list4 hz
  obtain ⟨t0, rfl⟩ := hG 0 z0 rfl
  obtain ⟨t1, rfl⟩ := hG 1 z1 rfl
  obtain ⟨t2, rfl⟩ := hG 2 z2 rfl
  obtain ⟨t3, rfl⟩ := hG 3 z3 rfl
  exact ⟨t0, t1, t2, t3, _, rfl⟩
theorem words59 : True := by
  k_with "CompSrc" => (k_dflt (refine CompSrc.ledger (by rfl) (by k_asm) (by k_asm) (k := List.length _) (by k_mem) (by assumption) ?_); refine Held.out ?_)
  k_with "eval ListComp BinOp" => ((with_reducible show wpAny _ _ (eval (PySem.Expr.ListComp (PySem.Expr.BinOp _ _ _ _) _ _ _) (compEnvC _ _ _ _)) _ _ _); k_dflt (refine ListComp_U (F₀ := by k_asm) (by with_unfolding_all rfl) (by decide) (by rfl) (by decide) (by rfl) ?_))
  trivial
theorem d3 {s : Shared} {m : Str → Option Value} {led : List (Addr × Obj)} {o6 : Obj} {f wa : Addr} {ys : List Value} {q : List Int} {wv : List Value} {kw k : Nat} {t tk : Tok} (X : Ctx0 w mean mg mb base h₀ sc vs ns) (F : Fr h₀ L s.heap m) (N : News h₀ L s.heap led)
    (h6 : (L + 6, o6) ∈ led) (c6 : o6.data = .cell (some (.ref f))) (hf : (f, lst ys) ∈ led) (hq : IntsAre ys q) (hl : q.length = 4) (hq0 : ∀ x ∈ q, 0 ≤ x ∧ x < 64)
    (hw : (wa, PySem.W.listOf wv.toArray kw) ∈ led) (e1 : m (Str.ofString "words") = some (.ref wa)) (e2 : m (Str.ofString "k") = some (.int (k : Int) tk)) (hk : wv[(k + 2) % 11]? = some (.str (word6 (signQ q)) t)) (hk1 : k < 11) :
    wpAny (model Challenge.rw_op0029_01.row.prog w) (callerA.deeper (lawEnv L fa cd)) (exec (l2St 2) (lawEnv L fa cd)) (Nx (MidX h₀ L m s (fun (_ : Unit) => led) (fun _ => True))) (fun _ _ => False) s := by
  have B := X.below
  have T := X.top
  have KX := X.part
  clear X
  revert KX
  k_fill
  intro KX
  rw [L2S2.2]
  dsimp only [lawEnv, L2S2, LNM, LSC]
  obtain ⟨hp, gn, dr, tok, os⟩ := s
  dsimp only at N F ⊢
  have hkk : ∀ p ∈ [(Str.ofString "words", Value.ref wa), (Str.ofString "k", Value.int (k : Int) tk)], m p.1 = some p.2 := by simp only [List.forall_mem_cons]; exact ⟨e1, e2, fun _ h => nomatch h⟩
  rw [kst_self hkk] at F
  dsimp only [kstB] at F
  have hm : ((k : Int) + 2).fmod 11 = (((k + 2) % 11 : Nat) : Int) := idx_mod k 2
  have hx0 : 0 ≤ ((k : Int) + 2).fmod 11 := by rw [hm]; omega
  have hx1 : ((k : Int) + 2).fmod 11 < 2 ^ 63 := by rw [hm]; omega
  have hx : wv.toArray[(((k : Int) + 2).fmod 11).toNat]? = some (.str (word6 (signQ q)) t) := by rw [hm, Int.toNat_natCast]; simpa using hk
  clear hm
  try k_fold
  k_steps
  have hys : ys.toArray.size ≤ sizeLine := by rw [List.size_toArray, hq.length, hl, sizeLine_eq]; omega
  refine ⟨_, _, _, _, 6, led, FourAt (signQ q), rfl, rfl, by assumption, by assumption, by assumption, by decide, by decide, by decide, ?_, ?_⟩
  · intro i t I oI C oC D X oX zs nw h tk' E' hi hX hsub F' N'
    have h6' := hsub _ h6
    have hf' := hsub _ hf
    clear hsub
    have h6'' : (L + 5 + 1, o6) ∈ nw := h6'
    dsimp only
    try k_fold
    k_steps
    refine Held.mk ?_
    intro g2
    refine rest_el (fun j y => ∃ t, y = Value.int (bitq (q.getD j 0) i) t) (.inr ⟨lst ys, .tail _ (.tail _ (.tail _ (.tail _ hf'))), rfl, _, rfl⟩) ?_ ?_
    · intro j v I2 oI2 C2 oC2 D2 m2 z2 h2 tk2 E2 hj hv hC2 hx2 F2 N2 off2 ne2
      obtain ⟨tv, rfl⟩ := ints_at hq hv
      have hb := hq0 (q.getD j 0) (getD_mem (by rw [← hq.length, ← List.size_toArray]; exact hj))
      generalize q.getD j 0 = x at *
      obtain ⟨hb0, hb1⟩ := hb
      dsimp only
      try k_fold
      k_steps
      exact ElEnd.intro F2 N2 (fun p hp => hp) (ex_int (fmod_bit x hi))
    · intro z2 hz2 hG2
      have hz4 : z2.length = 4 := by rw [hz2, List.size_toArray, hq.length, hl]
      intro D2 h2 tk2 F2 N2 off2
      have hne := off_mem1 off2
      exact ObEnd4.intro F2 N2 (fun p hp => hp) (sign_ints hl hz4 hG2) (Ne.symm (hne _ (.head _))) (Ne.symm (hne _ (.tail _ (.head _)))) (Ne.symm (hne _ (.tail _ (.tail _ (.head _))))) (Ne.symm (hne _ (.tail _ (.tail _ (.tail _ (.head _))))))
  · intro ls D hE tkE hll hG FE NE hne
    obtain ⟨ad, V, hV, hPre⟩ := let_pre hll hG fun i _ => ⟨bitq_bit _ _, bitq_bit _ _, bitq_bit _ _, bitq_bit _ _⟩
    have hP := hPre D _ h₀ hE L NE (fun p hp => List.mem_append_right _ hp)
    clear hPre hG
    dsimp only
    try k_fold
    k_steps
    refine Held.mk ?_
    refine use (c_let w mean mg mb D _ _ _ hV) (by k_asm) FE (by k_asm) NE (by k_asm) ?_ (by decide) (by decide) hP ?_
    · first | exact rfl | assumption
    intro v' h' tk' F' N' st' ev'
    obtain ⟨t', ev'⟩ := ev'
    change v' = Value.str (word6 (signQ q)) t' at ev'
    subst ev'
    generalize word6 (signQ q) = W at *
    try k_fold
    k_steps
    all_goals first
      | exact midX (led := fun (_ : Unit) => led) (P := fun _ => True) () _ hkk (by assumption) N' (fun p hp => .tail _ (List.mem_append_left _ hp)) trivial
      | (exfalso; rename (_ != _) = true => hne; simp at hne)
end lawJ
end Mine
theorem Mine.none61 : True := by
  k_with_none
  trivial
end

/- LawK -/
section
theorem Mine.none64 : True := by
  k_with_none
  trivial
open PySem PySem.W PyProof.Rows PySem.Calls PySem.Spec
open PyProof.Rows.LCg
set_option maxRecDepth 100000
set_option maxHeartbeats 4000000
set_option linter.all false
namespace Mine
section lawK
variable {w : World} {mean : ExcName → Option Value} {mg mb : Str → Option Value} {base h₀ : Heap} {sc : Addr} {vs : List Value} {ns : List Int} {L fa : Addr} {cd : Value}
theorem words62 : True := by
  k_with "subscriptTail" => ((with_reducible show wpAny _ _ (subscriptTail (PySem.Expr.Name (PySem.Str.ofString "lists") _) _ (Value.ref _) (Value.int _ _)) _ _ _); k_dflt (refine item_listR (News.isList (by k_asm) (by k_mem)) (by omega) (by omega) (by assumption) ?_))
  k_with "eval ListComp" => ((with_reducible show wpAny _ _ (eval (PySem.Expr.ListComp _ _ _ _) _) _ _ _); k_dflt (refine ListComp_U (F₀ := by k_asm) (by with_unfolding_all rfl) (by decide) (by rfl) (by decide) (by rfl) ?_))
  k_with "CompSrc" => (k_dflt (refine CompSrc.ledger (by rfl) (by k_asm) (by k_asm) (by assumption) (Nat.le_of_ble_eq_true rfl) ?_); refine Held.out ?_)
  trivial
theorem slice_l (c : Int) : Txt.slice (listing c) none (some 1) ++ Txt.slice (listing c) (some 10) none = Str.ofString "l" := by
  rfl
theorem two_l {zs : List Value} {T : Str} (h : zs.length = 2) (hG : ∀ (i : Nat) y, zs[i]? = some y → ∃ t, y = Value.str T t) : ∃ u v, zs = [.str T u, .str T v] := by
  obtain ⟨y0, y1, rfl⟩ := list2 h
  obtain ⟨u, rfl⟩ := hG 0 y0 rfl
  obtain ⟨v, rfl⟩ := hG 1 y1 rfl
  exact ⟨u, v, rfl⟩
theorem d4 {s : Shared} {m : Str → Option Value} {led : List (Addr × Obj)} {p la : Addr} {lv : List Value} {kl k kp : Nat} {a b : Int} {t1 t2 tk : Tok} (X : Ctx0 w mean mg mb base h₀ sc vs ns) (F : Fr h₀ L s.heap m) (N : News h₀ L s.heap led)
    (hp : (p, PySem.W.listOf #[Value.str (listing a) t1, Value.str (listing b) t2] kp) ∈ led) (hw : (la, PySem.W.listOf lv.toArray kl) ∈ led)
    (e1 : m (Str.ofString "lists") = some (.ref la)) (e2 : m (Str.ofString "k") = some (.int (k : Int) tk)) (hk : lv[k]? = some (.ref p)) (hk1 : k < 11) :
    wpAny (model Challenge.rw_op0029_01.row.prog w) (callerA.deeper (lawEnv L fa cd)) (exec (l2St 3) (lawEnv L fa cd)) (Nx (MidX h₀ L m s (fun (_ : Unit) => led) (fun _ => True))) (fun _ _ => False) s := by
  have B := X.below
  have T := X.top
  have KX := X.part
  clear X
  revert KX
  k_fill
  intro KX
  rw [L2S3.2]
  dsimp only [lawEnv, L2S3, LNM, LSC]
  obtain ⟨hh, gn, dr, tok, os⟩ := s
  dsimp only at N F ⊢
  have hkk : ∀ p ∈ [(Str.ofString "lists", Value.ref la), (Str.ofString "k", Value.int (k : Int) tk)], m p.1 = some p.2 := by simp only [List.forall_mem_cons]; exact ⟨e1, e2, fun _ h => nomatch h⟩
  rw [kst_self hkk] at F
  dsimp only [kstB] at F
  have hx : lv.toArray[(k : Int).toNat]? = some (.ref p) := by simpa using hk
  try k_fold
  k_steps
  refine Held.mk ?_
  intro g'
  refine rest_el (fun i y => ∃ t, y = Value.str (Str.ofString "l") t) (.inr ⟨_, hp, rfl, _, rfl⟩) ?_ ?_
  · intro i v I oI C oC D m₂ zs h tk' E' hi hv hC hx' F' N' off ne
    have hv' : ∃ c tv, v = .str (listing c) tv := by
      have hi2 : i < 2 := hi
      have hc : i = 0 ∨ i = 1 := by omega
      rcases hc with rfl | rfl
      · exact ⟨a, t1, (Option.some.inj hv).symm⟩
      · exact ⟨b, t2, (Option.some.inj hv).symm⟩
    obtain ⟨c, tv, rfl⟩ := hv'
    have hlen : (listing c).length = 10 := rfl
    generalize hW : listing c = W at *
    dsimp only
    try k_fold
    k_steps
    exact ElEnd.intro (by assumption) (by assumption) (fun p hp => hp) (ex_str (hW ▸ slice_l c))
  · intro zs hlz hG
    obtain ⟨u, v, rfl⟩ := two_l hlz hG
    clear hlz hG
    intro D hE tkE FE NE offE
    have hne := off_mem1 offE
    dsimp only
    try k_fold
    k_steps
    rename News _ _ _ (_ :: _ :: led) => lN
    exact midX (led := fun (_ : Unit) => led) (P := fun _ => True) () _ hkk (by assumption) lN (fun p hp => .tail _ (.tail _ hp)) trivial
noncomputable def toldI (c : Int) : List Int := [(fnd "-xSs" (fmcp (40960 + c) 3)).fdiv 2, (fnd "-xSs" (fmcp (40960 + c) 6)).fdiv 2, (fnd "-xTt" (fmcp (40960 + c) 9)).fdiv 2, fnd "-r" (fmcp (40960 + c) 1), fnd "-w" (fmcp (40960 + c) 2), (fnd "-xSs" (fmcp (40960 + c) 3)).fmod 2, fnd "-r" (fmcp (40960 + c) 4), fnd "-w" (fmcp (40960 + c) 5), (fnd "-xSs" (fmcp (40960 + c) 6)).fmod 2, fnd "-r" (fmcp (40960 + c) 7), fnd "-w" (fmcp (40960 + c) 8), (fnd "-xTt" (fmcp (40960 + c) 9)).fmod 2]
theorem ne_of_get {h : Heap} {l I : Addr} {o : Obj} (g : h.get? l = none) (e : h.get? I = some o) : @Ne Nat l I := by
  rintro rfl
  rw [g] at e; cases e
noncomputable def ToldAt (a b : Int) (i : Nat) (o : Obj) : Prop := ∃ vs k, o = PySem.W.listOf (vs : List Value).toArray k ∧ IntsAre vs (toldI (if i = 0 then a else b))
theorem words63 : True := by
  k_with "call ref" => ((with_reducible show wpAny _ _ (call (Value.ref 129) _ _) _ _ _); refine Held.out ?_)
  trivial
theorem d5 {s : Shared} {m : Str → Option Value} {rest : List (Addr × Obj)} {o7 : Obj} {v7 : Option Value} {p la : Addr} {lv : List Value} {kl k kp : Nat} {a b : Int} {t1 t2 tk : Tok} (X : Ctx0 w mean mg mb base h₀ sc vs ns) (F : Fr h₀ L s.heap m) (N : News h₀ L s.heap ((L + 7, o7) :: rest))
    (c7 : o7.data = .cell v7) (off : OwnOff rest [L + 7])
    (hp : (p, PySem.W.listOf #[Value.str (listing a) t1, Value.str (listing b) t2] kp) ∈ rest) (hw : (la, PySem.W.listOf lv.toArray kl) ∈ rest)
    (e1 : m (Str.ofString "lists") = some (.ref la)) (e2 : m (Str.ofString "k") = some (.int (k : Int) tk)) (hk : lv[k]? = some (.ref p)) (hk1 : k < 11) :
    wpAny (model Challenge.rw_op0029_01.row.prog w) (callerA.deeper (lawEnv L fa cd)) (exec (l2St 4) (lawEnv L fa cd)) (Nx (MidX h₀ L m s (fun (z : Addr × Addr × Addr × List Value × List Value × Nat × Nat × Obj) => (L + 7, z.2.2.2.2.2.2.2) :: (z.1, lst [.ref z.2.1, .ref z.2.2.1]) :: (z.2.1, PySem.W.listOf z.2.2.2.1.toArray z.2.2.2.2.2.1) :: (z.2.2.1, PySem.W.listOf z.2.2.2.2.1.toArray z.2.2.2.2.2.2.1) :: rest)
      (fun z => z.2.2.2.2.2.2.2.data = .cell (some (.ref z.1)) ∧ IntsAre z.2.2.2.1 (toldI a) ∧ IntsAre z.2.2.2.2.1 (toldI b)))) (fun _ _ => False) s := by
  have B := X.below
  have T := X.top
  have KX := X.part
  clear X
  revert KX
  k_fill
  intro KX
  rw [L2S4.2]
  dsimp only [lawEnv, L2S4, LNM, LSC]
  obtain ⟨hh, gn, dr, tok, os⟩ := s
  dsimp only at N F ⊢
  have hkk : ∀ p ∈ [(Str.ofString "lists", Value.ref la), (Str.ofString "k", Value.int (k : Int) tk)], m p.1 = some p.2 := by simp only [List.forall_mem_cons]; exact ⟨e1, e2, fun _ h => nomatch h⟩
  rw [kst_self hkk] at F
  dsimp only [kstB] at F
  have hx : lv.toArray[(k : Int).toNat]? = some (.ref p) := by simpa using hk
  have hp' : (p, PySem.W.listOf #[Value.str (listing a) t1, Value.str (listing b) t2] kp) ∈ (L + 7, o7) :: rest := .tail _ hp
  try k_fold
  k_steps
  refine Held.mk ?_
  intro g'
  refine rest_obj (ToldAt a b) (fun ls => .inr ⟨_, List.mem_append_left _ hp', rfl, _, rfl⟩) ?_ ?_
  · intro i v I oI C oC D m₂ zs nw h tk' E' hi hv hC hx' hsub F' N' off ne
    have hv' : ∃ tv, v = .str (listing (if i = 0 then a else b)) tv := by
      have hi2 : i < 2 := hi
      have hc : i = 0 ∨ i = 1 := by omega
      rcases hc with rfl | rfl
      · exact ⟨t1, (Option.some.inj hv).symm⟩
      · exact ⟨t2, (Option.some.inj hv).symm⟩
    obtain ⟨tv, rfl⟩ := hv'
    generalize hcc : (if i = 0 then a else b) = c at *
    have hlis : listing c = ⟨#[fmcp (40960 + c) 0, fmcp (40960 + c) 1, fmcp (40960 + c) 2, fmcp (40960 + c) 3, fmcp (40960 + c) 4, fmcp (40960 + c) 5, fmcp (40960 + c) 6, fmcp (40960 + c) 7, fmcp (40960 + c) 8, fmcp (40960 + c) 9]⟩ := rfl
    generalize listing c = W at *
    dsimp only
    try k_fold
    k_steps
    refine Held.mk ?_
    refine use (c_told w mean mg mb h W _ _ _ _ _ _ _ _ _ _ tv hlis) (by k_asm) F' (by k_asm) N' (by k_asm) ?_ (by decide) (by decide) rfl ?_
    · first | exact rfl | assumption
    intro v' h2 tk2 F2 N2 st2 ev2
    obtain ⟨l, vs', k', rfl, g1, g2, g3⟩ := ev2
    have nL : l ≠ L := by
      obtain ⟨o, es, ep, ho, _⟩ := F'.ns
      rintro rfl
      rw [ho] at g2; cases g2
    have n0 : h₀.get? l = none := by
      cases e : h₀.get? l with
      | none => rfl
      | some o => have := F'.keep l o e; rw [g2] at this; cases this
    refine ObEnd.intro F2 (fun p hp => ?_) (fun p hp => hp) ⟨vs', k', rfl, hcc ▸ g3⟩ (ne_of_get g2 (N' (I, oI) (.head _)).1) (ne_of_get g2 (N' (C, oC) (.tail _ (.head _))).1) (ne_of_get g2 (N' (D, lst zs) (.tail _ (.tail _ (.head _)))).1)
    rcases List.mem_cons.mp hp with rfl | hp
    · exact ⟨g1, nL, n0⟩
    · exact N2 p hp
  · intro ls hll hG
    obtain ⟨⟨b0, u0⟩, ⟨b1, u1⟩, rfl⟩ := list2 hll
    obtain ⟨vs0, k0, e0, i0⟩ := hG 0 _ rfl
    obtain ⟨vs1, k1, e1', i1⟩ := hG 1 _ rfl
    dsimp only at e0 e1'
    subst e0 e1'
    clear hG hll
    intro D hE tkE FE NE offE
    dsimp only [List.map_cons, List.map_nil, List.cons_append] at NE offE ⊢
    have off7 : OwnOff (rest ++ [(b0, PySem.W.listOf vs0.toArray k0), (b1, PySem.W.listOf vs1.toArray k1)]) [L + 7] := by
      have z7 := (NE (L + 7, o7) (.tail _ (.head _))).1
      intro p hp b hb
      rw [List.mem_singleton.mp hb]
      rcases List.mem_append.mp hp with hp1 | hp1
      · exact off p hp1 _ (.head _)
      · have zp := (NE p (.tail _ (.tail _ hp))).1
        have hnc : ∃ a n, p.2.data = .seq a n := by
          rcases List.mem_cons.mp hp1 with rfl | hp1
          · exact ⟨_, _, rfl⟩
          · rw [List.mem_singleton.mp hp1]; exact ⟨_, _, rfl⟩
        obtain ⟨aa, nn, hd⟩ := hnc
        intro e
        rw [e, z7] at zp
        have := Option.some.inj zp
        rw [← this, c7] at hd
        cases hd
    have mrest : ∀ p ∈ rest, p ∈ rest ++ [(b0, PySem.W.listOf vs0.toArray k0), (b1, PySem.W.listOf vs1.toArray k1)] := fun p hp => List.mem_append_left _ hp
    have mb0 : (b0, PySem.W.listOf vs0.toArray k0) ∈ rest ++ [(b0, PySem.W.listOf vs0.toArray k0), (b1, PySem.W.listOf vs1.toArray k1)] := List.mem_append_right _ (.head _)
    have mb1 : (b1, PySem.W.listOf vs1.toArray k1) ∈ rest ++ [(b0, PySem.W.listOf vs0.toArray k0), (b1, PySem.W.listOf vs1.toArray k1)] := List.mem_append_right _ (.tail _ (.head _))
    generalize rest ++ [(b0, PySem.W.listOf vs0.toArray k0), (b1, PySem.W.listOf vs1.toArray k1)] = nw at *
    have hne := off_mem1 offE
    have hD7 : @Ne Nat (L + 7) D := hne _ (.head _)
    clear off hp' hx
    try k_fold
    k_steps
    rename News _ _ _ (_ :: _ :: nw) => lN
    exact midX (D, b0, b1, vs0, vs1, k0, k1, _) _ hkk (by assumption) lN (fun p hp => by
      exact memc hp (.tail _ (.head _)) (fun p hp => memc hp (.head _) (fun p hp => memc hp (.tail _ (.tail _ mb0)) (fun p hp => memc hp (.tail _ (.tail _ mb1)) (fun p hp => .tail _ (.tail _ (mrest p hp))))))) ⟨by assumption, i0, i1⟩
end lawK
end Mine
theorem Mine.none65 : True := by
  k_with_none
  trivial
end

/- LawM -/
section
theorem Mine.none67 : True := by
  k_with_none
  trivial
open PySem PySem.W PyProof.Rows PySem.Calls PySem.Spec
open PyProof.Rows.LCg
set_option maxRecDepth 100000
set_option maxHeartbeats 4000000
set_option linter.all false
namespace Mine
section lawM
variable {w : World} {mean : ExcName → Option Value} {mg mb : Str → Option Value} {base h₀ : Heap} {sc : Addr} {vs : List Value} {ns : List Int} {L fa : Addr} {cd : Value}
theorem words66 : True := by
  k_with "subscriptTail" => ((with_reducible show wpAny _ _ (subscriptTail (PySem.Expr.Name (PySem.Str.ofString "both") _) _ (Value.ref _) (Value.int _ _)) _ _ _); k_dflt (refine item_listR (isList_led (by k_asm) (by assumption)) (by decide) (by decide) (by rfl) ?_))
  k_with "binaryOp Add ref ref" => (refine Held.out ?_)
  k_with "compareOp In int ref" => ((with_reducible show wpAny _ _ (compareOp CmpOp.In (Value.int _ _) (Value.ref _)) _ _ _); k_dflt (refine in_none (News.isList (by k_asm) (.head _)) (by assumption) (by assumption) ?_))
  trivial
theorem d6 {s : Shared} {m : Str → Option Value} {led : List (Addr × Obj)} {o7 : Obj} {b b0 b1 : Addr} {vs0 vs1 : List Value} {k0 k1 : Nat} {q0 q1 : List Int} (X : Ctx0 w mean mg mb base h₀ sc vs ns) (F : Fr h₀ L s.heap m) (N : News h₀ L s.heap led)
    (h7 : (L + 7, o7) ∈ led) (c7 : o7.data = .cell (some (.ref b))) (hb : (b, lst [.ref b0, .ref b1]) ∈ led) (hb0 : (b0, PySem.W.listOf vs0.toArray k0) ∈ led) (hb1 : (b1, PySem.W.listOf vs1.toArray k1) ∈ led)
    (i0 : IntsAre vs0 q0) (i1 : IntsAre vs1 q1) (l0 : q0.length = 12) (l1 : q1.length = 12) (n0 : ∀ x ∈ q0, x ≠ -1) (n1 : ∀ x ∈ q1, x ≠ -1) :
    wpAny (model Challenge.rw_op0029_01.row.prog w) (callerA.deeper (lawEnv L fa cd)) (exec (l2St 5) (lawEnv L fa cd)) (Nx (MidX h₀ L m s (fun (_ : Unit) => led) (fun _ => True))) (fun _ _ => False) s := by
  have B := X.below
  have T := X.top
  have KX := X.part
  clear X
  revert KX
  k_fill
  intro KX
  rw [L2S5.2]
  dsimp only [lawEnv, L2S5, LNM, LSC]
  obtain ⟨hh, gn, dr, tok, os⟩ := s
  dsimp only at N F ⊢
  try k_fold
  k_steps
  refine Held.mk ?_
  refine kmk_add_ints F N (News.isList N hb0) (News.isList N hb1) i0 i1 (fun D us h' F' N' hlt hI => ?_) (by rw [l0, l1, sizeLine_eq]; decide)
  have hno : ∀ x ∈ q0 ++ q1, x ≠ -1 := fun x hx => (List.mem_append.mp hx).elim (n0 x) (n1 x)
  dsimp only
  try k_fold
  k_steps
  exact midX (led := fun (_ : Unit) => led) (P := fun _ => True) () [] (fun _ h => nomatch h) F' N' (fun p hp => .tail _ hp) trivial
end lawM
end Mine
theorem Mine.none68 : True := by
  k_with_none
  trivial
end

/- Block2 -/
section
open PySem PySem.W PyProof.Rows PySem.Calls PySem.Spec
open PyProof.Rows.LCg
set_option maxRecDepth 100000
set_option linter.all false
set_option maxHeartbeats 4000000
namespace Mine
section
variable {prog : Program} {w : World} {A : Around} {E : Value → Shared → Prop} {R : Result → Shared → Prop} {s : Shared} {h₀ : Heap} {L : Addr} {m : Str → Option Value} {env : Env}
theorem turn_two0 (elt t1 i1 t2 i2 : PySem.Expr) (scope : Scope) (pos : Pos) (it acc : Value) (env : Env) :
    compTurn (.ListComp elt [⟨t1, i1, [], 0⟩, ⟨t2, i2, [], 0⟩] scope pos) 0 it acc env = (standAt i1.pos >>= fun _ => pyNext it >>= fun r => match r with
      | none => pure (.done .next)
      | some v => letOwnedTupleGo t1 it v >>= fun _ => assign t1 env v >>= fun _ => eval i2 env >>= fun x => standAt i2.pos >>= fun _ => foldedSetIterable i2 env x >>= fun x =>
        holding [x] (pyIter x) >>= fun it2 => runOwn (.compStart (.ListComp elt [⟨t1, i1, [], 0⟩, ⟨t2, i2, [], 0⟩] scope pos) 1 it2 acc env) env >>= fun _ =>
          again (.compLoop (.ListComp elt [⟨t1, i1, [], 0⟩, ⟨t2, i2, [], 0⟩] scope pos) 0 it acc env)) := by rfl
theorem turn_two1 (elt t1 i1 t2 i2 : PySem.Expr) (scope : Scope) (pos : Pos) (it acc : Value) (env : Env) :
    compTurn (.ListComp elt [⟨t1, i1, [], 0⟩, ⟨t2, i2, [], 0⟩] scope pos) 1 it acc env = (standAt i2.pos >>= fun _ => pyNext it >>= fun r => match r with
      | none => pure (.done .next)
      | some v => letOwnedTupleGo t2 it v >>= fun _ => assign t2 env v >>= fun _ =>
        (eval elt env >>= fun x => call (.builtin "list.append") [acc, x] >>= fun _ => pure ()) >>= fun _ =>
          again (.compLoop (.ListComp elt [⟨t1, i1, [], 0⟩, ⟨t2, i2, [], 0⟩] scope pos) 1 it acc env)) := by rfl
theorem loop_two1 {elt t1 i1 t2 i2 : PySem.Expr} {scope : Scope} {pos : Pos} {it acc : Value} (I : Nat → Shared → Prop)
    (turn : ∀ n s, I n s → wpAny (model prog w) A (pyNext it) (fun r s₁ => match r with
      | none => R (.ok .next) s₁
      | some v => wpAny (model prog w) A (assign t2 env v) (fun _ s₂ => wpAny (model prog w) A (eval elt env) (fun x s₃ =>
          wpAny (model prog w) A (call (.builtin "list.append") [acc, x]) (fun _ s₄ => ∃ m, m < n ∧ I m s₄) (notedBy (model prog w) A env fun e s' => R (.error e) s') s₃)
          (notedBy (model prog w) A env fun e s' => R (.error e) s') s₂) (notedBy (model prog w) A env fun e s' => R (.error e) s') s₁) (notedBy (model prog w) A env fun e s' => R (.error e) s') s)
    (n : Nat) (h : I n s) (ht : ∀ v, letOwnedTupleGo t2 it v = pure () := by intro _; rfl) :
    codeAny (model prog w) A (.compLoop (.ListComp elt [⟨t1, i1, [], 0⟩, ⟨t2, i2, [], 0⟩] scope pos) 1 it acc env) R s := by
  refine codeAny_loop rfl I (fun n s hI => ?_) n h
  show wpAny _ A ((compTurn (.ListComp elt [⟨t1, i1, [], 0⟩, ⟨t2, i2, [], 0⟩] scope pos) 1 it acc env).onRaise (fun x => do noteFrame x env; theTreesLotGoes x)) _ _ s
  refine wpAny_noted ?_
  rw [turn_two1]
  refine wpAny_bind (wpAny_standAt (wpAny_bind (wpAny_mono (turn n s hI) (fun r s₁ h₁ => ?_) fun _ _ h' => h')))
  cases r with
  | none => exact wpAny_pure h₁
  | some v =>
    refine wpAny_bind (wpAny_of_eq (ht v) ?_)
    exact wpAny_bind (wpAny_mono h₁ (fun _ s₂ h₂ => wpAny_bind (wpAny_bind (wpAny_mono h₂ (fun x s₃ h₃ => wpAny_bind (wpAny_mono h₃
      (fun _ s₄ h₄ => wpAny_pure (wpAny_pure ⟨rfl, h₄⟩)) fun _ _ h' => h')) fun _ _ h' => h'))) fun _ _ h' => h')
theorem start_two1 {elt t1 i1 t2 i2 : PySem.Expr} {scope : Scope} {pos : Pos} {it acc : Value}
    (h0 : codeAny (model prog w) A (.compLoop (.ListComp elt [⟨t1, i1, [], 0⟩, ⟨t2, i2, [], 0⟩] scope pos) 1 it acc env) R s)
    (h : wpAny (model prog w) A (pyIter it) (fun it' s' => codeAny (model prog w) A (.compLoop (.ListComp elt [⟨t1, i1, [], 0⟩, ⟨t2, i2, [], 0⟩] scope pos) 1 it' acc env) R s')
      (notedBy (model prog w) A env fun x s' => R (.error x) s') s) :
    codeAny (model prog w) A (.compStart (.ListComp elt [⟨t1, i1, [], 0⟩, ⟨t2, i2, [], 0⟩] scope pos) 1 it acc env) R s := by
  refine codeAny_of_tree ?_
  show wpAny _ _ ((compStart (.ListComp elt [⟨t1, i1, [], 0⟩, ⟨t2, i2, [], 0⟩] scope pos) 1 it acc env).onRaise (fun x => do noteFrame x env; standAt theWindowsPlace)) _ _ s
  refine wpAny_notedAt ?_
  unfold compStart
  show wpAny _ _ (ask >>= _) _ _ s
  refine wpAny_bind (wpAny_askSetting (wpAny_ite ?_))
  split
  · first
      | exact wpAny_bind (wpAny_pure (wpAny_pure (And.intro rfl h0)))
      | exact wpAny_pure (And.intro rfl h0)
  · first
      | exact wpAny_bind (wpAny_rule (wpAny_bind (wpAny_standAt (wpAny_bind (wpAny_mono h (fun it' s' h' => wpAny_pure (And.intro rfl h')) fun _ _ x => x)))))
      | (refine wpAny_bind (wpAny_rule ?_); show wpAny _ _ (standAt i2.pos >>= _) _ _ s; exact wpAny_bind (wpAny_standAt (wpAny_bind (wpAny_mono h (fun it' s' h' => wpAny_pure (And.intro rfl h')) fun _ _ x => x))))
theorem loop_two0 {elt t1 i1 t2 i2 : PySem.Expr} {scope : Scope} {pos : Pos} {it acc : Value} (I : Nat → Shared → Prop)
    (turn : ∀ n s, I n s → wpAny (model prog w) A (pyNext it) (fun r s₁ => match r with
      | none => R (.ok .next) s₁
      | some v => wpAny (model prog w) A (assign t1 env v) (fun _ s₂ => wpAny (model prog w) A (eval i2 env) (fun x s₃ => wpAny (model prog w) A (pyIter x) (fun it2 s₄ =>
          ∀ (E' : Value → Shared → Prop), codeAny (model prog w) A (.compStart (.ListComp elt [⟨t1, i1, [], 0⟩, ⟨t2, i2, [], 0⟩] scope pos) 1 it2 acc env) (fun r s₅ => match r with | .ok _ => ∃ m, m < n ∧ I m s₅ | .error x => E' x s₅) s₄)
          (notedBy (model prog w) A env fun e s' => R (.error e) s') s₃)
          (notedBy (model prog w) A env fun e s' => R (.error e) s') s₂) (notedBy (model prog w) A env fun e s' => R (.error e) s') s₁) (notedBy (model prog w) A env fun e s' => R (.error e) s') s)
    (n : Nat) (h : I n s) (ht : ∀ v, letOwnedTupleGo t1 it v = pure () := by intro _; rfl) (hs : ∀ x, foldedSetIterable i2 env x = pure x := by intro _; rfl) :
    codeAny (model prog w) A (.compLoop (.ListComp elt [⟨t1, i1, [], 0⟩, ⟨t2, i2, [], 0⟩] scope pos) 0 it acc env) R s := by
  refine codeAny_loop rfl I (fun n s hI => ?_) n h
  show wpAny _ A ((compTurn (.ListComp elt [⟨t1, i1, [], 0⟩, ⟨t2, i2, [], 0⟩] scope pos) 0 it acc env).onRaise (fun x => do noteFrame x env; theTreesLotGoes x)) _ _ s
  refine wpAny_noted ?_
  rw [turn_two0]
  refine wpAny_bind (wpAny_standAt (wpAny_bind (wpAny_mono (turn n s hI) (fun r s₁ h₁ => ?_) fun _ _ h' => h')))
  cases r with
  | none => exact wpAny_pure h₁
  | some v =>
    refine wpAny_bind (wpAny_of_eq (ht v) ?_)
    refine wpAny_bind (wpAny_mono h₁ (fun _ s₂ h₂ => wpAny_bind (wpAny_mono h₂ (fun x s₃ h₃ => wpAny_bind (wpAny_standAt (wpAny_bind (wpAny_of_eq (hs x) (wpAny_bind (wpAny_holding (wpAny_mono h₃ (fun it2 s₄ h₄ => ?_) fun _ _ h' => h'))))))) fun _ _ h' => h')) fun _ _ h' => h')
    refine wpAny_bind (wpAny_runOwn ?_)
    refine codeAny_mono (h₄ (cameBackBy (model prog w) A env (notedBy (model prog w) A env fun e s' => R (.error e) s'))) fun r s' hr => ?_
    cases r with
    | ok f =>
      obtain ⟨m, hm, hI'⟩ := hr
      exact wpAny_pure ⟨rfl, m, hm, hI'⟩
    | error x => exact hr
/-- the source of a block of two generators: a range, and a list of two of the ledger -/
inductive SrcT (prog : Program) (w : World) (A : Around) (h₀ : Heap) (L : Addr) (m : Str → Option Value) (env : Env) (elt i2 : PySem.Expr) (x y : Str) (scope : Scope) (cl : List (Str × Addr)) (Q : Value → Shared → Prop) (xv : Value) (s₁ : Shared) : Prop
  | mk (r : Addr) (t u v : Tok) (n : Nat) (news : List (Addr × Obj)) (G : Nat → Obj → Prop) (b : Addr) (v0 v1 : Value) (e : xv = .ref r) (hh : A.handled = none) (F : Fr h₀ L s₁.heap m) (N : News h₀ L s₁.heap news) (hb : (b, lst [v0, v1]) ∈ news) (hr : IsRange s₁.heap r 0 (n : Nat) 1 t u v) (hsm : Builtin.Range.small 0 (n : Nat) 1 = true) (hn : Builtin.Range.rangeSize 0 (n : Nat) 1 = ((n : Nat) : Int)) (hsz : n * 2 ≤ sizeLine)
    (inner : ∀ C led h tk (E' : Value → Shared → Prop), (∀ p ∈ news, p ∈ led) → Fr h₀ L h m → News h₀ L h led →
      wpAny (model prog w) A (eval i2 (compEnvC scope cl C env)) (fun xv2 s2 => xv2 = .ref b ∧ ∃ h' tk', s2 = { s₁ with heap := h', toks := tk' } ∧ Fr h₀ L h' m ∧ News h₀ L h' led) E' { s₁ with heap := h, toks := tk })
    (turn : ∀ i j vj t I oI C oC D I2 oI2 ys nw m₂ h tk (E' : Value → Shared → Prop), i < n → j < 2 → [v0, v1][j]? = some vj → NsObj oC m₂ → m₂ x = some (.int ((i : Nat) : Int) t) → m₂ y = some vj → (∀ p ∈ news, p ∈ nw) → Fr h₀ L h m → News h₀ L h ((I2, oI2) :: (I, oI) :: (C, oC) :: (D, lst ys) :: nw) →
      wpAny (model prog w) A (eval elt (compEnvC scope cl C env)) (ObEnd4 h₀ L m { s₁ with heap := h, toks := tk } I C D I2 ((I2, oI2) :: (I, oI) :: (C, oC) :: (D, lst ys) :: nw) (G (2 * i + j))) E' { s₁ with heap := h, toks := tk })
    (fin : ∀ (ls : List (Addr × Obj)) D h tk, ls.length = 2 * n → (∀ i p, ls[i]? = some p → G i p.2) → Fr h₀ L h m → News h₀ L h ((D, lst (ls.map fun p => .ref p.1)) :: (news ++ ls)) → (∀ p ∈ news, @Ne Nat p.1 D) → Q (.ref D) { s₁ with heap := h, toks := tk }) : SrcT prog w A h₀ L m env elt i2 x y scope cl Q xv s₁
inductive TwoInv (s₁ : Shared) (n : Nat) (I : Addr) (h₀ : Heap) (L : Addr) (m : Str → Option Value) (news : List (Addr × Obj)) (G : Nat → Obj → Prop) (q : Nat) (s' : Shared) : Prop
  | mk (h' : Heap) (tk i : Nat) (ls : List (Addr × Obj)) (m' : Str → Option Value) (e : s' = { s₁ with heap := h', toks := tk }) (hi : i ≤ n) (hq : q = n + 1 - i) (hl : ls.length = 2 * i) (hit : IsRangeIter h' I ((i : Nat) : Int) ((n : Int) - (i : Nat)) 1) (F : Fr h₀ L h' m) (hn : h'.Ns (I + 2) m')
    (N : News h₀ L h' ((I + 1, lst (ls.map fun p => .ref p.1)) :: (news ++ ls))) (off : ∀ p ∈ ls, @Ne Nat p.1 I ∧ @Ne Nat p.1 (I + 2) ∧ @Ne Nat p.1 (I + 1)) (hG : ∀ j p, ls[j]? = some p → G j p.2) : TwoInv s₁ n I h₀ L m news G q s'
inductive InInv (s₁ : Shared) (n : Nat) (I : Addr) (h₀ : Heap) (L : Addr) (m : Str → Option Value) (news : List (Addr × Obj)) (G : Nat → Obj → Prop) (i : Nat) (J b : Addr) (x : Str) (tk : Tok) (q : Nat) (s' : Shared) : Prop
  | mk (h' : Heap) (tk' j : Nat) (lz : List (Addr × Obj)) (m' : Str → Option Value) (e : s' = { s₁ with heap := h', toks := tk' }) (hj : j ≤ 2) (hq : q = 3 - j) (hl : lz.length = 2 * i + j) (hit : h'.IsListIter J b j) (hitR : IsRangeIter h' I (((i : Nat) : Int) + 1) ((n : Int) - (i : Nat) - 1) 1) (F : Fr h₀ L h' m) (hn : h'.Ns (I + 2) m') (hmx : m' x = some (.int ((i : Nat) : Int) tk))
    (N : News h₀ L h' ((I + 1, lst (lz.map fun p => .ref p.1)) :: (news ++ lz))) (off : ∀ p ∈ lz, @Ne Nat p.1 I ∧ @Ne Nat p.1 (I + 2) ∧ @Ne Nat p.1 (I + 1) ∧ @Ne Nat p.1 J) (hG : ∀ j p, lz[j]? = some p → G j p.2) : InInv s₁ n I h₀ L m news G i J b x tk q s'
theorem ListComp_T {elt iter i2 : PySem.Expr} {x y : Str} {px py : Pos} {scope : Scope} {cl : List (Str × Addr)} {pos : Pos} {Q : Value → Shared → Prop} (F₀ : Fr h₀ L s.heap m)
    (hclos : closureFor scope env = pure cl) (hkind : scope.kind = .function)
    (hnames : ∀ y ∈ scope.names, y.2 = .local → scope.names.lookup y.1 = some .local) (hx : scope.names.lookup x = some .local) (hy : scope.names.lookup y = some .local) (hxy : x ≠ y)
    (hcf : ∀ k, cellsFrom k scope.names cl = cl) (hpc : ∀ h, pushCells h scope.names = h)
    (h : wpAny (model prog w) A (eval iter env) (SrcT prog w A h₀ L m env elt i2 x y scope cl Q) E s)
    (hs : ∀ x, foldedSetIterable iter env x = pure x := by intro _; rfl) (hs2 : ∀ C x, foldedSetIterable i2 (compEnvC scope cl C env) x = pure x := by intro _ _; rfl) :
    wpAny (model prog w) A (eval (.ListComp elt [⟨.Name x px, iter, [], 0⟩, ⟨.Name y py, i2, [], 0⟩] scope pos) env) Q E s := by
  rw [eval_ListComp]
  refine wpAny_comprehension_free (use := none) rfl hs hclos hkind hnames (wpAny_mono h (fun xv s₁ h₁ => ?_) fun _ _ e => e)
  obtain ⟨r, t, u, v, n, news, G, b, v0, v1, rfl, hh, F, N, hb, hr, hsm, hn, hsz, inner, turn, fin⟩ := h₁
  refine open_range (RR := fun acc C => compPost (model prog w) A E none Q acc C) (clf := fun _ => cl) (P := fun _ _ => True) F hr hsm hn hcf (fun _ _ _ => trivial) ?_
  intro I H4 up14 lt1 hLlt hI₀ hit0 acc4 ns3 _
  have fresh₀ : ∀ y : Nat, I ≤ y → h₀.get? y = none := fun y hy => by
    cases e : h₀.get? y with
    | none => rfl
    | some o' => exact absurd (lt1 y o' (F.keep y o' e)) (Nat.not_lt.mpr hy)
  have hLI : L ≠ I := Nat.ne_of_lt hLlt
  have a10 : @Ne Nat (I + 1) I := n10 I
  have a20 : @Ne Nat (I + 2) I := n20 I
  have a21 : @Ne Nat (I + 2) (I + 1) := n21 I
  have a01 : @Ne Nat I (I + 1) := Ne.symm a10
  have a02 : @Ne Nat I (I + 2) := Ne.symm a20
  have a12 : @Ne Nat (I + 1) (I + 2) := Ne.symm a21
  have l1 : @LT.lt Nat _ L (I + 1) := Nat.lt_add_right 1 hLlt
  have l2 : @LT.lt Nat _ L (I + 2) := Nat.lt_add_right 2 hLlt
  have e1 : I ≤ I + 1 := Nat.le_add_right I 1
  have e2 : I ≤ I + 2 := Nat.le_add_right I 2
  have hDL : (I + 1 : Nat) ≠ L := Nat.ne_of_gt (by first | with_reducible assumption | omega)
  have hCL : (I + 2 : Nat) ≠ L := Nat.ne_of_gt (by first | with_reducible assumption | omega)
  have hD₀ : h₀.get? (I + 1) = none := fresh₀ (I + 1) (by first | with_reducible assumption | omega)
  have hC₀ : h₀.get? (I + 2) = none := fresh₀ (I + 2) (by first | with_reducible assumption | omega)
  have ltN : ∀ p ∈ news, @LT.lt Nat _ p.1 I := fun p hp => lt1 _ _ (N p hp).1
  have hkl : ∀ z, scope.names.lookup z = some .local → (compEnvC scope cl (I + 2) env).kindOf z = some .local := fun z hz => lookup_relabel_local hz
  have loop : ∀ s₃ : Shared, s₃ = { s₁ with heap := H4 } →
      codeAny (model prog w) A (.compLoop (.ListComp elt [⟨.Name x px, iter, [], 0⟩, ⟨.Name y py, i2, [], 0⟩] scope pos) 0 (.ref I) (.ref (I + 1)) (compEnvC scope cl (I + 2) env))
        (compPost (model prog w) A E none Q (.ref (I + 1)) (I + 2)) s₃ := by
    rintro s₃ rfl
    refine loop_two0 (hs := hs2 _)
      (TwoInv s₁ n I h₀ L m news G) ?_ (n + 1)
      ⟨H4, _, 0, [], _, rfl, Nat.zero_le _, rfl, rfl, ?_, F.keeps up14, ns3, fun p hp => ?_, (by intro _ h; cases h), (by intro _ _ hj; cases hj)⟩
    · rintro q s' ⟨h', tk, i, ls, m', rfl, hi, rfl, hyl, hit, F', hn', N', off, hG⟩
      have offA : ∀ p ∈ news ++ ls, @Ne Nat p.1 I ∧ @Ne Nat p.1 (I + 2) ∧ @Ne Nat p.1 (I + 1) := fun p hp => by
        rcases List.mem_append.mp hp with hp | hp
        · have := ltN p hp; exact ⟨Nat.ne_of_lt this, Nat.ne_of_lt (Nat.lt_add_right 2 this), Nat.ne_of_lt (Nat.lt_add_right 1 this)⟩
        · exact off p hp
      by_cases hlt : i < n
      · refine wpAny_pyNext_range_item hit (by first | with_reducible assumption | omega) fun h₂ hit₂ hs₂ => ?_
        have k2 : ∀ b o, @Ne Nat b I → h'.get? b = some o → h₂.get? b = some o := fun b o hb e => hs₂.extBut b o hb e
        refine wpAny_assign_Name (wpAny_storeName_local (hkl x hx) (hn'.at' fun o e => k2 _ o (by first | with_reducible assumption | omega) e) (fun h₃ hn₃ hs₃ => ?_) (by simp [compEnvC, relabel, hkind]))
        have k3 : ∀ b o, @Ne Nat b (I + 2) → h₂.get? b = some o → h₃.get? b = some o := fun b o hb e => hs₃.extBut b o hb e
        have k23 : ∀ b o, @Ne Nat b I → @Ne Nat b (I + 2) → h'.get? b = some o → h₃.get? b = some o := fun b o h1 h2 e => k3 b o h2 (k2 b o h1 e)
        have hit₃ : IsRangeIter h₃ I (((i : Nat) : Int) + 1) ((n : Int) - (i : Nat) - 1) 1 := by
          show h₃.get? I = _
          exact k3 I _ (by first | with_reducible assumption | omega) hit₂
        have F₃ : Fr h₀ L h₃ m := ⟨F'.ns.at' fun o e => k23 _ o hLI (Ne.symm hCL) e, fun b o e => k23 b o (fun q => by rw [q, hI₀] at e; cases e) (fun q => by rw [q, hC₀] at e; cases e) (F'.keep b o e), F'.above⟩
        obtain ⟨oC, heC, hoC⟩ := ns_obj hn₃
        have N₃ : News h₀ L h₃ ((I, { cls := .type "range_iterator", data := .fields #[rawInt (((i : Nat) : Int) + 1), rawInt ((n : Int) - (i : Nat) - 1), rawInt 1] }) :: (I + 2, oC) :: (I + 1, lst (ls.map fun p => .ref p.1)) :: (news ++ ls)) := fun p hp => by
          rcases List.mem_cons.mp hp with rfl | hp
          · exact ⟨hit₃, Ne.symm hLI, hI₀⟩
          rcases List.mem_cons.mp hp with rfl | hp
          · exact ⟨heC, hCL, hC₀⟩
          rcases List.mem_cons.mp hp with rfl | hp
          · have z := N' _ List.mem_cons_self
            exact ⟨k23 _ _ (by show @Ne Nat (I + 1) I; first | with_reducible assumption | omega) (by show @Ne Nat (I + 1) (I + 2); first | with_reducible assumption | omega) z.1, z.2⟩
          have z := N' p (List.mem_cons_of_mem _ hp)
          exact ⟨k23 _ _ (offA p hp).1 (offA p hp).2.1 z.1, z.2⟩
        refine wpAny_mono (inner (I + 2) _ h₃ _ _ (fun p hp => .tail _ (.tail _ (.tail _ (List.mem_append_left _ hp)))) F₃ N₃) (fun xv2 s₄ h₄ => ?_) fun _ _ e => e
        obtain ⟨rfl, h₄, tk₄, rfl, F₄, N₄⟩ := h₄
        have hbl : h₄.IsList b #[v0, v1] := ⟨_, (N₄ _ (.tail _ (.tail _ (.tail _ (List.mem_append_left _ hb))))).1, rfl, _, rfl⟩
        refine wpAny_pyIter_list hbl ?_
        dsimp only
        intro E'
        have up5 : ∀ c o, h₄.get? c = some o → (h₄.push { cls := .type "list_iterator", data := .fields #[.ref b, .int 0 0] }).get? c = some o := fun c o e => Heap.get?_push_of_some _ e
        have hit5 : (h₄.push { cls := .type "list_iterator", data := .fields #[.ref b, .int 0 0] }).IsListIter h₄.objs.size b 0 := ⟨_, Heap.get?_push_size _ rfl, rfl, rfl⟩
        have ltJ : ∀ b o, h₄.get? b = some o → @LT.lt Nat _ b h₄.objs.size := fun b o e => Heap.lt_size e
        have hJ₀ : h₀.get? h₄.objs.size = none := next_is_new F₄
        have hLJ : @LT.lt Nat _ L h₄.objs.size := F₄.ns.lt
        generalize hJ : h₄.objs.size = J at *
        generalize hg5 : h₄.push { cls := .type "list_iterator", data := .fields #[.ref b, .int 0 0] } = g5 at *
        clear hg5
        have jI : @LT.lt Nat _ I J := ltJ _ _ (N₄ _ (.head _)).1
        have jC : @LT.lt Nat _ (I + 2) J := ltJ _ _ (N₄ _ (.tail _ (.head _))).1
        have jD : @LT.lt Nat _ (I + 1) J := ltJ _ _ (N₄ _ (.tail _ (.tail _ (.head _)))).1
        have b0 : @Ne Nat I J := Nat.ne_of_lt jI
        have b1 : @Ne Nat (I + 1) J := Nat.ne_of_lt jD
        have b2 : @Ne Nat (I + 2) J := Nat.ne_of_lt jC
        have b0' : @Ne Nat J I := Ne.symm b0
        have b1' : @Ne Nat J (I + 1) := Ne.symm b1
        have b2' : @Ne Nat J (I + 2) := Ne.symm b2
        have jN : ∀ p ∈ news ++ ls, @LT.lt Nat _ p.1 J := fun p hp => ltJ _ _ (N₄ _ (.tail _ (.tail _ (.tail _ hp)))).1
        have loopI : ∀ s₅ : Shared, s₅ = { s₁ with heap := g5, toks := tk₄ } →
            codeAny (model prog w) A (.compLoop (.ListComp elt [⟨.Name x px, iter, [], 0⟩, ⟨.Name y py, i2, [], 0⟩] scope pos) 1 (.ref J) (.ref (I + 1)) (compEnvC scope cl (I + 2) env))
              (fun r s₅ => match r with | .ok _ => ∃ q', q' < n + 1 - i ∧ TwoInv s₁ n I h₀ L m news G q' s₅ | .error x => E' x s₅) s₅ := by
          rintro s₅ rfl
          refine loop_two1
            (InInv s₁ n I h₀ L m news G i J b x tk) ?_ 3
            ⟨g5, tk₄, 0, ls, _, rfl, Nat.zero_le _, rfl, hyl, hit5, up5 _ _ (N₄ _ (.head _)).1, F₄.keeps up5, hoC.ns (up5 _ _ (N₄ _ (.tail _ (.head _))).1), by simp, fun p hp => ?_, fun p hp => ?_, hG⟩
          · rintro q' s' ⟨h', tk', j, lz, m', rfl, hj, rfl, hyl', hitL, hitR, F', hn', hmx, N', off', hG'⟩
            have offA' : ∀ p ∈ news ++ lz, @Ne Nat p.1 I ∧ @Ne Nat p.1 (I + 2) ∧ @Ne Nat p.1 (I + 1) ∧ @Ne Nat p.1 J := fun p hp => by
              rcases List.mem_append.mp hp with hp | hp
              · have := ltN p hp; exact ⟨Nat.ne_of_lt this, Nat.ne_of_lt (Nat.lt_add_right 2 this), Nat.ne_of_lt (Nat.lt_add_right 1 this), Nat.ne_of_lt (Nat.lt_trans this jI)⟩
              · exact off' p hp
            have hbl' : h'.IsList b [v0, v1].toArray := ⟨_, (N' _ (.tail _ (List.mem_append_left _ hb))).1, rfl, _, rfl⟩
            by_cases hj2 : j < 2
            · obtain ⟨vj, hvj⟩ : ∃ vj, [v0, v1][j]? = some vj := by
                have : j = 0 ∨ j = 1 := by first | with_reducible assumption | omega
                rcases this with rfl | rfl
                · exact ⟨v0, rfl⟩
                · exact ⟨v1, rfl⟩
              refine wpAny_pyNext_list_item hitL hbl' (x := vj) (by simpa using hvj) fun h₂ hit₂ hs₂ => ?_
              have k2 : ∀ b o, @Ne Nat b J → h'.get? b = some o → h₂.get? b = some o := fun b o hb e => hs₂.extBut b o hb e
              refine wpAny_assign_Name (wpAny_storeName_local (hkl y hy) (hn'.at' fun o e => k2 _ o (by first | with_reducible assumption | omega) e) (fun h₃ hn₃ hs₃ => ?_) (by simp [compEnvC, relabel, hkind]))
              have k3 : ∀ b o, @Ne Nat b (I + 2) → h₂.get? b = some o → h₃.get? b = some o := fun b o hb e => hs₃.extBut b o hb e
              have k23 : ∀ b o, @Ne Nat b J → @Ne Nat b (I + 2) → h'.get? b = some o → h₃.get? b = some o := fun b o h1 h2 e => k3 b o h2 (k2 b o h1 e)
              obtain ⟨oJ, heJ, hdJ⟩ := id hit₂
              have heJ₃ := k3 J oJ (by first | with_reducible assumption | omega) heJ
              have F₃ : Fr h₀ L h₃ m := ⟨F'.ns.at' fun o e => k23 _ o (Nat.ne_of_lt hLJ) (Ne.symm hCL) e, fun b o e => k23 b o (fun q => by rw [q, hJ₀] at e; cases e) (fun q => by rw [q, hC₀] at e; cases e) (F'.keep b o e), F'.above⟩
              obtain ⟨oC, heC, hoC⟩ := ns_obj hn₃
              have hR₃ : h₃.get? I = some { cls := .type "range_iterator", data := .fields #[rawInt (((i : Nat) : Int) + 1), rawInt ((n : Int) - (i : Nat) - 1), rawInt 1] } := k23 I _ (by first | with_reducible assumption | omega) (by first | with_reducible assumption | omega) hitR
              have N₃ : News h₀ L h₃ ((J, oJ) :: (I, { cls := .type "range_iterator", data := .fields #[rawInt (((i : Nat) : Int) + 1), rawInt ((n : Int) - (i : Nat) - 1), rawInt 1] }) :: (I + 2, oC) :: (I + 1, lst (lz.map fun p => .ref p.1)) :: (news ++ lz)) := fun p hp => by
                rcases List.mem_cons.mp hp with rfl | hp
                · exact ⟨heJ₃, Ne.symm (Nat.ne_of_lt hLJ), hJ₀⟩
                rcases List.mem_cons.mp hp with rfl | hp
                · exact ⟨hR₃, Ne.symm hLI, hI₀⟩
                rcases List.mem_cons.mp hp with rfl | hp
                · exact ⟨heC, hCL, hC₀⟩
                rcases List.mem_cons.mp hp with rfl | hp
                · have z := N' _ List.mem_cons_self
                  exact ⟨k23 _ _ (by show @Ne Nat (I + 1) J; first | with_reducible assumption | omega) (by show @Ne Nat (I + 1) (I + 2); first | with_reducible assumption | omega) z.1, z.2⟩
                have z := N' p (List.mem_cons_of_mem _ hp)
                exact ⟨k23 _ _ (offA' p hp).2.2.2 (offA' p hp).2.1 z.1, z.2⟩
              refine wpAny_mono (turn i j vj tk I _ (I + 2) oC (I + 1) J oJ _ _ _ h₃ _ _ hlt hj2 hvj hoC (by rw [if_neg hxy]; exact hmx) (by simp) (fun p hp => List.mem_append_left _ hp) F₃ N₃) (fun yv s₄ hq₄ => ?_) fun _ _ e => e
              obtain ⟨l, o, h₆, tk₆, rfl, hGo, rfl, F₆, N₆, n1, n2, n3, n4⟩ := hq₄
              have zJ := (N₆ (J, oJ) (.tail _ (.head _))).1
              have zI := (N₆ _ (.tail _ (.tail _ (.head _)))).1
              have zC := (N₆ (I + 2, oC) (.tail _ (.tail _ (.tail _ (.head _))))).1
              have zD := (N₆ (I + 1, lst (lz.map fun p => .ref p.1)) (.tail _ (.tail _ (.tail _ (.tail _ (.head _)))))).1
              refine append_at (hsz := by rw [List.size_toArray, List.length_map, hyl']; exact Nat.le_trans (by first | with_reducible assumption | omega) hsz) zD fun h₇ hs₇ hD₇ => ?_
              have k7 : ∀ b o, @Ne Nat b (I + 1) → h₆.get? b = some o → h₇.get? b = some o := fun b o hb e => hs₇.extBut b o hb e
              refine ⟨3 - (j + 1), by first | with_reducible assumption | omega, h₇, tk₆, j + 1, lz ++ [(l, o)], _, rfl, hj2, rfl, by rw [List.length_append, List.length_singleton, hyl']; first | with_reducible assumption | omega, ⟨oJ, k7 _ _ (by first | with_reducible assumption | omega) zJ, hdJ⟩, k7 _ _ (by first | with_reducible assumption | omega) zI, F₆.change hs₇ hDL hD₀, (hoC.ns zC).at' fun o e => k7 _ o (by first | with_reducible assumption | omega) e, ?_, fun p hp => ?_, fun p hp => ?_, fun j' p hj' => ?_⟩
              · rw [if_neg hxy]; exact hmx
              · rcases List.mem_cons.mp hp with rfl | hp
                · rw [List.map_append]
                  exact ⟨hD₇.trans (congrArg some (lst_snoc _ _)), hDL, hD₀⟩
                rw [← List.append_assoc] at hp
                rcases List.mem_append.mp hp with hp | hp
                · have z := N₆ p (.tail _ (.tail _ (.tail _ (.tail _ (.tail _ hp)))))
                  exact ⟨k7 _ _ (offA' p hp).2.2.1 z.1, z.2⟩
                · rw [List.mem_singleton.mp hp]
                  have z := N₆ (l, o) (.head _)
                  exact ⟨k7 _ _ n3 z.1, z.2⟩
              · rcases List.mem_append.mp hp with hp | hp
                · exact off' p hp
                · rw [List.mem_singleton.mp hp]; exact ⟨n1, n2, n3, n4⟩
              · rcases Nat.lt_or_ge j' lz.length with hlt₂ | hge
                · rw [List.getElem?_append_left hlt₂] at hj'
                  exact hG' j' p hj'
                · rw [List.getElem?_append_right hge] at hj'
                  have h0 : j' - lz.length = 0 := by
                    rcases Nat.eq_zero_or_pos (j' - lz.length) with h | h
                    · exact h
                    · rw [List.getElem?_eq_none (by simp only [List.length_cons, List.length_nil]; first | with_reducible assumption | omega)] at hj'; cases hj'
                  rw [h0] at hj'
                  have hji : j' = 2 * i + j := by first | with_reducible assumption | omega
                  simp only [List.getElem?_cons_zero, Option.some.injEq] at hj'
                  rw [← hj', hji]; exact hGo
            · obtain rfl : j = 2 := by first | with_reducible assumption | omega
              refine wpAny_pyNext_list_end hh hitL hbl' (by simp) fun h₂ he₂ => ?_
              have k2 : ∀ b o, @Ne Nat b J → h'.get? b = some o → h₂.get? b = some o := fun b o hb e => he₂ b o hb e
              refine ⟨n + 1 - (i + 1), by first | with_reducible assumption | omega, h₂, tk', i + 1, lz, m', rfl, hlt, rfl, by first | with_reducible assumption | omega, ?_, ⟨F'.ns.at' fun o e => k2 _ o (Nat.ne_of_lt hLJ) e, fun b o e => k2 b o (fun q => by rw [q, hJ₀] at e; cases e) (F'.keep b o e), F'.above⟩, hn'.at' fun o e => k2 _ o (by first | with_reducible assumption | omega) e, fun p hp => ?_, fun p hp => ⟨(off' p hp).1, (off' p hp).2.1, (off' p hp).2.2.1⟩, hG'⟩
              · show h₂.get? I = _
                have e1 : ((i + 1 : Nat) : Int) = (i : Int) + 1 := by first | with_reducible assumption | omega
                have e2 : (n : Int) - ((i + 1 : Nat) : Int) = (n : Int) - (i : Nat) - 1 := by first | with_reducible assumption | omega
                rw [e2, e1]
                exact k2 I _ (by first | with_reducible assumption | omega) hitR
              · refine ⟨k2 _ _ ?_ (N' p hp).1, (N' p hp).2⟩
                rcases List.mem_cons.mp hp with rfl | hp
                · show @Ne Nat (I + 1) J; first | with_reducible assumption | omega
                · exact (offA' p hp).2.2.2
          · rcases List.mem_cons.mp hp with rfl | hp
            · have z := N₄ _ (.tail _ (.tail _ (.head _)))
              exact ⟨up5 _ _ z.1, z.2⟩
            · have z := N₄ _ (.tail _ (.tail _ (.tail _ hp)))
              exact ⟨up5 _ _ z.1, z.2⟩
          · have := jN p (List.mem_append_right _ hp)
            exact ⟨(off p hp).1, (off p hp).2.1, (off p hp).2.2, Nat.ne_of_lt this⟩
        exact start_two1 (loopI _ rfl) (wpAny_pyIter_listiter hit5 (loopI _ rfl))
      · obtain rfl : i = n := Nat.le_antisymm hi (Nat.not_lt.mp hlt)
        refine wpAny_pyNext_range_end hh hit (by first | with_reducible assumption | omega) fun h₂ he₂ => ?_
        refine ⟨m', hn'.at' fun o e => he₂ _ o (show @Ne Nat (I + 2) I by first | with_reducible assumption | omega) e, fun h₃ hs₃ => ?_⟩
        have keep2 : ∀ b o, @Ne Nat b I → @Ne Nat b (I + 2) → h'.get? b = some o → h₃.get? b = some o := fun b o h1 h2 e => hs₃.extBut b o h2 (he₂ b o h1 e)
        refine fin ls (I + 1) h₃ tk hyl hG ⟨F'.ns.at' fun o e => keep2 _ o hLI (Ne.symm hCL) e, fun b o e => keep2 b o (fun q => by rw [q, hI₀] at e; cases e) (fun q => by rw [q, hC₀] at e; cases e) (F'.keep b o e), F'.above⟩ (fun p hp => ?_) fun p hp => Nat.ne_of_lt (Nat.lt_add_right 1 (ltN p hp))
        refine ⟨keep2 _ _ ?_ ?_ (N' p hp).1, (N' p hp).2⟩
        · rcases List.mem_cons.mp hp with rfl | hp
          · show @Ne Nat (I + 1) I; first | with_reducible assumption | omega
          · exact (offA p hp).1
        · rcases List.mem_cons.mp hp with rfl | hp
          · show @Ne Nat (I + 1) (I + 2); first | with_reducible assumption | omega
          · exact (offA p hp).2.1
    · show H4.get? I = _
      have : H4.get? I = _ := hit0
      simpa using this
    · rw [List.append_nil] at hp
      rcases List.mem_cons.mp hp with rfl | hp
      · exact ⟨acc4, hDL, hD₀⟩
      · exact ⟨up14 _ _ (N p hp).1, (N p hp).2⟩
  refine codeAny_compStart_list (loop _ rfl) (wpAny_pyIter_rangeiter (x := 0) (left := ((n : Nat) : Int)) (step := 1) hit0 (loop _ rfl))
end
end Mine
end

/- LawN -/
section
theorem Mine.none70 : True := by
  k_with_none
  trivial
open PySem PySem.W PyProof.Rows PySem.Calls PySem.Spec
open PyProof.Rows.LCg
set_option maxRecDepth 100000
set_option maxHeartbeats 4000000
set_option linter.all false
namespace Mine
section lawN
variable {w : World} {mean : ExcName → Option Value} {mg mb : Str → Option Value} {base h₀ : Heap} {sc : Addr} {vs : List Value} {ns : List Int} {L fa : Addr} {cd : Value}
noncomputable def colQ (q : List Int) (j : Nat) : Int × Int × Int × Int := (q.getD j 0, q.getD (j + 3) 0, q.getD (j + 6) 0, q.getD (j + 9) 0)
noncomputable def toldQ (q0 q1 : List Int) (e : Nat) : Int × Int × Int × Int := colQ (if e % 2 = 0 then q0 else q1) (e / 2)
theorem colQ_bits {q : List Int} (hl : q.length = 12) (hB : ∀ x ∈ q, Bit x) {j : Nat} (hj : j < 3) : Bits4 (colQ q j) :=
  ⟨hB _ (getD_mem (by omega)), hB _ (getD_mem (by omega)), hB _ (getD_mem (by omega)), hB _ (getD_mem (by omega))⟩
theorem toldQ_bits {q0 q1 : List Int} (l0 : q0.length = 12) (l1 : q1.length = 12) (hB0 : ∀ x ∈ q0, Bit x) (hB1 : ∀ x ∈ q1, Bit x) {e : Nat} (he : e < 6) : Bits4 (toldQ q0 q1 e) := by
  unfold toldQ
  split
  · exact colQ_bits l0 hB0 (by omega)
  · exact colQ_bits l1 hB1 (by omega)
theorem col_item {ws : List Value} {q : List Int} (h : IntsAre ws q) {j : Nat} (hj : j < q.length) : ∃ t, ws.toArray[((j : Nat) : Int).toNat]? = some (Value.int (q.getD j 0) t) := by
  obtain ⟨t, e⟩ := ints_getD h hj
  refine ⟨t, ?_⟩
  rw [Int.toNat_natCast, ← e]
  simpa using getD_some (d := Value.none) (l := ws) (i := j) (by rw [h.length]; exact hj)
theorem toldQ_even (q0 q1 : List Int) (i : Nat) : toldQ q0 q1 (2 * i + 0) = colQ q0 i := by
  unfold toldQ
  rw [if_pos (by omega), show (2 * i + 0) / 2 = i by omega]
theorem toldQ_odd (q0 q1 : List Int) (i : Nat) : toldQ q0 q1 (2 * i + 1) = colQ q1 i := by
  unfold toldQ
  rw [if_neg (by omega), show (2 * i + 1) / 2 = i by omega]
theorem col_items {ws : List Value} {q : List Int} (h : IntsAre ws q) (hl : q.length = 12) {i : Nat} (hi : i < 3) : (∃ t, ws.toArray[((i : Nat) : Int).toNat]? = some (Value.int (q.getD i 0) t)) ∧ (∃ t, ws.toArray[((i + 3 : Nat) : Int).toNat]? = some (Value.int (q.getD (i + 3) 0) t)) ∧
    (∃ t, ws.toArray[((i + 6 : Nat) : Int).toNat]? = some (Value.int (q.getD (i + 6) 0) t)) ∧ (∃ t, ws.toArray[((i + 9 : Nat) : Int).toNat]? = some (Value.int (q.getD (i + 9) 0) t)) :=
  ⟨col_item h (by omega), col_item h (by omega), col_item h (by omega), col_item h (by omega)⟩
theorem words69 : True := by
  k_with "eval ListComp List" => ((with_reducible show wpAny _ _ (eval (PySem.Expr.ListComp (PySem.Expr.List _ _) _ _ _) _) _ _ _); k_dflt (refine ListComp_T (F₀ := by k_asm) (by with_unfolding_all rfl) (by decide) (by decide) (by rfl) (by rfl) (by decide) (fun _ => by rfl) (fun _ => by rfl) ?_))
  k_with "subscriptTail" => ((with_reducible show wpAny _ _ (subscriptTail (PySem.Expr.Name (PySem.Str.ofString "words") _) _ (Value.ref _) (Value.int _ _)) _ _ _); k_dflt (refine item_listR (News.isList (by k_asm) (by k_mem)) (by with_reducible assumption) (by with_reducible assumption) (by assumption) ?_))
  k_with "subscriptTail" => ((with_reducible show wpAny _ _ (subscriptTail (PySem.Expr.Name (PySem.Str.ofString "bits") _) _ (Value.ref _) (Value.int _ _)) _ _ _); k_dflt (refine item_listR (News.isList (by k_asm) (by k_mem)) (by omega) (by omega) (by assumption) ?_))
  k_with "call ref" => ((with_reducible show wpAny _ _ (call (Value.ref 124) _ _) _ _ _); refine Held.out ?_)
  k_with "eval Name" => ((with_reducible show wpAny _ _ (eval (PySem.Expr.Name (PySem.Str.ofString "both") _) (compEnvC _ _ _ _)) _ _ _); k_dflt (refine' lcf_cell ?Nq86 ?cq86 ?mq86 ?dq86 ?_ ?aq86 ?bq86; (case aq86 => rfl); (case bq86 => rfl); (case Nq86 => k_asm); (case cq86 => rfl); (case mq86 => k_mem); (case dq86 => assumption)))
  trivial
theorem d7 {s : Shared} {m : Str → Option Value} {led : List (Addr × Obj)} {o7 : Obj} {b b0 b1 wa : Addr} {vs0 vs1 : List Value} {k0 k1 : Nat} {q0 q1 : List Int} {wv : List Value} {kw k : Nat} {t tk : Tok} (X : Ctx0 w mean mg mb base h₀ sc vs ns) (F : Fr h₀ L s.heap m) (N : News h₀ L s.heap led)
    (h7 : (L + 7, o7) ∈ led) (c7 : o7.data = .cell (some (.ref b))) (hb : (b, lst [.ref b0, .ref b1]) ∈ led) (hb0 : (b0, PySem.W.listOf vs0.toArray k0) ∈ led) (hb1 : (b1, PySem.W.listOf vs1.toArray k1) ∈ led)
    (i0 : IntsAre vs0 q0) (i1 : IntsAre vs1 q1) (l0 : q0.length = 12) (l1 : q1.length = 12) (hB0 : ∀ x ∈ q0, Bit x) (hB1 : ∀ x ∈ q1, Bit x)
    (hw : (wa, PySem.W.listOf wv.toArray kw) ∈ led) (e1 : m (Str.ofString "words") = some (.ref wa)) (e2 : m (Str.ofString "k") = some (.int (k : Int) tk)) (hk : wv[(k + 3) % 11]? = some (.str (word6 (toldQ q0 q1)) t)) (hk1 : k < 11) :
    wpAny (model Challenge.rw_op0029_01.row.prog w) (callerA.deeper (lawEnv L fa cd)) (exec (l2St 6) (lawEnv L fa cd)) (Nx (MidX h₀ L m s (fun (_ : Unit) => led) (fun _ => True))) (fun _ _ => False) s := by
  have B := X.below
  have T := X.top
  have KX := X.part
  clear X
  revert KX
  k_fill
  intro KX
  rw [L2S6.2]
  dsimp only [lawEnv, L2S6, LNM, LSC]
  obtain ⟨hp, gn, dr, tok, os⟩ := s
  dsimp only at N F ⊢
  have hkk : ∀ p ∈ [(Str.ofString "words", Value.ref wa), (Str.ofString "k", Value.int (k : Int) tk)], m p.1 = some p.2 := by simp only [List.forall_mem_cons]; exact ⟨e1, e2, fun _ h => nomatch h⟩
  rw [kst_self hkk] at F
  dsimp only [kstB] at F
  have hm : ((k : Int) + 3).fmod 11 = (((k + 3) % 11 : Nat) : Int) := idx_mod k 3
  have hx0 : 0 ≤ ((k : Int) + 3).fmod 11 := by rw [hm]; omega
  have hx1 : ((k : Int) + 3).fmod 11 < 2 ^ 63 := by rw [hm]; omega
  have hx : wv.toArray[(((k : Int) + 3).fmod 11).toNat]? = some (.str (word6 (toldQ q0 q1)) t) := by rw [hm, Int.toNat_natCast]; simpa using hk
  clear hm
  try k_fold
  k_steps
  refine ⟨_, _, _, _, 3, led, fun e o => FourAt (toldQ q0 q1) e o, b, .ref b0, .ref b1, rfl, rfl, by assumption, by assumption, hb, by assumption, by decide, by decide, by decide, ?_, ?_, ?_⟩
  · intro C nw h tk' E' hsub F' N'
    have h7' := hsub _ h7
    clear hsub
    have h7'' : (L + 6 + 1, o7) ∈ nw := h7'
    dsimp only
    try k_fold
    walk1
    exact ⟨rfl, h, tk', rfl, F', N'⟩
  · intro i j vj t' I oI C oC D I2 oI2 ys nw m₂ h tk' E' hi hj hvj hC hmx hmy hsub F' N'
    obtain ⟨bj, wj, kj, qj, rfl, hbj, hij, hlj, hqj⟩ : ∃ bj wj kj qj, vj = .ref bj ∧ (bj, PySem.W.listOf (wj : List Value).toArray kj) ∈ nw ∧ IntsAre wj qj ∧ qj.length = 12 ∧ toldQ q0 q1 (2 * i + j) = colQ qj i := by
      have hc : j = 0 ∨ j = 1 := by omega
      rcases hc with rfl | rfl
      · exact ⟨b0, vs0, k0, q0, (Option.some.inj hvj).symm, hsub _ hb0, i0, l0, toldQ_even q0 q1 i⟩
      · exact ⟨b1, vs1, k1, q1, (Option.some.inj hvj).symm, hsub _ hb1, i1, l1, toldQ_odd q0 q1 i⟩
    clear hsub
    obtain ⟨⟨u0, y0⟩, ⟨u3, y3⟩, ⟨u6, y6⟩, u9, y9⟩ := col_items hij hlj hi
    have y3' : wj.toArray[((i : Int) + 3).toNat]? = some (Value.int (qj.getD (i + 3) 0) u3) := y3
    have y6' : wj.toArray[((i : Int) + 6).toNat]? = some (Value.int (qj.getD (i + 6) 0) u6) := y6
    have y9' : wj.toArray[((i : Int) + 9).toNat]? = some (Value.int (qj.getD (i + 9) 0) u9) := y9
    clear y3 y6 y9
    dsimp only
    try k_fold
    k_steps
    rename _ ∧ _ ∧ _ ∧ _ ∧ AllLt _ _ => aN
    obtain ⟨a1, a2, a3, a4, _⟩ := aN
    dsimp only
    refine ObEnd4.intro (by assumption) (by assumption) (fun p hp => hp) ?_ (by omega) (by omega) (by omega) (by omega)
    unfold FourAt
    rw [hqj]
    exact ⟨u0, u3, u6, u9, _, rfl⟩
  · intro ls D hE tkE hll hG FE NE hne
    obtain ⟨ad, V, hV, hPre⟩ := let_pre hll hG fun e he => toldQ_bits l0 l1 hB0 hB1 he
    have hP := hPre D _ h₀ hE L NE (fun p hp => List.mem_append_right _ hp)
    clear hPre hG
    dsimp only
    try k_fold
    k_steps
    refine Held.mk ?_
    refine use (c_let w mean mg mb D _ _ _ hV) (by k_asm) FE (by k_asm) NE (by k_asm) ?_ (by decide) (by decide) hP ?_
    · first | exact rfl | assumption
    intro v' h' tk' F' N' st' ev'
    obtain ⟨t', ev'⟩ := ev'
    change v' = Value.str (word6 (toldQ q0 q1)) t' at ev'
    subst ev'
    generalize word6 (toldQ q0 q1) = W at *
    try k_fold
    k_steps
    all_goals first
      | exact midX (led := fun (_ : Unit) => led) (P := fun _ => True) () _ hkk (by assumption) N' (fun p hp => .tail _ (List.mem_append_left _ hp)) trivial
      | (exfalso; rename (_ != _) = true => hne; simp at hne)
end lawN
end Mine
theorem Mine.none71 : True := by
  k_with_none
  trivial
end

end

/- Plain -/
section
open PySem PySem.W PyProof.Rows PySem.Calls PySem.Spec
set_option maxRecDepth 100000
set_option linter.all false
set_option maxHeartbeats 2000000
namespace Mine
theorem dd {x y z : Int} (hy : 0 ≤ y) : x / y / z = x / (y * z) := Int.ediv_ediv_of_nonneg hy
theorem and_odd (x y : Int) : Builtin.bitAnd x (2 * y + 1) = 2 * Builtin.bitAnd (x / 2) y + x % 2 := by
  rw [kbt_halves, show (2 * y + 1) / 2 = y by omega, show (2 * y + 1) % 2 = 1 by omega]
  split <;> omega
theorem and_sh : ∀ (k : Nat) (x y : Int), Builtin.bitAnd x (2 ^ k * y) = 2 ^ k * Builtin.bitAnd (x / 2 ^ k) y
  | 0, x, y => by rw [Int.pow_zero, Int.one_mul, Int.one_mul, Int.ediv_one]
  | k + 1, x, y => by
    rw [show (2 : Int) ^ (k + 1) = 2 * 2 ^ k by rw [Int.pow_succ, Int.mul_comm], Int.mul_assoc, and_dbl, and_sh k, dd (by decide), Int.mul_assoc]
theorem and_two (x : Int) (i j : Nat) : Builtin.bitAnd x (2 ^ j * (2 * 2 ^ i + 1)) = 2 ^ j * (2 * 2 ^ i) * (x / (2 ^ j * (2 * 2 ^ i)) % 2) + 2 ^ j * (x / 2 ^ j % 2) := by
  have h0 : (0 : Int) ≤ 2 ^ j := Int.le_of_lt (kbt_pos j)
  rw [and_sh, and_odd, kbt_bit, dd h0, dd (Int.mul_nonneg h0 (by decide)), ← Int.mul_assoc (2 ^ j) 2, Int.mul_add]
  congr 1
  rw [Int.mul_comm (_ % 2), ← Int.mul_assoc 2, ← Int.mul_assoc, ← Int.mul_assoc]
theorem andp (x : Int) (k : Nat) (p : Int) (hp : (2 : Int) ^ k = p) : Builtin.bitAnd x p = (x / p % 2) * p := by
  rw [← hp]; exact kbt_bit x k
theorem m2 (x : Int) : x % 2 = 0 ∨ x % 2 = 1 := by omega
theorem hi {p m c : Int} (hp : p ≠ 0) : (p * (2 * m) + c) / p % 2 = c / p % 2 := by
  rw [Int.add_comm, Int.add_mul_ediv_left _ _ hp, Int.add_mul_emod_self_left]
theorem fnd_r : fnd "-r" 114 = 1 ∧ fnd "-r" 45 = 0 := by decide +kernel
theorem fnd_w : fnd "-w" 119 = 1 ∧ fnd "-w" 45 = 0 := by decide +kernel
theorem fnd_s : fnd "-xSs" 115 = 3 ∧ fnd "-xSs" 83 = 2 ∧ fnd "-xSs" 120 = 1 ∧ fnd "-xSs" 45 = 0 := by decide +kernel
theorem fnd_t : fnd "-xTt" 116 = 3 ∧ fnd "-xTt" 84 = 2 ∧ fnd "-xTt" 120 = 1 ∧ fnd "-xTt" 45 = 0 := by decide +kernel
theorem tell1 {s : String} {b p v : Int} {x y : Nat} (h : fnd s x = 1 ∧ fnd s y = 0) (hb : b = 0 ∨ b = 1) (hp : p ≠ 0) (hv : v = b * p) : fnd s (if v = p then x else y) = b := by
  subst hv
  rcases hb with rfl | rfl
  · rw [Int.zero_mul, if_neg (Ne.symm hp)]; exact h.2
  · rw [Int.one_mul, if_pos rfl]; exact h.1
theorem tell3 {s : String} {b d p q v v1 v2 : Int} {x y z u : Nat} (h : fnd s x = 3 ∧ fnd s y = 2 ∧ fnd s z = 1 ∧ fnd s u = 0) (hb : b = 0 ∨ b = 1) (hd : d = 0 ∨ d = 1) (hp : 0 < p) (hq : 0 < q) (hv : v = p * b + q * d) (hv1 : v1 = b * p) (hv2 : v2 = d * q) :
    fnd s (if v = p + q then x else if v1 = p then y else if v2 = q then z else u) = 2 * b + d := by
  subst hv hv1 hv2
  rcases hb with rfl | rfl <;> rcases hd with rfl | rfl
  · rw [if_neg (by omega), if_neg (by omega), if_neg (by omega)]; exact h.2.2.2
  · rw [if_neg (by omega), if_neg (by omega), if_pos (by omega)]; exact h.2.2.1
  · rw [if_neg (by omega), if_pos (by omega)]; exact h.2.1
  · rw [if_pos (by omega)]; exact h.1
theorem two_bits {b d : Int} (hb : b = 0 ∨ b = 1) (hd : d = 0 ∨ d = 1) : (2 * b + d).fdiv 2 = b ∧ (2 * b + d).fmod 2 = d := by
  rcases hb with rfl | rfl <;> rcases hd with rfl | rfl <;> decide
noncomputable def bits12 (c : Int) : List Int := [c / 2048 % 2, c / 1024 % 2, c / 512 % 2, c / 256 % 2, c / 128 % 2, c / 64 % 2, c / 32 % 2, c / 16 % 2, c / 8 % 2, c / 4 % 2, c / 2 % 2, c / 1 % 2]
theorem told_bits (c : Int) : toldI c = bits12 c := by
  have h11 : (40960 + c) / 2048 % 2 = c / 2048 % 2 := hi (p := 2048) (m := 10) (by decide)
  have h10 : (40960 + c) / 1024 % 2 = c / 1024 % 2 := hi (p := 1024) (m := 20) (by decide)
  have h9 : (40960 + c) / 512 % 2 = c / 512 % 2 := hi (p := 512) (m := 40) (by decide)
  have h8 : (40960 + c) / 256 % 2 = c / 256 % 2 := hi (p := 256) (m := 80) (by decide)
  have h7 : (40960 + c) / 128 % 2 = c / 128 % 2 := hi (p := 128) (m := 160) (by decide)
  have h6 : (40960 + c) / 64 % 2 = c / 64 % 2 := hi (p := 64) (m := 320) (by decide)
  have h5 : (40960 + c) / 32 % 2 = c / 32 % 2 := hi (p := 32) (m := 640) (by decide)
  have h4 : (40960 + c) / 16 % 2 = c / 16 % 2 := hi (p := 16) (m := 1280) (by decide)
  have h3 : (40960 + c) / 8 % 2 = c / 8 % 2 := hi (p := 8) (m := 2560) (by decide)
  have h2 : (40960 + c) / 4 % 2 = c / 4 % 2 := hi (p := 4) (m := 5120) (by decide)
  have h1 : (40960 + c) / 2 % 2 = c / 2 % 2 := hi (p := 2) (m := 10240) (by decide)
  have h0 : (40960 + c) / 1 % 2 = c / 1 % 2 := hi (p := 1) (m := 20480) (by decide)
  have s3 : fnd "-xSs" (fmcp (40960 + c) 3) = 2 * (c / 2048 % 2) + c / 64 % 2 := by
    refine tell3 (p := 2048) (q := 64) fnd_s (m2 _) (m2 _) (by decide) (by decide) ?_ ?_ ?_
    · rw [← h11, ← h6]; exact and_two (40960 + c) 4 6
    · rw [← h11]; exact andp _ 11 2048 (by decide)
    · rw [← h6]; exact andp _ 6 64 (by decide)
  have s6 : fnd "-xSs" (fmcp (40960 + c) 6) = 2 * (c / 1024 % 2) + c / 8 % 2 := by
    refine tell3 (p := 1024) (q := 8) fnd_s (m2 _) (m2 _) (by decide) (by decide) ?_ ?_ ?_
    · rw [← h10, ← h3]; exact and_two (40960 + c) 6 3
    · rw [← h10]; exact andp _ 10 1024 (by decide)
    · rw [← h3]; exact andp _ 3 8 (by decide)
  have s9 : fnd "-xTt" (fmcp (40960 + c) 9) = 2 * (c / 512 % 2) + c / 1 % 2 := by
    refine tell3 (p := 512) (q := 1) fnd_t (m2 _) (m2 _) (by decide) (by decide) ?_ ?_ ?_
    · rw [← h9, ← h0]; exact and_two (40960 + c) 8 0
    · rw [← h9]; exact andp _ 9 512 (by decide)
    · rw [← h0]; exact andp _ 0 1 (by decide)
  have r1 : fnd "-r" (fmcp (40960 + c) 1) = c / 256 % 2 := tell1 (p := 256) fnd_r (m2 _) (by decide) (by rw [← h8]; exact andp _ 8 256 (by decide))
  have r2 : fnd "-w" (fmcp (40960 + c) 2) = c / 128 % 2 := tell1 (p := 128) fnd_w (m2 _) (by decide) (by rw [← h7]; exact andp _ 7 128 (by decide))
  have r4 : fnd "-r" (fmcp (40960 + c) 4) = c / 32 % 2 := tell1 (p := 32) fnd_r (m2 _) (by decide) (by rw [← h5]; exact andp _ 5 32 (by decide))
  have r5 : fnd "-w" (fmcp (40960 + c) 5) = c / 16 % 2 := tell1 (p := 16) fnd_w (m2 _) (by decide) (by rw [← h4]; exact andp _ 4 16 (by decide))
  have r7 : fnd "-r" (fmcp (40960 + c) 7) = c / 4 % 2 := tell1 (p := 4) fnd_r (m2 _) (by decide) (by rw [← h2]; exact andp _ 2 4 (by decide))
  have r8 : fnd "-w" (fmcp (40960 + c) 8) = c / 2 % 2 := tell1 (p := 2) fnd_w (m2 _) (by decide) (by rw [← h1]; exact andp _ 1 2 (by decide))
  clear h0 h1 h2 h3 h4 h5 h6 h7 h8 h9 h10 h11
  unfold toldI bits12
  rw [s3, s6, s9, r1, r2, r4, r5, r7, r8, (two_bits (m2 (c / 2048)) (m2 (c / 64))).1, (two_bits (m2 (c / 2048)) (m2 (c / 64))).2, (two_bits (m2 (c / 1024)) (m2 (c / 8))).1, (two_bits (m2 (c / 1024)) (m2 (c / 8))).2, (two_bits (m2 (c / 512)) (m2 (c / 1))).1, (two_bits (m2 (c / 512)) (m2 (c / 1))).2]
theorem bits12_bit (c : Int) : ∀ x ∈ bits12 c, Bit x := by
  unfold bits12
  simp only [List.forall_mem_cons]
  exact ⟨m2 _, m2 _, m2 _, m2 _, m2 _, m2 _, m2 _, m2 _, m2 _, m2 _, m2 _, m2 _, fun _ h => nomatch h⟩
theorem find_all : ∀ j : Fin 64, Txt.find SIGNS ⟨#[(sgn (j.val : Int)).toNat]⟩ = (j.val : Int) := by decide +kernel
theorem find_sgn {i : Int} (h : 0 ≤ i ∧ i < 64) : Txt.find SIGNS ⟨#[(sgn i).toNat]⟩ = i := by
  obtain ⟨h0, h1⟩ := h
  have h := find_all ⟨i.toNat, by omega⟩
  rw [show (((⟨i.toNat, by omega⟩ : Fin 64).val : Nat) : Int) = i by show ((i.toNat : Nat) : Int) = i; omega] at h
  exact h
noncomputable def signsOf (n : Int) : List Int := [n / 262144, n / 4096 % 64, n / 64 % 64, n % 64]
theorem md64 (y : Int) : 0 ≤ y % 64 ∧ y % 64 < 64 := by omega
theorem top64 {n : Int} (h0 : 0 ≤ n) (h1 : n < 16777216) : 0 ≤ n / 262144 ∧ n / 262144 < 64 := by omega
theorem find_signs {n : Int} (h0 : 0 ≤ n) (h1 : n < 16777216) : (txI n).map (fun c => Txt.find SIGNS ⟨#[c.toNat]⟩) = signsOf n := by
  unfold txI signsOf
  simp only [List.map_cons, List.map_nil]
  rw [find_sgn (top64 h0 h1), find_sgn (md64 _), find_sgn (md64 _), find_sgn (md64 _)]
theorem signsOf_in {n : Int} (h0 : 0 ≤ n) (h1 : n < 16777216) : ∀ x ∈ signsOf n, 0 ≤ x ∧ x < 64 := by
  unfold signsOf
  simp only [List.forall_mem_cons]
  exact ⟨top64 h0 h1, md64 _, md64 _, md64 _, fun _ h => nomatch h⟩
end Mine
end

/- Plain2 -/
section
open PySem PySem.W PyProof.Rows PySem.Calls PySem.Spec
set_option maxRecDepth 100000
set_option linter.all false
set_option maxHeartbeats 4000000
namespace Mine
theorem shuf11 {bits : List Int} (h : bits.length = 24) : shuf (shuf (shuf (shuf (shuf (shuf (shuf (shuf (shuf (shuf (shuf bits)))))))))) = bits := by
  obtain ⟨a0, a1, a2, a3, a4, a5, a6, a7, a8, a9, b0, b1, b2, b3, b4, b5, b6, b7, b8, b9, c0, c1, c2, c3, rfl⟩ := list24 h
  rfl
theorem half {y b : Int} (h : Bit b) : (2 * y + b) / 2 = y ∧ (2 * y + b) % 2 = b := by
  rcases h with rfl | rfl <;> omega
theorem gb {y b n : Int} (h : 0 ≤ y ∧ y < n) (hb : Bit b) : 0 ≤ 2 * y + b ∧ 2 * y + b < 2 * n := by
  rcases hb with rfl | rfl <;> omega
theorem bit_lt {b : Int} (h : Bit b) : 0 ≤ b ∧ b < 2 := by rcases h with rfl | rfl <;> decide
theorem bit_mod {b : Int} (h : Bit b) : b % 2 = b := by rcases h with rfl | rfl <;> decide
theorem step {s y b p : Int} (hp : 0 ≤ p) (e : s / p = 2 * y + b) (h : Bit b) : s / (p * 2) = y ∧ s / p % 2 = b := by
  rw [← dd hp, e]
  exact half h
noncomputable def g6 (a b c d e f : Int) : Int := 2 * (2 * (2 * (2 * (2 * a + b) + c) + d) + e) + f
theorem g6_lt {a b c d e f : Int} (ha : Bit a) (hb : Bit b) (hc : Bit c) (hd : Bit d) (he : Bit e) (hf : Bit f) : 0 ≤ g6 a b c d e f ∧ g6 a b c d e f < 64 :=
  gb (gb (gb (gb (gb (bit_lt ha) hb) hc) hd) he) hf
theorem bit6 {a b c d e f : Int} (ha : Bit a) (hb : Bit b) (hc : Bit c) (hd : Bit d) (he : Bit e) (hf : Bit f) :
    bitq (g6 a b c d e f) 0 = a ∧ bitq (g6 a b c d e f) 1 = b ∧ bitq (g6 a b c d e f) 2 = c ∧ bitq (g6 a b c d e f) 3 = d ∧ bitq (g6 a b c d e f) 4 = e ∧ bitq (g6 a b c d e f) 5 = f := by
  have s1 := step (s := g6 a b c d e f) (p := 1) (by decide) (Int.ediv_one _) hf
  have s2 := step (p := 2) (by decide) s1.1 he
  have s3 := step (p := 4) (by decide) s2.1 hd
  have s4 := step (p := 8) (by decide) s3.1 hc
  have s5 := step (p := 16) (by decide) s4.1 hb
  exact ⟨(congrArg (· % 2) s5.1).trans (bit_mod ha), s5.2, s4.2, s3.2, s2.2, s1.2⟩
noncomputable def g12 (a b c d e f g h i j k l : Int) : Int := 2 * (2 * (2 * (2 * (2 * (2 * g6 a b c d e f + g) + h) + i) + j) + k) + l
theorem g12_lt {a b c d e f g h i j k l : Int} (ha : Bit a) (hb : Bit b) (hc : Bit c) (hd : Bit d) (he : Bit e) (hf : Bit f) (hg : Bit g) (hh : Bit h) (hi : Bit i) (hj : Bit j) (hk : Bit k) (hl : Bit l) : 0 ≤ g12 a b c d e f g h i j k l ∧ g12 a b c d e f g h i j k l < 4096 :=
  gb (gb (gb (gb (gb (gb (g6_lt ha hb hc hd he hf) hg) hh) hi) hj) hk) hl
theorem bit12 {a b c d e f g h i j k l : Int} (ha : Bit a) (hb : Bit b) (hc : Bit c) (hd : Bit d) (he : Bit e) (hf : Bit f) (hg : Bit g) (hh : Bit h) (hi : Bit i) (hj : Bit j) (hk : Bit k) (hl : Bit l) :
    bits12 (g12 a b c d e f g h i j k l) = [a, b, c, d, e, f, g, h, i, j, k, l] := by
  have s1 := step (s := g12 a b c d e f g h i j k l) (p := 1) (by decide) (Int.ediv_one _) hl
  have s2 := step (p := 2) (by decide) s1.1 hk
  have s3 := step (p := 4) (by decide) s2.1 hj
  have s4 := step (p := 8) (by decide) s3.1 hi
  have s5 := step (p := 16) (by decide) s4.1 hh
  have s6 := step (p := 32) (by decide) s5.1 hg
  have s7 := step (p := 64) (by decide) s6.1 hf
  have s8 := step (p := 128) (by decide) s7.1 he
  have s9 := step (p := 256) (by decide) s8.1 hd
  have s10 := step (p := 512) (by decide) s9.1 hc
  have s11 := step (p := 1024) (by decide) s10.1 hb
  exact List.cons_eq_cons.mpr ⟨(congrArg (· % 2) s11.1).trans (bit_mod ha), List.cons_eq_cons.mpr ⟨s11.2, List.cons_eq_cons.mpr ⟨s10.2, List.cons_eq_cons.mpr ⟨s9.2, List.cons_eq_cons.mpr ⟨s8.2, List.cons_eq_cons.mpr ⟨s7.2, List.cons_eq_cons.mpr ⟨s6.2, List.cons_eq_cons.mpr ⟨s5.2, List.cons_eq_cons.mpr ⟨s4.2, List.cons_eq_cons.mpr ⟨s3.2, List.cons_eq_cons.mpr ⟨s2.2, List.cons_eq_cons.mpr ⟨s1.2, rfl⟩⟩⟩⟩⟩⟩⟩⟩⟩⟩⟩⟩
theorem dig64 {n q x : Int} (hn : n = 64 * q + x) (h : 0 ≤ x ∧ x < 64) : n / 64 = q ∧ n % 64 = x := by omega
theorem signs_parts {s0 s1 s2 s3 : Int} (h1 : 0 ≤ s1 ∧ s1 < 64) (h2 : 0 ≤ s2 ∧ s2 < 64) (h3 : 0 ≤ s3 ∧ s3 < 64) : signsOf (64 * (64 * (64 * s0 + s1) + s2) + s3) = [s0, s1, s2, s3] := by
  have e1 := dig64 (n := 64 * s0 + s1) rfl h1
  generalize 64 * s0 + s1 = n1 at *
  have e2 := dig64 (n := 64 * n1 + s2) rfl h2
  generalize 64 * n1 + s2 = n2 at *
  have e3 := dig64 (n := 64 * n2 + s3) rfl h3
  generalize 64 * n2 + s3 = n3 at *
  unfold signsOf
  rw [show n3 / 262144 = n3 / 64 / 64 / 64 by rw [dd (by decide), dd (by decide)]; rfl, show n3 / 4096 = n3 / 64 / 64 by rw [dd (by decide)]; rfl, e3.1, e2.1, e1.1, e1.2, e2.2, e3.2]
theorem fold6_step (x a b c d e f : Int) (r : List Int) : fold4 (a :: b :: c :: d :: e :: f :: r) x = fold4 r (64 * x + g6 a b c d e f) := by
  show fold4 r (2 * (2 * (2 * (2 * (2 * (2 * x + a) + b) + c) + d) + e) + f) = _
  unfold g6
  congr 1
  omega
theorem num_signs (a0 a1 a2 a3 a4 a5 a6 a7 a8 a9 b0 b1 b2 b3 b4 b5 b6 b7 b8 b9 c0 c1 c2 c3 : Int) : numOf [a0, a1, a2, a3, a4, a5, a6, a7, a8, a9, b0, b1, b2, b3, b4, b5, b6, b7, b8, b9, c0, c1, c2, c3] =
    64 * (64 * (64 * g6 a0 a1 a2 a3 a4 a5 + g6 a6 a7 a8 a9 b0 b1) + g6 b2 b3 b4 b5 b6 b7) + g6 b8 b9 c0 c1 c2 c3 := by
  show fold4 _ 0 = _
  rw [fold6_step, fold6_step, fold6_step, fold6_step]
  show 64 * (64 * (64 * (64 * 0 + _) + _) + _) + _ = _
  rw [Int.mul_zero, Int.zero_add]
theorem g12_split (a b c d e f g h i j k l : Int) : g12 a b c d e f g h i j k l = 64 * g6 a b c d e f + g6 g h i j k l := by
  unfold g12
  generalize g6 a b c d e f = y
  unfold g6
  omega
theorem num_halves (a0 a1 a2 a3 a4 a5 a6 a7 a8 a9 b0 b1 b2 b3 b4 b5 b6 b7 b8 b9 c0 c1 c2 c3 : Int) : numOf [a0, a1, a2, a3, a4, a5, a6, a7, a8, a9, b0, b1, b2, b3, b4, b5, b6, b7, b8, b9, c0, c1, c2, c3] =
    4096 * g12 a0 a1 a2 a3 a4 a5 a6 a7 a8 a9 b0 b1 + g12 b2 b3 b4 b5 b6 b7 b8 b9 c0 c1 c2 c3 := by
  rw [num_signs, g12_split, g12_split]
  omega
theorem word_of {bits : List Int} {qq : Nat → Int × Int × Int × Int} (h0 : fourOf bits 0 = qq 0) (h1 : fourOf bits 1 = qq 1) (h2 : fourOf bits 2 = qq 2) (h3 : fourOf bits 3 = qq 3) (h4 : fourOf bits 4 = qq 4) (h5 : fourOf bits 5 = qq 5) : rowLet bits = word6 qq := by
  unfold rowLet word6
  rw [h0, h1, h2, h3, h4, h5]
theorem congr4 {a b c d a' b' c' d' : Int} (h0 : a = a') (h1 : b = b') (h2 : c = c') (h3 : d = d') : ((a, b, c, d) : Int × Int × Int × Int) = (a', b', c', d') := by rw [h0, h1, h2, h3]
theorem two_on {bits : List Int} (h : RowBits bits) : rowLet (shuf (shuf bits)) = word6 (signQ (signsOf (numOf bits))) := by
  obtain ⟨hl, hB⟩ := h
  obtain ⟨a0, a1, a2, a3, a4, a5, a6, a7, a8, a9, b0, b1, b2, b3, b4, b5, b6, b7, b8, b9, c0, c1, c2, c3, rfl⟩ := list24 hl
  simp only [List.forall_mem_cons] at hB
  obtain ⟨h0, h1, h2, h3, h4, h5, h6, h7, h8, h9, g0, g1, g2, g3, g4, g5, g6, g7, g8, g9, f0, f1, f2, f3, _⟩ := hB
  rw [num_signs, signs_parts (g6_lt h6 h7 h8 h9 g0 g1) (g6_lt g2 g3 g4 g5 g6 g7) (g6_lt g8 g9 f0 f1 f2 f3)]
  obtain ⟨x0, x1, x2, x3, x4, x5⟩ := bit6 h0 h1 h2 h3 h4 h5
  obtain ⟨y0, y1, y2, y3, y4, y5⟩ := bit6 h6 h7 h8 h9 g0 g1
  obtain ⟨z0, z1, z2, z3, z4, z5⟩ := bit6 g2 g3 g4 g5 g6 g7
  obtain ⟨w0, w1, w2, w3, w4, w5⟩ := bit6 g8 g9 f0 f1 f2 f3
  exact word_of (congr4 x0 y0 z0 w0).symm (congr4 x1 y1 z1 w1).symm (congr4 x2 y2 z2 w2).symm (congr4 x3 y3 z3 w3).symm (congr4 x4 y4 z4 w4).symm (congr4 x5 y5 z5 w5).symm
theorem half_parts {u v : Int} (hv : 0 ≤ v ∧ v < 4096) : (4096 * u + v) / 4096 = u ∧ (4096 * u + v) % 4096 = v := by omega
theorem three_on {bits : List Int} (h : RowBits bits) : rowLet (shuf (shuf (shuf bits))) = word6 (toldQ (toldI (numOf bits / 4096)) (toldI (numOf bits % 4096))) := by
  obtain ⟨hl, hB⟩ := h
  obtain ⟨a0, a1, a2, a3, a4, a5, a6, a7, a8, a9, b0, b1, b2, b3, b4, b5, b6, b7, b8, b9, c0, c1, c2, c3, rfl⟩ := list24 hl
  simp only [List.forall_mem_cons] at hB
  obtain ⟨h0, h1, h2, h3, h4, h5, h6, h7, h8, h9, g0, g1, g2, g3, g4, g5, g6, g7, g8, g9, f0, f1, f2, f3, _⟩ := hB
  rw [num_halves]
  obtain ⟨e1, e2⟩ := half_parts (u := g12 a0 a1 a2 a3 a4 a5 a6 a7 a8 a9 b0 b1) (g12_lt g2 g3 g4 g5 g6 g7 g8 g9 f0 f1 f2 f3)
  rw [e1, e2, told_bits, told_bits, bit12 h0 h1 h2 h3 h4 h5 h6 h7 h8 h9 g0 g1, bit12 g2 g3 g4 g5 g6 g7 g8 g9 f0 f1 f2 f3]
  exact word_of rfl rfl rfl rfl rfl rfl
theorem rowAt_add2 (N : Int) {k : Nat} (hk : k < 11) : rowAt N ((k + 2) % 11) = shuf (shuf (rowAt N k)) := by
  have hc : k < 9 ∨ k = 9 ∨ k = 10 := by omega
  rcases hc with h | rfl | rfl
  · rw [Nat.mod_eq_of_lt (by omega)]; rfl
  · exact (shuf11 (rowAt_bits N 0).1).symm
  · exact congrArg shuf (shuf11 (rowAt_bits N 0).1).symm
theorem rowAt_add3 (N : Int) {k : Nat} (hk : k < 11) : rowAt N ((k + 3) % 11) = shuf (shuf (shuf (rowAt N k))) := by
  have hc : k < 8 ∨ k = 8 ∨ k = 9 ∨ k = 10 := by omega
  rcases hc with h | rfl | rfl | rfl
  · rw [Nat.mod_eq_of_lt (by omega)]; rfl
  · exact (shuf11 (rowAt_bits N 0).1).symm
  · exact congrArg shuf (shuf11 (rowAt_bits N 0).1).symm
  · exact congrArg (fun x => shuf (shuf x)) (shuf11 (rowAt_bits N 0).1).symm
end Mine
end

/- LawO -/
section
open PySem PySem.W PyProof.Rows PySem.Calls PySem.Spec
open PyProof.Rows.LCg
set_option maxRecDepth 100000
set_option maxHeartbeats 4000000
set_option linter.all false
namespace Mine
section lawO
variable {w : World} {mean : ExcName → Option Value} {mg mb : Str → Option Value} {base h₀ : Heap} {sc : Addr} {vs : List Value} {ns : List Int} {L fa : Addr} {cd : Value}
theorem l2_list : forBody (lawSt 6) = [l2St 0, l2St 1, l2St 2, l2St 3, l2St 4, l2St 5, l2St 6] := list7 (by decide +kernel)
/-- what stands through loop 2 -/
structure T2 (N0 : Int) (L la ta wa : Addr) (lsv tsv wsv : List Value) (kl kt kw : Nat) (o5 : Obj) (t5 : Tok) (tail : List (Addr × Obj)) : Prop where
  words : WordsAre N0 11 wsv
  texts : TextsAre N0 11 tsv
  lists : ListsAre N0 11 lsv tail
  mw : (wa, PySem.W.listOf wsv.toArray kw) ∈ tail
  mt : (ta, PySem.W.listOf tsv.toArray kt) ∈ tail
  ml : (la, PySem.W.listOf lsv.toArray kl) ∈ tail
  m5 : (L + 5, o5) ∈ tail
  c5 : o5.data = .cell (some (.str SIGNS t5))
  off : OwnOff tail [L + 6, L + 7]
inductive J2 (L la ta wa : Addr) (tail : List (Addr × Obj)) (i : Nat) (m : Str → Option Value) (news : List (Addr × Obj)) : Prop
  | mk (o6 o7 : Obj) (v6 v7 : Option Value) (e : news = (L + 6, o6) :: (L + 7, o7) :: tail) (c6 : Obj.data o6 = .cell v6) (c7 : Obj.data o7 = .cell v7) (e1 : m (Str.ofString "words") = some (.ref wa)) (e2 : m (Str.ofString "texts") = some (.ref ta)) (e3 : m (Str.ofString "lists") = some (.ref la)) : J2 L la ta wa tail i m news
theorem turn2 {s : Shared} {N0 : Int} {la ta wa I : Addr} {lsv tsv wsv : List Value} {kl kt kw : Nat} {o5 : Obj} {t5 : Tok} {it : Obj} {tail news : List (Addr × Obj)} {i : Nat} {m : Str → Option Value} {t : Tok} (X : Ctx0 w mean mg mb base h₀ sc vs ns) (S : T2 N0 L la ta wa lsv tsv wsv kl kt kw o5 t5 tail) (hi : i < 11) (hJ : J2 L la ta wa tail i m news) (offI : ∀ p ∈ news, p.1 ≠ I)
    (F : Fr h₀ L s.heap (fun y => if y = Str.ofString "k" then some (.int (0 + (i : Int)) t) else m y)) (N : News h₀ L s.heap ((I, it) :: news)) :
    wpAny (model Challenge.rw_op0029_01.row.prog w) (callerA.deeper (lawEnv L fa cd)) (execs (forBody (lawSt 6)) (lawEnv L fa cd)) (Nx (UnrEnd h₀ L s I it (J2 L la ta wa tail (i + 1)))) (fun _ _ => False) s := by
  obtain ⟨o6, o7, v6, v7, rfl, c6, c7, e1, e2, e3⟩ := hJ
  have hb := rowAt_bits N0 i
  obtain ⟨⟨hn0, hn1⟩, hword⟩ := row_word hb
  have i6 : @Ne Nat (L + 6) I := offI _ (.head _)
  have i7 : @Ne Nat (L + 7) I := offI _ (.tail _ (.head _))
  have iT : ∀ p ∈ tail, @Ne Nat p.1 I := fun p hp => offI p (.tail _ (.tail _ hp))
  have f1 : (fun y => if y = Str.ofString "k" then some (Value.int (0 + (i : Int)) t) else m y) (Str.ofString "words") = some (.ref wa) := by dsimp only; rw [if_neg (by decide)]; exact e1
  have f2 : (fun y => if y = Str.ofString "k" then some (Value.int (0 + (i : Int)) t) else m y) (Str.ofString "texts") = some (.ref ta) := by dsimp only; rw [if_neg (by decide)]; exact e2
  have f3 : (fun y => if y = Str.ofString "k" then some (Value.int (0 + (i : Int)) t) else m y) (Str.ofString "lists") = some (.ref la) := by dsimp only; rw [if_neg (by decide)]; exact e3
  have fk : (fun y => if y = Str.ofString "k" then some (Value.int (0 + (i : Int)) t) else m y) (Str.ofString "k") = some (.int (i : Int) t) := by dsimp only; rw [if_pos rfl, Int.zero_add]
  generalize hm : (fun y => if y = Str.ofString "k" then some (Value.int (0 + (i : Int)) t) else m y) = m₁ at *
  have g1 : m₁ (Str.ofString "words") = some (.ref wa) := f1
  clear hm
  obtain ⟨b, tb, hbt, hbi⟩ := S.texts.2 i hi
  obtain ⟨p, pt1, pt2, kp, hlp, hpp⟩ := S.lists.2 i hi
  obtain ⟨tw2, hw2⟩ := S.words.2 ((i + 2) % 11) (Nat.mod_lt _ (by decide))
  obtain ⟨tw3, hw3⟩ := S.words.2 ((i + 3) % 11) (Nat.mod_lt _ (by decide))
  rw [rowAt_add2 N0 hi, two_on hb] at hw2
  rw [rowAt_add3 N0 hi, three_on hb] at hw3
  have hnum : numAt N0 i = numOf (rowAt N0 i) := rfl
  have hq12 : ∀ c : Int, (toldI c).length = 12 := fun c => rfl
  have hqB : ∀ c : Int, ∀ x ∈ toldI c, Bit x := fun c => told_bits c ▸ bits12_bit c
  have hqn : ∀ c : Int, ∀ x ∈ toldI c, x ≠ -1 := fun c x hx => by
    rcases hqB c x hx with rfl | rfl <;> decide
  unfold pairO at hpp
  rw [hnum] at hpp hbi
  generalize numOf (rowAt N0 i) = n at *
  have hbs : b.size ≤ sizeLine := by
    have := KBw.ints_length b
    rw [hbi] at this
    rw [← this, sizeLine_eq]
    exact (by decide : 4 ≤ 16777216)
  rw [l2_list]
  -- four
  have N' : News h₀ L s.heap ((L + 6, o6) :: (I, it) :: (L + 7, o7) :: tail) := fun p hp => N p (by
    exact memc hp (.tail _ (.head _)) (fun p hp => memc hp (.head _) (fun p hp => .tail _ (.tail _ hp))))
  have off1 : OwnOff ((I, it) :: (L + 7, o7) :: tail) [L + 6] := by
    intro p hp b hb'
    rw [List.mem_singleton.mp hb']
    exact memc hp (Ne.symm i6) (fun p hp => memc hp ((addL_ne L (by decide))) (fun p hp => S.off p hp _ (.head _)))
  refine cutX (d1 (k := i) X F N' c6 (.tail _ (.tail _ S.m5)) S.c5 (.tail _ (.tail _ S.mt)) off1 f2 fk hbt hi hbs) ?_
  rintro h1 tk1 ⟨f, ys, o6'⟩ F1 N1 ⟨c6', hI1, n6, nr⟩
  dsimp only at N1 c6' hI1 n6 nr
  rw [hbi, find_signs hn0 hn1] at hI1
  have hS := signsOf_in hn0 hn1
  -- the two tests of four
  refine cutX (d2 X F1 N1 (.tail _ (.head _)) c6' (.head _) hI1 rfl (fun x hx => by have := (hS x hx).1; omega)) ?_
  rintro h2 tk2 _ F2 N2 _
  refine cutX (d3 (k := i) X F2 N2 (.tail _ (.head _)) c6' (.head _) hI1 rfl hS (.tail _ (.tail _ (.tail _ (.tail _ S.mw)))) f1 fk hw2 hi) ?_
  rintro h3 tk3 _ F3 N3 _
  refine cutX (d4 (k := i) X F3 N3 (.tail _ (.tail _ (.tail _ (.tail _ hpp)))) (.tail _ (.tail _ (.tail _ (.tail _ S.ml)))) f3 fk hlp hi) ?_
  rintro h4 tk4 _ F4 N4 _
  -- both
  have N4' : News h₀ L h4 ((L + 7, o7) :: (f, lst ys) :: (L + 6, o6') :: (I, it) :: tail) := fun p hp => N4 p (by
    exact memc hp (.tail _ (.tail _ (.tail _ (.head _)))) (fun p hp => memc hp (.head _) (fun p hp => memc hp (.tail _ (.head _)) (fun p hp => memc hp (.tail _ (.tail _ (.head _))) (fun p hp => .tail _ (.tail _ (.tail _ (.tail _ hp))))))))
  have off4 : OwnOff ((f, lst ys) :: (L + 6, o6') :: (I, it) :: tail) [L + 7] := by
    intro p hp b hb'
    rw [List.mem_singleton.mp hb']
    exact memc hp (Ne.symm (nr _ (.tail _ (.head _)))) (fun p hp => memc hp ((addL_ne L (by decide))) (fun p hp => memc hp (Ne.symm i7) (fun p hp => S.off p hp _ (.tail _ (.head _)))))
  refine cutX (d5 (k := i) X F4 N4' c7 off4 (.tail _ (.tail _ (.tail _ hpp))) (.tail _ (.tail _ (.tail _ S.ml))) f3 fk hlp hi) ?_
  rintro h5 tk5 ⟨q, q0, q1, w0, w1, y0, y1, o7'⟩ F5 N5 ⟨c7', j0, j1⟩
  dsimp only at N5 c7' j0 j1
  refine cutX (d6 X F5 N5 (.head _) c7' (.tail _ (.head _)) (.tail _ (.tail _ (.head _))) (.tail _ (.tail _ (.tail _ (.head _)))) j0 j1 (hq12 _) (hq12 _) (hqn _) (hqn _)) ?_
  rintro h6 tk6 _ F6 N6 _
  refine cutX (d7 (k := i) X F6 N6 (.head _) c7' (.tail _ (.head _)) (.tail _ (.tail _ (.head _))) (.tail _ (.tail _ (.tail _ (.head _)))) j0 j1 (hq12 _) (hq12 _) (hqB _) (hqB _) (.tail _ (.tail _ (.tail _ (.tail _ (.tail _ (.tail _ (.tail _ S.mw))))))) f1 fk hw3 hi) ?_
  rintro h7 tk7 _ F7 N7 _
  refine wpAny_execs_nil ?_
  refine ⟨rfl, h7, tk7, _, (L + 6, o6') :: (L + 7, o7') :: tail, rfl, F7, fun p hp => N7 p ?_, fun p hp => ?_, ?_⟩
  · exact memc hp (.tail _ (.tail _ (.tail _ (.tail _ (.tail _ (.tail _ (.head _))))))) (fun p hp => memc hp (.tail _ (.tail _ (.tail _ (.tail _ (.tail _ (.head _)))))) (fun p hp => memc hp (.head _) (fun p hp => .tail _ (.tail _ (.tail _ (.tail _ (.tail _ (.tail _ (.tail _ hp)))))))))
  · exact memc hp (i6) (fun p hp => memc hp (i7) (fun p hp => iT p hp))
  · exact ⟨o6', o7', _, _, rfl, c6', c7', f1, f2, f3⟩
/-- loop 2 is through -/
noncomputable def Mid2 (h₀ : Heap) (L : Addr) (s s' : Shared) : Prop := ∃ h' tk m', s' = { s with heap := h', toks := tk } ∧ Fr h₀ L h' m'
theorem q6 {s : Shared} {m : Str → Option Value} {news : List (Addr × Obj)} {N0 : Int} {la ta wa : Addr} {lsv tsv wsv : List Value} {kl kt kw : Nat} {o5 : Obj} {t5 : Tok} {tail : List (Addr × Obj)} (X : Ctx0 w mean mg mb base h₀ sc vs ns) (S : T2 N0 L la ta wa lsv tsv wsv kl kt kw o5 t5 tail) (F : Fr h₀ L s.heap m) (N : News h₀ L s.heap news) (hJ : J2 L la ta wa tail 0 m news) :
    wpAny (model Challenge.rw_op0029_01.row.prog w) (callerA.deeper (lawEnv L fa cd)) (exec (lawSt 6) (lawEnv L fa cd)) (Nx (Mid2 h₀ L s)) (fun _ _ => False) s := by
  have B := X.below
  have T := X.top
  have KX := X.part
  revert KX
  k_fill
  intro KX
  rw [LS6.2]
  dsimp only [lawEnv, LS6, LNM, LSC]
  obtain ⟨hp, gn, dr, tok, os⟩ := s
  dsimp only at N F ⊢
  try k_fold
  repeat ((fail_if_success (with_reducible show wpAny _ _ (pyIter _) _ _ _)); first | walk1 | (dsimp only; walk1))
  rename Fr _ _ _ _ => lF
  rename News _ _ _ _ => lN
  rename IsRange _ _ _ _ _ _ _ _ => lR
  with_unfolding_all refine iter_rangeUnr (n := 11) (by rfl) lR (by first | decide | rfl) (by first | decide | rfl) lF lN ?_
  intro I hI
  refine range_inv (J2 L la ta wa tail) (fun i m' news' t h' tk' hi hj off F' N' => ?_) (fun m' news' h' tk' hj F' N' => ?_) 11 0 m news rfl hJ (fun p hp => Nat.ne_of_lt (hI p hp))
  · clear lF lN lR
    exact turn2 (fa := fa) (cd := cd) X S hi hj off F' N'
  · exact ⟨rfl, h', tk', m', rfl, F'⟩
end lawO
end Mine
end

/- LawP -/
section
open PySem PySem.W PyProof.Rows PySem.Calls PySem.Spec
open PyProof.Rows.LCg
set_option maxRecDepth 100000
set_option maxHeartbeats 4000000
set_option linter.all false
namespace Mine
section lawP
variable {w : World} {mean : ExcName → Option Value} {mg mb : Str → Option Value} {base h₀ : Heap} {sc : Addr} {vs : List Value} {ns : List Int} {L fa : Addr} {cd : Value}
theorem list8 {α : Type} {d : α} {l : List α} (h : l.length = 8) : l = [(l[0]?).getD d, (l[1]?).getD d, (l[2]?).getD d, (l[3]?).getD d, (l[4]?).getD d, (l[5]?).getD d, (l[6]?).getD d, (l[7]?).getD d] := by
  match l, h with
  | [a, b, c, e, f, g, i, j], _ => rfl
theorem law_list : lawRec.body = [lawSt 0, lawSt 1, lawSt 2, lawSt 3, lawSt 4, lawSt 5, lawSt 6, lawSt 7] := list8 (by decide +kernel)
theorem q7 {s : Shared} {m : Str → Option Value} (X : Ctx0 w mean mg mb base h₀ sc vs ns) (F : Fr h₀ L s.heap m) :
    wpAny (model Challenge.rw_op0029_01.row.prog w) (callerA.deeper (lawEnv L fa cd)) (exec (lawSt 7) (lawEnv L fa cd)) (fun fl s' => fl = .ret (.bool true) ∧ Mid2 h₀ L s s') (fun _ _ => False) s := by
  rw [LS7.2]
  dsimp only [lawEnv, LS7, LNM, LSC]
  refine wpAny_Return_some ?_
  have N : News h₀ L s.heap [] := News.nil
  obtain ⟨hp, gn, dr, tok, os⟩ := s
  dsimp only at N F ⊢
  k_steps
  exact ⟨_, _, _, rfl, F⟩
theorem ListsAre.grow {N : Int} {i : Nat} {ls : List Value} {tail tail' : List (Addr × Obj)} (h : ListsAre N i ls tail) (hs : ∀ a n t1 t2 k, (a, pairO n t1 t2 k) ∈ tail → (a, pairO n t1 t2 k) ∈ tail') : ListsAre N i ls tail' :=
  ⟨h.1, fun j hj => let ⟨a, t1, t2, k, e, q⟩ := h.2 j hj; ⟨a, t1, t2, k, e, hs _ _ _ _ _ q⟩⟩
theorem cell_ne {g : Heap} {a b : Addr} {n : Int} {t1 t2 : Tok} {k : Nat} {o : Obj} {v : Option Value} (ha : g.get? a = some (pairO n t1 t2 k)) (hb : g.get? b = some o) (ho : o.data = .cell v) : @Ne Nat a b := by
  rintro rfl
  rw [ha] at hb
  have := Option.some.inj hb
  rw [← this] at ho
  cases ho
theorem law_core {s : Shared} {m : Str → Option Value} {o7 o6 o5 o4 o3 o2 o1 : Obj} (X : Ctx0 w mean mg mb base h₀ sc vs ns) (F : Fr h₀ L s.heap m) (N : News h₀ L s.heap (cellsL L o7 o6 o5 o4 o3 o2 o1))
    (c1 : o1.data = .cell (some (.ref sc))) (c2 : o2.data = .cell none) (c3 : o3.data = .cell none) (c4 : o4.data = .cell none) (c5 : o5.data = .cell none) (c6 : o6.data = .cell none) (c7 : o7.data = .cell none) :
    wpAny (model Challenge.rw_op0029_01.row.prog w) (callerA.deeper (lawEnv L fa cd)) (execs lawRec.body (lawEnv L fa cd)) (fun fl s' => fl = .ret (.bool true) ∧ Mid2 h₀ L s s') (fun _ _ => False) s := by
  rw [law_list]
  refine execs_cut _ (s1 X F N c1 c2) ?_
  rintro s₁ ⟨h1, tk1, o2', f, tf, rfl, F1, N1, c2', f0, f1⟩
  try dsimp only at F1 N1
  refine execs_cut _ (s2 X F1 N1 c1 c3) ?_
  rintro s₂ ⟨h2, tk2, o3', l, tl, rfl, F2, N2, c3', l0, l1⟩
  try dsimp only at F2 N2
  refine execs_cut _ (s3 X F2 N2 c2' c3' c4 f0 f1 l0 l1) ?_
  rintro s₃ ⟨h3, tk3, o4', r, ys, rfl, F3, N3, c4', off3, hI⟩
  try dsimp only at F3 N3
  refine execs_cut _ (s4 X F3 N3) ?_
  rintro s₄ ⟨h4, tk4, m4, wa, ta, la, rfl, F4, N4, e1, e2, e3, rw', Lw, wt, tl'⟩
  try dsimp only at F4 N4
  generalize hN0 : 4096 * f + l = N0 at *
  obtain ⟨n7, n6, n5, n4, n3, n2, n1⟩ := off3
  -- loop 1
  have rLt : @LT.lt Nat _ r wa := rw'
  have N4' : News h₀ L h4 ((la, PySem.W.listOf (([] : List Value)).toArray 0) :: (ta, PySem.W.listOf (([] : List Value)).toArray 0) :: (wa, PySem.W.listOf (([] : List Value)).toArray 0) :: (L + 4, o4') :: (r, lst ys) :: [(L + 7, o7), (L + 6, o6), (L + 5, o5)]) := fun p hp => N4 p (by
    exact memc hp (.head _) (fun p hp => memc hp (.tail _ (.head _)) (fun p hp => memc hp (.tail _ (.tail _ (.head _))) (fun p hp => memc hp (.tail _ (.tail _ (.tail _ (.tail _ (.tail _ (.tail _ (.tail _ (.head _)))))))) (fun p hp => memc hp (.tail _ (.tail _ (.tail _ (.head _)))) (fun p hp => memc hp (.tail _ (.tail _ (.tail _ (.tail _ (.head _))))) (fun p hp => memc hp (.tail _ (.tail _ (.tail _ (.tail _ (.tail _ (.head _)))))) (fun p hp => memc hp (.tail _ (.tail _ (.tail _ (.tail _ (.tail _ (.tail _ (.head _))))))) (fun _ h => nomatch h)))))))))
  have offc : OwnOff ((r, lst ys) :: [(L + 7, o7), (L + 6, o6), (L + 5, o5)]) [la, ta, wa, L + 4] := by
    intro p hp b hb
    have hx : @LT.lt Nat _ p.1 wa ∧ @Ne Nat p.1 (L + 4) := by
      exact memc hp (⟨rLt, Ne.symm n4⟩) (fun p hp => memc hp (⟨Lw, addL_ne L (by decide)⟩) (fun p hp => memc hp (⟨addL_lt Lw (by decide), addL_ne L (by decide)⟩) (fun p hp => memc hp (⟨addL_lt Lw (by decide), addL_ne L (by decide)⟩) (fun _ h => nomatch h))))
    obtain ⟨hx1, hx2⟩ := hx
    exact memc hb ((Nat.ne_of_lt (Nat.lt_trans hx1 (Nat.lt_trans wt tl')))) (fun b hb => memc hb ((Nat.ne_of_lt (Nat.lt_trans hx1 wt))) (fun b hb => memc hb ((Nat.ne_of_lt hx1)) (fun b hb => memc hb (hx2) (fun _ h => nomatch h))))
  have hJ1 : J1 N0 L la ta wa [(L + 7, o7), (L + 6, o6), (L + 5, o5)] 0 m4 ((la, PySem.W.listOf (([] : List Value)).toArray 0) :: (ta, PySem.W.listOf (([] : List Value)).toArray 0) :: (wa, PySem.W.listOf (([] : List Value)).toArray 0) :: (L + 4, o4') :: (r, lst ys) :: [(L + 7, o7), (L + 6, o6), (L + 5, o5)]) :=
    ⟨[], [], [], 0, 0, 0, o4', r, ys, (r, lst ys) :: [(L + 7, o7), (L + 6, o6), (L + 5, o5)], rfl, e1, e2, e3, ⟨rfl, fun _ h => absurd h (Nat.not_lt_zero _)⟩, ⟨rfl, fun _ h => absurd h (Nat.not_lt_zero _)⟩, ⟨rfl, fun _ h => absurd h (Nat.not_lt_zero _)⟩, c4', .head _, hI, fun p hp => .tail _ hp, offc⟩
  refine execs_cut _ (q4 X F4 N4' hJ1 Lw wt tl') ?_
  rintro s₅ ⟨h5, tk5, m5, news5, rfl, F5, N5, hJ5⟩
  try dsimp only at F5 N5
  obtain ⟨lsv, tsv, wsv, kl, kt, kw, o4'', r5, ys5, tail5, rfl, a1, a2, a3, hW, hT, hLs, _, _, _, hcs, off5⟩ := hJ5
  have w7 : (L + 7, o7) ∈ tail5 := hcs _ (.head _)
  have w6 : (L + 6, o6) ∈ tail5 := hcs _ (.tail _ (.head _))
  have w5 : (L + 5, o5) ∈ tail5 := hcs _ (.tail _ (.tail _ (.head _)))
  have z : ∀ p ∈ tail5, h5.get? p.1 = some p.2 := fun p hp => (N5 p (.tail _ (.tail _ (.tail _ (.tail _ hp))))).1
  generalize hfl : tail5.filter (fun p => decide (@Ne Nat p.1 (L + 5) ∧ @Ne Nat p.1 (L + 6) ∧ @Ne Nat p.1 (L + 7))) = flt
  have hfo : ∀ p ∈ flt, p ∈ tail5 ∧ @Ne Nat p.1 (L + 5) ∧ @Ne Nat p.1 (L + 6) ∧ @Ne Nat p.1 (L + 7) := fun p hp => by
    rw [← hfl] at hp
    have := List.mem_filter.mp hp
    exact ⟨this.1, of_decide_eq_true this.2⟩
  have hpair : ∀ a n t1 t2 k, (a, pairO n t1 t2 k) ∈ tail5 → (a, pairO n t1 t2 k) ∈ flt := fun a n t1 t2 k hm => by
    rw [← hfl]
    exact List.mem_filter.mpr ⟨hm, decide_eq_true ⟨cell_ne (z _ hm) (z _ w5) c5, cell_ne (z _ hm) (z _ w6) c6, cell_ne (z _ hm) (z _ w7) c7⟩⟩
  clear hfl
  have N5' : News h₀ L h5 ((L + 5, o5) :: (la, PySem.W.listOf lsv.toArray kl) :: (ta, PySem.W.listOf tsv.toArray kt) :: (wa, PySem.W.listOf wsv.toArray kw) :: (L + 6, o6) :: (L + 7, o7) :: flt) := fun p hp => N5 p (by
    exact memc hp (.tail _ (.tail _ (.tail _ (.tail _ w5)))) (fun p hp => memc hp (.head _) (fun p hp => memc hp (.tail _ (.head _)) (fun p hp => memc hp (.tail _ (.tail _ (.head _))) (fun p hp => memc hp (.tail _ (.tail _ (.tail _ (.tail _ w6)))) (fun p hp => memc hp (.tail _ (.tail _ (.tail _ (.tail _ w7)))) (fun p hp => .tail _ (.tail _ (.tail _ (.tail _ (hfo p hp).1))))))))))
  have la7 : @LT.lt Nat _ (L + 7) la := Nat.lt_trans Lw (Nat.lt_trans wt tl')
  have ta7 : @LT.lt Nat _ (L + 7) ta := Nat.lt_trans Lw wt
  have offs : OwnOff ((la, PySem.W.listOf lsv.toArray kl) :: (ta, PySem.W.listOf tsv.toArray kt) :: (wa, PySem.W.listOf wsv.toArray kw) :: (L + 6, o6) :: (L + 7, o7) :: flt) [L + 5] := by
    intro p hp b hb
    rw [List.mem_singleton.mp hb]
    exact memc hp ((addL_above la7 (by decide))) (fun p hp => memc hp ((addL_above ta7 (by decide))) (fun p hp => memc hp ((addL_above Lw (by decide))) (fun p hp => memc hp ((addL_ne L (by decide))) (fun p hp => memc hp ((addL_ne L (by decide))) (fun p hp => (hfo p hp).2.1)))))
  refine cutX (q5 X F5 N5' c5 offs) ?_
  rintro h6 tk6 ⟨o5', t5⟩ F6 N6 c5'
  dsimp only at N6 c5'
  have N6' : News h₀ L h6 ((L + 6, o6) :: (L + 7, o7) :: (L + 5, o5') :: (la, PySem.W.listOf lsv.toArray kl) :: (ta, PySem.W.listOf tsv.toArray kt) :: (wa, PySem.W.listOf wsv.toArray kw) :: flt) := fun p hp => N6 p (by
    exact memc hp (.tail _ (.tail _ (.tail _ (.tail _ (.head _))))) (fun p hp => memc hp (.tail _ (.tail _ (.tail _ (.tail _ (.tail _ (.head _)))))) (fun p hp => memc hp (.head _) (fun p hp => memc hp (.tail _ (.head _)) (fun p hp => memc hp (.tail _ (.tail _ (.head _))) (fun p hp => memc hp (.tail _ (.tail _ (.tail _ (.head _)))) (fun p hp => .tail _ (.tail _ (.tail _ (.tail _ (.tail _ (.tail _ hp))))))))))))
  have S : T2 N0 L la ta wa lsv tsv wsv kl kt kw o5' t5 ((L + 5, o5') :: (la, PySem.W.listOf lsv.toArray kl) :: (ta, PySem.W.listOf tsv.toArray kt) :: (wa, PySem.W.listOf wsv.toArray kw) :: flt) := by
    refine ⟨hW, hT, hLs.grow fun a n t1 t2 k hm => .tail _ (.tail _ (.tail _ (.tail _ (hpair _ _ _ _ _ hm)))), .tail _ (.tail _ (.tail _ (.head _))), .tail _ (.tail _ (.head _)), .tail _ (.head _), .head _, c5', ?_⟩
    intro p hp b hb
    have hx : @Ne Nat p.1 (L + 6) ∧ @Ne Nat p.1 (L + 7) := by
      exact memc hp (⟨addL_ne L (by decide), addL_ne L (by decide)⟩) (fun p hp => memc hp (⟨addL_above la7 (by decide), addL_above la7 (by decide)⟩) (fun p hp => memc hp (⟨addL_above ta7 (by decide), addL_above ta7 (by decide)⟩) (fun p hp => memc hp (⟨addL_above Lw (by decide), addL_above Lw (by decide)⟩) (fun p hp => ⟨(hfo p hp).2.2.1, (hfo p hp).2.2.2⟩))))
    exact memc hb (hx.1) (fun b hb => memc hb (hx.2) (fun _ h => nomatch h))
  refine execs_cut _ (q6 X S F6 N6' ⟨o6, o7, _, _, rfl, c6, c7, a1, a2, a3⟩) ?_
  rintro s₇ ⟨h7, tk7, m7, rfl, F7⟩
  refine wpAny_execs_cons (wpAny_mono (q7 X F7) (fun fl s₈ hf => ?_) fun _ _ e => e)
  obtain ⟨rfl, h8, tk8, m8, rfl, F8⟩ := hf
  exact ⟨rfl, h8, tk8, m8, rfl, F8⟩
end lawP
end Mine
end

/- Ent -/
section
open PySem PySem.W PyProof.Rows PySem.Calls PySem.Spec
open PyProof.Rows.LCg
set_option maxRecDepth 100000
set_option maxHeartbeats 4000000
set_option linter.all false
theorem Mine.mkCtx {w : World} {mean : ExcName → Option Value} {mg mb : Str → Option Value} {base h₀ : Heap} {sc : Addr} {vs : List Value} {ns : List Int} (part : (Mine.hd.heap_39 w.params).In h₀) (top : Top Mine.hd.view_39 (looseW Mine.hd.view_39 [Str.ofString "_filemode_table", Str.ofString "b2a_base64", Str.ofString "b64encode"]) mean mg mb h₀)
    (theList : h₀.IsList sc vs.toArray) (theInts : IntsAre vs ns) (few : ns.length ≤ 63) (below : Below callerA base [] h₀) : Mine.Ctx0 w mean mg mb base h₀ sc vs ns := ⟨below, part, top, theList, theInts, few⟩
theorem Mine.law_core2 {rec : DefRec} {w : World} {mean : ExcName → Option Value} {mg mb : Str → Option Value} {base h₀ : Heap} {sc : Addr} {vs : List Value} {ns : List Int} {L fa : Addr} {cd : Value} (hr : rec = Mine.lawRec) {h : Heap} {g : Array GenState} {d : Drawn} {tk : Nat} {os : OsState} {m : Str → Option Value} {o7 o6 o5 o4 o3 o2 o1 : Obj} (X : Mine.Ctx0 w mean mg mb base h₀ sc vs ns) (F : Fr h₀ L h m) (N : News h₀ L h (Mine.cellsL L o7 o6 o5 o4 o3 o2 o1))
    (c1 : o1.data = .cell (some (.ref sc))) (c2 : o2.data = .cell none) (c3 : o3.data = .cell none) (c4 : o4.data = .cell none) (c5 : o5.data = .cell none) (c6 : o6.data = .cell none) (c7 : o7.data = .cell none) :
    wpAny (model Challenge.rw_op0029_01.row.prog w) (callerA.deeper (envOfC rec.name rec.scope L fa cd)) (execs rec.body (envOfC rec.name rec.scope L fa cd)) (fun fl s' => fl = .ret (.bool true) ∧ Mine.Mid2 h₀ L ⟨h, g, d, tk, os⟩ s') (fun _ _ => False) ⟨h, g, d, tk, os⟩ := by
  subst hr
  rw [Mine.LNM.2, Mine.LSC.2]
  exact Mine.law_core X F N c1 c2 c3 c4 c5 c6 c7
theorem Mine.ent : PySem.Challenge.rw_op0029_01.Holds := Mine.hd (by
  k_go0
  rename Fr _ _ _ _ => lF
  rename News _ _ _ _ => lN
  rename Below _ _ _ _ => lB
  rename Top _ _ _ _ _ _ => lT
  rename IntsAre _ _ => lI
  rename Heap.IsList _ _ _ => lL
  rename Frag.In _ _ => lX
  have X := Mine.mkCtx lX lT lL lI (by omega) lB
  refine wpAny_mono (Mine.law_core2 ?hr X lF lN ?c1 ?c2 ?c3 ?c4 ?c5 ?c6 ?c7) (fun fl s' hf => ?_) (fun _ _ e => e.elim)
  case hr => conv => rhs; whnf
  all_goals (try assumption)
  obtain ⟨rfl, h', tk', m', rfl, F'⟩ := hf
  dsimp only
  k_steps
  skip)
end

end
open PySem PySem.W PyProof.Rows
set_option maxRecDepth 100000 in
set_option maxHeartbeats 8000000 in
theorem PySem.Challenge.cw_op0029_01_holds : PySem.Challenge.rw_op0029_01.Holds := by
  exact Mine.ent
