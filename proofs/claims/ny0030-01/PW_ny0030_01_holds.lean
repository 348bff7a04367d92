import PyProof.Rows.All
import Wide.All
import OpenK.AllK
import Wide.FinOn
import PySem.Challenge.RW_ny0030_01
set_option Elab.async false
set_option linter.all false

/-! Top1 -/
section
open PySem PySem.W PyProof.Rows
namespace Mine
set_option maxRecDepth 100000 in
set_option maxHeartbeats 8000000 in
open_top hd for PySem.Challenge.rw_ny0030_01
end Mine
end

/-! Base1 -/
section
open PySem PySem.W PySem.Calls PyProof.Rows
set_option maxRecDepth 100000
namespace Mine

abbrev PR : Program := PySem.Challenge.rw_ny0030_01.row.prog

theorem enter {prog : Program} {K : Frag} {w : World} {A : Around} {s : Shared} {Q E : Value → Shared → Prop} {f : Addr} {vals : List Value} {p : Program} {loose : List Str} {mean : ExcName → Option Value} {mg mb : Str → Option Value}
    {name qual : Str} {params : Arguments} {body : List Stmt} {scope : Scope} {dV kV doc pm cdv ct oc : Value} {an od : Option Addr} {osl : Array (Option Value)} {binds : List (Str × Value)}
    (X : K.In s.heap) (T : Top p loose mean mg mb s.heap)
    (ho : K.lookup f = some ⟨oc, od, .func (fnOf name qual params body scope dV kV doc pm an cdv ct), osl⟩) (hcd : codeIn K cdv qual = true) (hroom : A.depth < recursionLimit)
    (hbind : BindsTo s (fnOf name qual params body scope dV kV doc pm an cdv ct) ⟨vals, []⟩ binds) (hloc : ∀ y ∈ binds, scope.names.lookup y.1 = some .local)
    (h : ∀ L' h₁, Fr s.heap L' h₁ (fun y => binds.reverse.lookup y) → News s.heap L' h₁ [] →
      wpAny (model prog w) (A.deeper (envOf qual scope L' f cdv)) (execs body (envOf qual scope L' f cdv))
        (fun fl s' => Q (match fl with | .ret v => v | _ => .none) s') (fun _ _ => False)
        { s with heap := h₁, toks := s.toks + binds.length })
    (hco : scope.isCoroutine = false) (hgen : scope.isGenerator = false) (hk : scope.kind = .function)
    (hcell : ∀ x ∈ scope.names, x.2 ≠ .cell) : wpAny (model prog w) A (call (.ref f) vals) Q E s := by
  refine wpAny_call ?_
  refine codeAny_call_def (fd := fnOf name qual params body scope dV kV doc pm an cdv ct) (body := body) (binds := binds) hroom (X _ _ ho) rfl T.nolimit (codeRec_of X hcd) rfl hbind hcell hloc (fun h₁ hns hk₁ => ?_) hco hgen hk
  refine wpAny_mono (h s.heap.objs.size h₁ ⟨hns, hk₁, Nat.le_refl _⟩ News.nil) (fun fl s' hl => hl) fun _ _ y => y.elim

theorem frUp {h₀ h h' : Heap} {L : Addr} {m : Str → Option Value} (F : Fr h₀ L h m) (st : h.StaysIn h') : Fr h₀ L h' m :=
  ⟨F.ns.keeps st, fun b o e => st b o (F.keep b o e), F.above⟩
theorem newsUp {h₀ h h' : Heap} {L : Addr} {news : List (Addr × Obj)} (N : News h₀ L h news) (st : h.StaysIn h') : News h₀ L h' news :=
  fun p hp => ⟨st _ _ (N p hp).1, (N p hp).2⟩

end Mine
end

/-! Spec1 -/
section
open PySem PySem.W PySem.Builtin.Int PySem.Calls PyProof.Rows PySem.Spec
namespace Mine
/-- what _parse_varint reads behind an octet b, the value so far v -/
def more : Nat → Nat → List Nat → Option (Nat × List Nat)
  | b, v, [] => if b / 64 % 2 = 1 then none else some (v, [])
  | b, v, b' :: r => if b / 64 % 2 = 1 then more b' (v * 64 + b' % 64) r else some (v, b' :: r)
def varint : List Nat → Option (Nat × List Nat)
  | [] => none
  | b :: r => more b (b % 64) r
theorem and64 (b : Nat) (hb : b < 256) : (Builtin.bitAnd (b : Int) 64 ≠ 0) ↔ b / 64 % 2 = 1 := by
  have h : ∀ b : Fin 256, (Builtin.bitAnd ((b.val : Nat) : Int) 64 ≠ 0) ↔ b.val / 64 % 2 = 1 := by decide +kernel
  exact h ⟨b, hb⟩
theorem shiftOr (v b : Nat) : Builtin.bitOr ((v : Int) * 2 ^ (6 : Int).toNat) (Builtin.bitAnd (b : Int) 63) = ((v * 64 + b % 64 : Nat) : Int) := by
  rw [bitAnd_m6, bitOr_and]
  have e1 : ((v : Int) * 2 ^ (6 : Int).toNat) = ((v * 64 : Nat) : Int) := by simp
  have e2 : ((b : Int) % 64) = ((b % 64 : Nat) : Int) := by simp
  rw [e1, e2]
  have e3 : Builtin.bitAnd ((v * 64 : Nat) : Int) ((b % 64 : Nat) : Int) = 0 := by
    unfold Builtin.bitAnd
    have h1 : decide (0 ≤ ((v * 64 : Nat) : Int)) = true := decide_eq_true (Int.natCast_nonneg _)
    have h2 : decide (0 ≤ ((b % 64 : Nat) : Int)) = true := decide_eq_true (Int.natCast_nonneg _)
    rw [h1, h2]
    simp only [Int.toNat_natCast]
    have : (v * 64) &&& (b % 64) = 0 := by
      apply Nat.eq_of_testBit_eq
      intro k
      rw [Nat.testBit_and, Nat.zero_testBit]
      by_cases hk : k < 6
      · have : (v * 64).testBit k = false := by
          rw [show v * 64 = 2 ^ 6 * v by omega, Nat.testBit_two_pow_mul]
          simp; omega
        simp [this]
      · have : (b % 64).testBit k = false := Nat.testBit_lt_two_pow (by
          have h3 : b % 64 < 2 ^ 6 := Nat.mod_lt _ (by decide)
          exact Nat.lt_of_lt_of_le h3 (Nat.pow_le_pow_right (by decide) (by omega)))
        simp [this]
    simp [this]
  rw [e3]; omega
theorem drop_more {os : List Nat} {j : Nat} (h : j < os.length) : os.drop j = os[j] :: os.drop (j + 1) := List.drop_eq_getElem_cons h
theorem more_go {b v : Nat} {os : List Nat} {j : Nat} (h : j < os.length) (hb : b / 64 % 2 = 1) : more b v (os.drop j) = more os[j] (v * 64 + os[j] % 64) (os.drop (j + 1)) := by
  rw [drop_more h, more, if_pos hb]
theorem more_end {b v : Nat} (hb : b / 64 % 2 = 1) : more b v [] = none := by rw [more, if_pos hb]
theorem more_stop {b v : Nat} {r : List Nat} (hb : ¬ b / 64 % 2 = 1) : more b v r = some (v, r) := by
  cases r <;> rw [more, if_neg hb]
theorem bits_small {v j : Nat} (h : v < 64 ^ j) (hj : j ≤ 60) : (Builtin.Int.intBits (v : Int) : Int) + 6 ≤ 2 ^ 27 := by
  have h2 : intBits (v : Int) ≤ 360 := intBits_le_iff.mpr (by
    have e : (v : Int).natAbs = v := by simp
    rw [e]
    refine Nat.lt_of_lt_of_le h ?_
    rw [show (64 : Nat) = 2 ^ 6 by decide, ← Nat.pow_mul]
    exact Nat.pow_le_pow_right (by decide) (by omega))
  have : (intBits (v : Int) : Int) ≤ 360 := by omega
  show (intBits (v : Int) : Int) + 6 ≤ 2 ^ 27
  omega
theorem pow_more {v j b : Nat} (h : v < 64 ^ j) : v * 64 + b % 64 < 64 ^ (j + 1) := by
  rw [Nat.pow_succ]
  have : b % 64 < 64 := Nat.mod_lt _ (by decide)
  omega
end Mine
end

/-! Iter1 -/
section
open PySem PySem.W PySem.Calls PyProof.Rows PySem.Spec
set_option maxRecDepth 100000
namespace Mine

/-- a list's iterator at a place; the same behind its end -/
abbrev iterO (l : Addr) (i : Nat) : Obj := { cls := .type "list_iterator", data := .fields #[.ref l, .int i 0] }
abbrev iterE (i : Nat) : Obj := { cls := .type "list_iterator", data := .fields #[.none, .int i 0] }

section
variable {prog : Program} {w : World} {A : Around} {E : Value → Shared → Prop} {s : Shared} {h₀ : Heap} {L l it : Addr} {m : Str → Option Value} {rest : List (Addr × Obj)} {items : Array Value} {i : Nat} {x : Value} {Q : Value → Shared → Prop}

theorem iterAt {h : Heap} (e : h.get? it = some (iterO l i)) : h.IsListIter it l i := ⟨_, e, rfl, rfl⟩

theorem newsHead {h : Heap} {o o' : Obj} {f : Obj → Obj} (F : Fr h₀ L h m) (N : News h₀ L h ((it, o) :: rest)) (hne : ∀ p ∈ rest, p.1 ≠ it) (e : f o = o') (hf : o'.isFreed = false) :
    Fr h₀ L (h.update it f) m ∧ News h₀ L (h.update it f) ((it, o') :: rest) :=
  news_upd (pre := []) F N (fun _ h => nomatch h) hne e hf

theorem call_iter (hl : s.heap.IsList l items) (F : Fr h₀ L s.heap m) (N : News h₀ L s.heap rest)
    (h : ∀ I h', Fr h₀ L h' m → News h₀ L h' ((I, iterO l 0) :: rest) → (∀ p ∈ rest, p.1 < I) → Q (.ref I) { s with heap := h' }) :
    wpAny (model prog w) A (call (.builtin "iter") [.ref l]) Q E s := by
  refine call_function_entry (by decide +kernel) (by decide +kernel) kdk_entry_iter (kdk_args_iter _) ?_
  unfold Builtin.«iter»
  refine wpAny_bind (m := someArgs "iter" 1 2 _) (wpAny_of_eq (a := [Value.ref l]) (by first | rfl | kernel_rfl!) ?_)
  show wpAny _ _ (pyIter (.ref l) >>= _) _ _ _
  refine wpAny_bind (wpAny_pyIter_list hl ?_)
  exact wpAny_pure ⟨_, rfl, h _ _ (F.push _) (News.push F N _ rfl) (fun q hq => Heap.lt_size (N q hq).1)⟩

theorem call_next (F : Fr h₀ L s.heap m) (N : News h₀ L s.heap ((it, iterO l i) :: rest)) (hne : ∀ p ∈ rest, p.1 ≠ it) (hl : s.heap.IsList l items) (hx : items[i]? = some x)
    (h : ∀ h', Fr h₀ L h' m → News h₀ L h' ((it, iterO l (i + 1)) :: rest) → Q x { s with heap := h' }) :
    wpAny (model prog w) A (call (.builtin "next") [.ref it]) Q E s := by
  have ho := (N _ (.head _)).1
  have hit := iterAt ho
  obtain ⟨ol, hol, _, nl, hdl⟩ := hl
  refine call_function_entry (by decide +kernel) (by decide +kernel) kdk_entry_next (kdk_args_next _) ?_
  unfold Builtin.«next»
  refine wpAny_bind (m := someArgs "next" 1 2 _) (wpAny_of_eq (a := [Value.ref it]) (by first | rfl | kernel_rfl!) ?_)
  dsimp only
  refine wpAny_bind (wpAny_specialOf (name := Str.ofString "__next__") hit.typeIs slot_listiter_next.lookup ?_)
  refine wpAny_ite_split (fun hab => absurd hab (by decide)) (fun _ => ?_)
  refine wpAny_bind (wpAny_callSpecial?_slot (name := Str.ofString "__next__") hit.typeIs slot_listiter_next
    (wpAny_call_entry slot_listiter_next hit.typeIs entry_listiter_next ?_ (args_listiter_next _)))
  show wpAny _ _ (field (.ref it) 0 >>= _) _ _ s
  refine wpAny_bind (wpAny_field ho rfl (x := .ref l) rfl ?_)
  show wpAny _ _ (if (Value.ref l == Value.none) = true then _ else _) _ _ s
  rw [if_neg (show ¬ ((Value.ref l == Value.none) = true) from Bool.false_ne_true)]
  show wpAny _ _ (field (.ref it) 1 >>= _) _ _ s
  refine wpAny_bind (wpAny_field ho rfl (x := .int i 0) rfl ?_)
  show wpAny _ _ (seqItems? (.ref l) >>= _) _ _ s
  refine wpAny_bind (wpAny_seqItems hol hdl ?_)
  simp only [Int.toNat_natCast, hx]
  refine wpAny_bind (wpAny_setField ho rfl (by simp) (wpAny_pure ⟨x, rfl, wpAny_pure ⟨_, rfl, ?_⟩⟩))
  obtain ⟨F', N'⟩ := newsHead F N hne (f := Obj.mapFields (·.setIfInBounds 1 (rawInt ((i : Int) + 1)))) (o' := iterO l (i + 1)) rfl rfl
  exact h _ F' N'

theorem call_next_end (hh : A.handled = none) (F : Fr h₀ L s.heap m) (N : News h₀ L s.heap ((it, iterO l i) :: rest)) (hne : ∀ p ∈ rest, p.1 ≠ it) (hl : s.heap.IsList l items) (hx : items[i]? = none)
    (h : ∀ h h' e, Fr h₀ L h m → News h₀ L h ((it, iterE i) :: rest) → Heap.MadeExcOf h h' e (.type "StopIteration") [] → E (.ref e) { s with heap := h' }) :
    wpAny (model prog w) A (call (.builtin "next") [.ref it]) Q E s := by
  have ho := (N _ (.head _)).1
  have hit := iterAt ho
  obtain ⟨ol, hol, _, nl, hdl⟩ := hl
  refine call_function_entry (by decide +kernel) (by decide +kernel) kdk_entry_next (kdk_args_next _) ?_
  unfold Builtin.«next»
  refine wpAny_bind (m := someArgs "next" 1 2 _) (wpAny_of_eq (a := [Value.ref it]) (by first | rfl | kernel_rfl!) ?_)
  dsimp only
  refine wpAny_bind (wpAny_specialOf (name := Str.ofString "__next__") hit.typeIs slot_listiter_next.lookup ?_)
  refine wpAny_ite_split (fun hab => absurd hab (by decide)) (fun _ => ?_)
  refine wpAny_bind (wpAny_callSpecial?_slot (name := Str.ofString "__next__") hit.typeIs slot_listiter_next
    (wpAny_call_entry slot_listiter_next hit.typeIs entry_listiter_next ?_ (args_listiter_next _)))
  show wpAny _ _ (field (.ref it) 0 >>= _) _ _ s
  refine wpAny_bind (wpAny_field ho rfl (x := .ref l) rfl ?_)
  show wpAny _ _ (if (Value.ref l == Value.none) = true then _ else _) _ _ s
  rw [if_neg (show ¬ ((Value.ref l == Value.none) = true) from Bool.false_ne_true)]
  show wpAny _ _ (field (.ref it) 1 >>= _) _ _ s
  refine wpAny_bind (wpAny_field ho rfl (x := .int i 0) rfl ?_)
  show wpAny _ _ (seqItems? (.ref l) >>= _) _ _ s
  refine wpAny_bind (wpAny_seqItems hol hdl ?_)
  simp only [Int.toNat_natCast, hx]
  refine wpAny_bind (wpAny_rule (wpAny_bind (wpAny_setField ho rfl (by simp) ?_)))
  show wpAny _ _ (newExc (.type "StopIteration") [] >>= _) _ _ _
  refine wpAny_bind ?_
  simp only [newExc, newTuple]
  refine wpAny_bind (wpAny_newObj_type ?_ (by size_fits))
  refine wpAny_bind (m := firstArgMember _ _) (wpAny_of_eq (a := Value.none) (by first | rfl | (simp only [firstArgMember]; rfl)) ?_)
  refine wpAny_newObj_type ?_ (by size_fits)
  simp only [raiseNew]
  refine wpAny_bind (wpAny_handled ?_)
  rw [show A.in1.in1.handled = none from hh]
  refine wpAny_bind (wpAny_pure (wpAny_throw ?_))
  obtain ⟨F', N'⟩ := newsHead F N hne (f := Obj.mapFields (·.setIfInBounds 0 .none)) (o' := iterE i) rfl rfl
  refine h _ _ _ F' N' ⟨fun b o e => Heap.get?_push_of_some _ (Heap.get?_push_of_some _ e), ?_, _, Heap.get?_push_size _ rfl, ?_, Heap.get?_push_of_some _ (Heap.get?_push_size _ rfl)⟩
  · rw [Heap.size_push]
    cases q : (s.heap.update it (Obj.mapFields (·.setIfInBounds 0 .none))).get? ((s.heap.update it (Obj.mapFields (·.setIfInBounds 0 .none))).objs.size + 1) with
    | none => rfl
    | some o => exact absurd (Heap.lt_size q) (by exact Nat.not_lt.mpr (Nat.le_succ _))
  · cases q : (s.heap.update it (Obj.mapFields (·.setIfInBounds 0 .none))).get? ((s.heap.update it (Obj.mapFields (·.setIfInBounds 0 .none))).objs.size) with
    | none => rfl
    | some o => exact absurd (Heap.lt_size q) (Nat.lt_irrefl _)
end
end Mine
end

/-! TVar -/
section
open PySem PySem.W PySem.Calls PyProof.Rows PySem.Spec
set_option maxRecDepth 100000
set_option maxHeartbeats 8000000
namespace Mine
local macro_rules | `(tactic| k_steps) => `(tactic| repeat' ((fail_if_success (with_reducible show wpAny _ _ (exec (Stmt.While _ _ _ _) _) _ _ _)); (fail_if_success (with_reducible show wpAny _ _ (call (Value.ref _) _) _ _ _)); first | (k_unfold; (try dsimp only)) | (k_end; wrow_close) | walk1 | (dsimp only; walk1) | (leave1; walk_say "STEP leave1"; try dsimp only) | fail "no step"))
theorem fillit : (PySem.Challenge.rw_ny0030_01.prog, hd.heap_39) = (PySem.Challenge.rw_ny0030_01.prog, hd.heap_39) := by
  k_fill
  exact rfl
theorem c_varint {w : World} {A₀ A : Around} {base h₀ : Heap} {outer : List Env} {L it l : Addr} {m : Str → Option Value} {env : Env} {s : Shared} {Q E : Value → Shared → Prop} {rest : List (Addr × Obj)} {vs : List Value} {mean : ExcName → Option Value} {mg mb : Str → Option Value}
    (os : List Nat) (i : Nat) (hi : i ≤ os.length) (hos : ∀ b ∈ os, b < 256) (hlen : os.length ≤ 60)
    (B : Below A₀ base outer h₀) (F : Fr h₀ L s.heap m) (X₀ : (hd.heap_39 w.params).In h₀) (N : News h₀ L s.heap ((it, iterO l i) :: rest)) (T : Top hd.view_39 (looseW hd.view_39 []) mean mg mb h₀)
    (hA : A.frames = some (env :: outer)) (hf : env.frame = some L) (hke : env.scope.kind = .function) (hh : A.handled = none) (hroom : A.depth + 1 < recursionLimit) (hun : A.units + 30 < cLine)
    (hl : h₀.IsList l vs.toArray) (hI : IntsAre vs (os.map fun n : Nat => (n : Int))) (hne : ∀ p ∈ rest, p.1 ≠ it)
    (hok : ∀ v r h' tk t, varint (os.drop i) = some (v, r) → Fr h₀ L h' m → News h₀ L h' ((it, iterO l (os.length - r.length)) :: rest) → Q (.int v t) { s with heap := h', toks := tk })
    (herr : varint (os.drop i) = none → ∀ e t h' tk G, RaisedS base G (env :: outer) e (.type "StopIteration") t [] ((it, iterE os.length) :: rest) h' → Fr h₀ L G m → G.UpToSlots h' → E (.ref e) { s with heap := h', toks := tk }) :
    wpAny (model PySem.Challenge.rw_ny0030_01.row.prog w) A (call (.ref 72) [.ref it]) Q E s := by
  refine wpAny_call ?_
  refine' code_def (binds := [(Str.ofString "iterator", .ref it)]) B F X₀ N T hA hf hke ?k6 ?k7 ?k8 ?k9 ?kB ?_ ?c2 ?c3 ?c4 ?c5
  case k6 => k_is
  case k7 => k_is
  case k8 => omega
  case k9 => exact BindsTo.of_eq rfl
  case c5 => decide
  case kB => exact locs rfl
  case c2 => exact rfl
  case c3 => exact rfl
  case c4 => exact rfl
  intro g L' h' FG' F' N' B' X' T'
  have hl' : g.IsList l vs.toArray := stays_list FG'.keep hl
  (try dsimp only)
  w_on
  k_steps
  by_cases hlt : i < os.length
  · obtain ⟨ti, hxi⟩ := hI.get i ((os[i] : Nat) : Int) (by simp [hlt])
    refine call_next (by assumption) (by assumption) hne (stays_list (Fr.keep (by assumption)) hl') (by simpa using hxi) ?_
    intro h1 F1 N1
    clear F' N'
    k_steps
    have eb : Builtin.bitAnd ((os[i] : Nat) : Int) 63 = ((os[i] % 64 : Nat) : Int) := by rw [bitAnd_m6]; simp
    rename_i F2 N2
    rw [eb] at F2
    refine' ksw_while (σ := Nat × Nat × Nat × Tok × Tok) (fun c => (it, iterO l c.1) :: rest) (fun c => [(Str.ofString "b", .int (c.2.1 : Nat) c.2.2.2.1), (Str.ofString "val", .int (c.2.2.1 : Nat) c.2.2.2.2)]) (fun _ => True) []
      (fun c => c.1 ≤ os.length ∧ c.2.1 < 256 ∧ c.2.2.1 < 64 ^ c.1 ∧ more c.2.1 c.2.2.1 (os.drop c.1) = varint (os.drop i)) (fun c => os.length - c.1) (i + 1, os[i], os[i] % 64, ti, _) F2 N2 trivial ?hk ?hp ?turn
    case hk => kst_all
    case hp =>
      refine ⟨hlt, hos _ (List.getElem_mem hlt), ?_, ?_⟩
      · exact Nat.lt_of_lt_of_le (Nat.mod_lt _ (by decide)) (Nat.le_self_pow (by omega) _)
      · rw [drop_more hlt, varint]
    case turn =>
      rintro ⟨j, b, v, tb, tv⟩ u h3 tk3 _ ⟨hj, hb, hv, hm⟩ F3 N3
      dsimp only at hj hb hv hm F3 N3 ⊢
      k_steps
      · have hbit := (and64 b hb).mp (by assumption)
        dsimp only
        refine ilshift_int (by decide) (bits_small hv (by omega)) ?_
        dsimp only
        k_steps
        by_cases hjl : j < os.length
        · obtain ⟨tj, hxj⟩ := hI.get j ((os[j] : Nat) : Int) (by simp [hjl])
          refine call_next (by assumption) (by assumption) hne (stays_list (Fr.keep (by assumption)) hl') (by simpa using hxj) ?_
          intro h5 F5 N5
          k_steps
          rename_i F6 N6
          rw [shiftOr] at F6
          refine ksw_end (j + 1, os[j], v * 64 + os[j] % 64, tj, _) F6 N6 (fun _ h => h) trivial (by kst_all) (by intro z h2 h3; have q1 := h2 _ (.head _); have q2 := h2 _ (.tail _ (.head _)); dsimp only at q1 q2; simp [q1, q2, kstB]) ⟨hjl, hos _ (List.getElem_mem hjl), pow_more hv, ?_⟩ (by show os.length - (j + 1) < os.length - j; omega)
          rw [← hm, more_go hjl hbit]
        · have ej : j = os.length := by omega
          subst ej
          refine call_next_end hh (by assumption) (by assumption) hne (stays_list (Fr.keep (by assumption)) hl') (by simp [hI.length]) ?_
          intro h5 h6 e F5 N5 X5
          refine leave_raiseS B' X5 F5 N5 (fun h7 t RS RK up => ?_)
          refine herr ?_ e t h7 _ g RS FG' up
          rw [← hm, List.drop_length, more_end hbit]
      · have hbit : ¬ b / 64 % 2 = 1 := fun h => ((and64 b hb).mpr h) (by assumption)
        rename_i kF kN _ _
        rw [more_stop hbit] at hm
        refine hok v _ _ _ _ hm.symm kF ?_
        have e : os.length - (os.drop j).length = j := by rw [List.length_drop]; omega
        rw [e]; exact kN
  · have ei : i = os.length := by omega
    subst ei
    refine call_next_end hh (by assumption) (by assumption) hne (stays_list (Fr.keep (by assumption)) hl') (by simp [hI.length]) ?_
    intro h5 h6 e F5 N5 X5
    refine leave_raiseS B' X5 F5 N5 (fun h7 t RS RK up => ?_)
    refine herr ?_ e t h7 _ g RS FG' up
    rw [List.drop_length, varint]
end Mine
end

/-! T257 -/
section
open PySem PySem.W PySem.Calls PyProof.Rows
set_option maxRecDepth 100000
set_option maxHeartbeats 8000000
namespace Mine
local macro_rules | `(tactic| k_steps) => `(tactic| repeat' ((fail_if_success (with_reducible show wpAny _ _ (exec (Stmt.While _ _ _ _) _) _ _ _)); (fail_if_success (with_reducible show wpAny _ _ (call (Value.ref _) _) _ _ _)); (fail_if_success ((with_reducible show (ite _ _ _)); (fail_if_success k_closed))); first | (k_unfold; (try dsimp only)) | (k_end; wrow_close) | walk1 | (dsimp only; walk1) | (leave1; walk_say "STEP leave1"; try dsimp only) | fail "no step"))
def dbl : List Nat → List Nat
  | [] => []
  | c :: r => if c = 34 then 34 :: 34 :: dbl r else c :: dbl r
theorem dbl_len : ∀ cs : List Nat, (dbl cs).length ≤ 2 * cs.length
  | [] => Nat.le_refl _
  | c :: r => by
    have := dbl_len r
    simp only [dbl]
    split <;> simp only [List.length_cons] <;> omega
theorem dbl_append : ∀ a b : List Nat, dbl (a ++ b) = dbl a ++ dbl b
  | [], b => rfl
  | c :: r, b => by
    simp only [List.cons_append, dbl, dbl_append r b]
    split <;> simp
theorem item_at {x : Str} {a b : List Nat} {c : Nat} {k : Int} (e : x.cps.toList = a ++ c :: b) (hk : k = (a.length : Nat)) : Txt.item x k = ⟨#[c]⟩ := by
  subst hk
  have h1 : x.cps[a.length]? = some c := by rw [← Array.getElem?_toList, e]; simp
  unfold Txt.item Txt.charAt
  have h2 : a.length < x.length := by
    show a.length < x.cps.toList.length
    rw [e]; simp
  have h3 : seqIndex? ((a.length : Nat) : Int) x.length = some a.length := by
    unfold seqIndex?
    have h4 : ¬ ((a.length : Nat) : Int) < 0 := by omega
    simp only [h4, if_false]
    rw [if_pos (by simp; omega)]
    simp
  rw [h3]
  simp [h1]
theorem str_snoc (a : List Nat) (c : Nat) : (Str.mk a.toArray) ++ (Str.mk #[c]) = Str.mk (a ++ [c]).toArray := by
  show Str.mk (a.toArray ++ #[c]) = _
  simp
theorem c257 {w : World} {A : Around} {s : Shared} {Q E : Value → Shared → Prop} {mean : ExcName → Option Value} {mg mb : Str → Option Value} (x : Str) (t : Tok) (cs : List Nat)
   (X : (hd.heap_39 w.params).In s.heap) (T : Top hd.view_39 (looseW hd.view_39 []) mean mg mb s.heap) (hdep : A.depth + 5 < recursionLimit) (hu : A.units + 30 < cLine)
   (hx : x.cps.toList = [50, 53, 55, 32, 34] ++ dbl cs ++ [34, 32, 34, 34]) (hlen : cs.length ≤ 3)
   (h : ∀ h' tk' t', s.heap.StaysIn h' → Q (.str ⟨cs.toArray⟩ t') { s with heap := h', toks := tk'}) :
   wpAny (model PySem.Challenge.rw_ny0030_01.row.prog w) A (call (.ref 65) [.str x t]) Q E s := by
  refine' enter (binds := [(Str.ofString "resp", .str x t)]) X T ?k6 ?k7 ?k8 ?k9 ?kB ?_ ?c2 ?c3 ?c4 ?c5
  case k6 => k_is
  case k7 => k_is
  case k8 => omega
  case k9 => exact BindsTo.of_eq rfl
  case c5 => decide
  case kB => exact locs rfl
  case c2 => exact rfl
  case c3 => exact rfl
  case c4 => exact rfl
  intro L' h' F' N'
  have hxl : x.length ≤ 100 := by
    have e : x.length = x.cps.toList.length := rfl
    rw [e, hx]
    have := dbl_len cs
    simp only [List.length_append, List.length_cons, List.length_nil]
    omega
  (try dsimp only)
  w_on
  k_steps
  refine ite_neg ?_ ?_
  · rw [beq_iff_eq.mp (slice_closes_to (x := x) (j := 3) ⟨by decide, by rw [hx]; simp only [List.length_append, List.length_cons]; omega⟩), hx]
    simp [dbl]; decide
  k_steps
  refine ite_neg ?_ ?_
  · rw [beq_iff_eq.mp (slice_closes (x := x) (i := 3) (j := 5) ⟨by decide, by decide, by rw [hx]; simp only [List.length_append, List.length_cons]; omega⟩), hx]
    simp [dbl]; decide
  k_steps
  rename_i F2 N2
  refine' ksw_while (σ := List Nat × List Nat × Tok × Tok) (fun c => []) (fun c => [(Str.ofString "i", .int (5 + (dbl c.1).length : Nat) c.2.2.1), (Str.ofString "dirname", .str ⟨c.1.toArray⟩ c.2.2.2)]) (fun _ => True) [Str.ofString "c"]
      (fun c => c.1 ++ c.2.1 = cs) (fun c => c.2.1.length) ([], cs, _, _) F2 N2 trivial ?hk ?hp ?turn
  case hk => kst_all
  case hp => rfl
  case turn =>
    rintro ⟨pre, post, ti, td⟩ u h3 tk3 _ hcs F3 N3
    dsimp only at hcs F3 N3 ⊢
    have hx2 : x.cps.toList = ([50, 53, 55, 32, 34] ++ dbl pre) ++ (dbl post ++ [34, 32, 34, 34]) := by
      rw [hx, ← hcs, dbl_append]; simp
    have hxn : x.length = 5 + (dbl pre).length + (dbl post).length + 4 := by
      show x.cps.toList.length = _
      rw [hx2]; simp only [List.length_append, List.length_cons, List.length_nil]; omega
    have hlt : decide (((5 + (dbl pre).length : Nat) : Int) < (x.length : Nat)) = true := decide_eq_true (by omega)
    k_steps
    refine ite_pos hlt ?_
    k_steps
    cases post with
    | nil =>
      have e1 : Txt.item x ((5 + (dbl pre).length : Nat) : Int) = Str.ofString "\"" := (item_at (a := [50, 53, 55, 32, 34] ++ dbl pre) (c := 34) (b := [32, 34, 34]) (by rw [hx2]; simp [dbl]) (by simp; omega)).trans (by decide +kernel)
      refine ite_pos (by rw [e1]; decide +kernel) ?_
      k_steps
      refine ite_neg (by simp only [decide_eq_true_eq]; rw [hxn]; simp only [dbl, List.length_nil]; omega) ?_
      have e2 : Txt.item x (((5 + (dbl pre).length : Nat) : Int) + 1) = Str.ofString " " := (item_at (a := [50, 53, 55, 32, 34] ++ dbl pre ++ [34]) (c := 32) (b := [34, 34]) (by rw [hx2]; simp [dbl]) (by simp; omega)).trans (by decide +kernel)
      have hb : ((5 + (dbl pre).length : Nat) : Int) + 1 < (x.length : Nat) := by rw [hxn]; simp only [dbl, List.length_nil]; omega
      k_steps
      refine ite_pos (by rw [e2]; decide +kernel) ?_
      k_steps
      obtain rfl : pre = cs := by simpa using hcs
      exact h _ _ _ (Fr.keep (by assumption))
    | cons c post =>
      by_cases hc : c = 34
      · subst hc
        have e1 : Txt.item x ((5 + (dbl pre).length : Nat) : Int) = Str.ofString "\"" := (item_at (a := [50, 53, 55, 32, 34] ++ dbl pre) (c := 34) (b := 34 :: (dbl post ++ [34, 32, 34, 34])) (by rw [hx2]; simp [dbl]) (by simp; omega)).trans (by decide +kernel)
        refine ite_pos (by rw [e1]; decide +kernel) ?_
        k_steps
        refine ite_neg (by simp only [decide_eq_true_eq]; rw [hxn]; simp only [dbl, if_true, List.length_cons]; omega) ?_
        have e2 : Txt.item x (((5 + (dbl pre).length : Nat) : Int) + 1) = Str.ofString "\"" := (item_at (a := [50, 53, 55, 32, 34] ++ dbl pre ++ [34]) (c := 34) (b := dbl post ++ [34, 32, 34, 34]) (by rw [hx2]; simp [dbl]) (by simp; omega)).trans (by decide +kernel)
        have hb : ((5 + (dbl pre).length : Nat) : Int) + 1 < (x.length : Nat) := by rw [hxn]; simp only [dbl, if_true, List.length_cons]; omega
        have hpl : (Str.mk pre.toArray).length ≤ 3 := by
          have := congrArg List.length hcs
          simp only [List.length_append, List.length_cons] at this
          show pre.toArray.size ≤ 3
          rw [List.size_toArray]; omega
        k_steps
        refine ite_neg (by rw [e2]; decide +kernel) ?_
        k_steps
        rename Fr _ _ _ _ => F6
        rename News _ _ _ _ => N6
        rw [e1] at F6
        have e3 : (Str.mk pre.toArray) ++ Str.ofString "\"" = Str.mk (pre ++ [34]).toArray := by
          rw [show Str.ofString "\"" = Str.mk #[34] from by decide +kernel]; exact str_snoc _ _
        have e4 : ((5 + (dbl pre).length : Nat) : Int) + 1 + 1 = ((5 + (dbl (pre ++ [34])).length : Nat) : Int) := by
          rw [dbl_append]; simp [dbl]; omega
        rw [e3, e4] at F6
        refine ksw_end (pre ++ [34], post, _, _) F6 N6 (fun _ h => h) trivial (by kst_all) ?_ (by simpa using hcs) (by show post.length < post.length + 1; omega)
        intro z h2 h3
        have q1 := h2 _ (.head _); have q2 := h2 _ (.tail _ (.head _)); dsimp only at q1 q2
        simp only [List.contains_cons, List.contains_nil, Bool.or_false, beq_eq_false_iff_ne, ne_eq] at h3
        simp [q1, q2, h3, kstB]
      · have e1 : Txt.item x ((5 + (dbl pre).length : Nat) : Int) = Str.mk #[c] := item_at (a := [50, 53, 55, 32, 34] ++ dbl pre) (c := c) (b := dbl post ++ [34, 32, 34, 34]) (by rw [hx2]; simp [dbl, hc]) (by simp; omega)
        have hpl : (Str.mk pre.toArray).length ≤ 3 := by
          have := congrArg List.length hcs
          simp only [List.length_append, List.length_cons] at this
          show pre.toArray.size ≤ 3
          rw [List.size_toArray]; omega
        have hcl : (Str.mk #[c]).length = 1 := rfl
        refine ite_neg (by rw [e1, show Str.ofString "\"" = Str.mk #[34] from by decide +kernel]; simp [hc]) ?_
        k_steps
        rename Fr _ _ _ _ => F6
        rename News _ _ _ _ => N6
        rw [e1] at F6
        have e4 : ((5 + (dbl pre).length : Nat) : Int) + 1 = ((5 + (dbl (pre ++ [c])).length : Nat) : Int) := by
          rw [dbl_append]; simp [dbl, hc]; omega
        rw [str_snoc, e4] at F6
        refine ksw_end (pre ++ [c], post, _, _) F6 N6 (fun _ h => h) trivial (by kst_all) ?_ (by simpa using hcs) (by show post.length < post.length + 1; omega)
        intro z h2 h3
        have q1 := h2 _ (.head _); have q2 := h2 _ (.tail _ (.head _)); dsimp only at q1 q2
        simp only [List.contains_cons, List.contains_nil, Bool.or_false, beq_eq_false_iff_ne, ne_eq] at h3
        simp [q1, q2, h3, kstB]
end Mine
end

/-! Text1 -/
section
open PySem PySem.W PySem.Calls PyProof.Rows PySem.StrLaws PySem.Builtin PySem.Builtin.Str
namespace Mine
/-- the places of c, from k on -/
def posOf (c : Nat) : Nat → List Nat → List Nat
  | _, [] => []
  | k, d :: r => if d = c then k :: posOf c (k + 1) r else posOf c (k + 1) r
theorem posOf_append (c : Nat) : ∀ (a b : List Nat) (k : Nat), posOf c k (a ++ b) = posOf c k a ++ posOf c (k + a.length) b
  | [], b, k => by simp [posOf]
  | d :: r, b, k => by
    simp only [List.cons_append, posOf, posOf_append c r b (k + 1), List.length_cons]
    rw [show k + 1 + r.length = k + (r.length + 1) by omega]
    split <;> simp
theorem posOf_none {c : Nat} : ∀ {a : List Nat} {k : Nat}, c ∉ a → posOf c k a = []
  | [], _, _ => rfl
  | d :: r, k, h => by
    simp only [List.mem_cons, not_or] at h
    simp only [posOf, if_neg (Ne.symm h.1), posOf_none h.2]

theorem occ_go (x : Str) (c limit : Nat) : ∀ (n i : Nat) (found : Array Nat) (free : Nat), i + n = x.length + 1 → free ≤ i → found.size + n ≤ limit →
    (forIn (List.range' i n) (found, free) (occBody x ⟨#[c]⟩ x.length limit)).run.fst.toList = found.toList ++ posOf c i (x.cps.toList.drop i)
  | 0, i, found, free, hi, hf, hl => by
    have : x.cps.toList.drop i = [] := List.drop_eq_nil_of_le (by show x.length ≤ i; omega)
    rw [this]; simp [posOf]
  | n + 1, i, found, free, hi, hf, hl => by
    rw [List.range'_succ, List.forIn_cons]
    unfold occBody
    by_cases hc : x.cps.toList[i]? = some c
    · obtain ⟨h1, h2⟩ := (subAt_one x c i).mpr hc
      rw [if_pos ⟨⟨⟨by show found.size < limit; omega, hf⟩, h1⟩, h2⟩]
      have hlt : i < x.cps.toList.length := (List.getElem?_eq_some_iff.mp hc).1
      have := occ_go x c limit n (i + 1) (found.push i) (i + 1) (by omega) (Nat.le_refl _) (by rw [Array.size_push]; omega)
      refine this.trans ?_
      rw [List.drop_eq_getElem_cons hlt]
      have e : x.cps.toList[i] = c := (List.getElem?_eq_some_iff.mp hc).2
      simp [posOf, e]
    · rw [if_neg (fun h => hc ((subAt_one x c i).mp ⟨h.1.2, h.2⟩))]
      have := occ_go x c limit n (i + 1) found free (by omega) (by omega) (by omega)
      refine this.trans ?_
      by_cases hlt : i < x.cps.toList.length
      · rw [List.drop_eq_getElem_cons hlt]
        have e : x.cps.toList[i] ≠ c := fun e => hc (by rw [List.getElem?_eq_getElem hlt, e])
        rw [posOf, if_neg e]
      · rw [List.drop_eq_nil_of_le (by omega), List.drop_eq_nil_of_le (by omega)]; simp [posOf]
theorem occ_all (x : Str) (c : Nat) : occurrences x ⟨#[c]⟩ 0 x.length (x.length + 1) = posOf c 0 x.cps.toList := by
  rw [occ_eq, Nat.sub_zero, occ_go x c (x.length + 1) (x.length + 1) 0 #[] 0 (by omega) (Nat.le_refl _) (by simp)]
  simp

theorem occ_stay (x : Str) (sub : Str) (hi : Nat) : ∀ (l : List Nat) (i free : Nat), (forIn l (#[i], free) (occBody x sub hi 1)).run.fst.toList = [i]
  | [], i, free => rfl
  | a :: l, i, free => by
    rw [List.forIn_cons]
    unfold occBody
    rw [if_neg (by rintro ⟨⟨⟨h, _⟩, _⟩, _⟩; exact absurd h (by simp))]
    exact occ_stay x sub hi l i free
theorem occ_one (x : Str) (c : Nat) : ∀ (n i free : Nat), i + n = x.length + 1 → free ≤ i →
    (forIn (List.range' i n) (#[], free) (occBody x ⟨#[c]⟩ x.length 1)).run.fst.toList = (posOf c i (x.cps.toList.drop i)).take 1
  | 0, i, free, hi, hf => by
    have : x.cps.toList.drop i = [] := List.drop_eq_nil_of_le (by show x.length ≤ i; omega)
    rw [this]; simp [posOf]
  | n + 1, i, free, hi, hf => by
    rw [List.range'_succ, List.forIn_cons]
    unfold occBody
    by_cases hc : x.cps.toList[i]? = some c
    · obtain ⟨h1, h2⟩ := (subAt_one x c i).mpr hc
      rw [if_pos ⟨⟨⟨by simp, hf⟩, h1⟩, h2⟩]
      have hlt : i < x.cps.toList.length := (List.getElem?_eq_some_iff.mp hc).1
      refine (occ_stay x ⟨#[c]⟩ x.length (List.range' (i + 1) n) i (i + 1)).trans ?_
      rw [List.drop_eq_getElem_cons hlt]
      have e : x.cps.toList[i] = c := (List.getElem?_eq_some_iff.mp hc).2
      simp [posOf, e]
    · rw [if_neg (fun h => hc ((subAt_one x c i).mp ⟨h.1.2, h.2⟩))]
      have := occ_one x c n (i + 1) free (by omega) (by omega)
      refine this.trans ?_
      by_cases hlt : i < x.cps.toList.length
      · rw [List.drop_eq_getElem_cons hlt]
        have e : x.cps.toList[i] ≠ c := fun e => hc (by rw [List.getElem?_eq_getElem hlt, e])
        rw [posOf, if_neg e]
      · rw [List.drop_eq_nil_of_le (by omega), List.drop_eq_nil_of_le (by omega)]; simp [posOf]
theorem occ_first1 (x : Str) (c lo : Nat) (h : lo ≤ x.length) : occurrences x ⟨#[c]⟩ lo x.length 1 = (posOf c lo (x.cps.toList.drop lo)).take 1 := by
  rw [occ_eq, occ_one x c (x.length + 1 - lo) lo lo (by omega) (Nat.le_refl _)]

theorem find_at {x : Str} {c : Nat} {a b : List Nat} (hx : x.cps.toList = a ++ c :: b) (ha : c ∉ a) : Txt.find x ⟨#[c]⟩ = (a.length : Nat) := by
  unfold Txt.find
  rw [occ_first1 x c 0 (Nat.zero_le _), List.drop_zero, hx, posOf_append, posOf_none ha]
  simp [posOf]
theorem find3_at {x : Str} {c lo : Nat} {p a b : List Nat} (hx : x.cps.toList = p ++ (a ++ c :: b)) (hp : p.length = lo) (ha : c ∉ a) {k : Int} (hk : k = (lo : Nat)) : Txt.find3 x ⟨#[c]⟩ k = ((lo + a.length : Nat) : Int) := by
  unfold Txt.find3
  have hf : fromIndex x.length k = lo := by
    subst hk
    unfold fromIndex
    have : ¬ ((lo : Nat) : Int) < 0 := by omega
    simp only [this, if_false]; omega
  have hxl : x.length = p.length + (a.length + (b.length + 1)) := by
    show x.cps.toList.length = _
    rw [hx]; simp
  rw [hf, occ_first1 x c lo (by omega), hx, ← hp, List.drop_left, posOf_append, posOf_none ha]
  simp [posOf]
theorem sub_mid {x : Str} {i j : Nat} {a b c : List Nat} (hx : x.cps.toList = a ++ (b ++ c)) (hi : i = a.length) (hj : j = a.length + b.length) : strSub x i j = ⟨b.toArray⟩ := by
  refine Str.ext' ?_
  refine Array.toList_inj.mp ?_
  rw [strSub_toList, hx, hi, hj, List.drop_left]
  simp
theorem split_229 {x : Str} {m : Nat} {ds : List Nat} (hx : x.cps.toList = [m, m, m] ++ ds ++ [m]) (hm : m ∉ ds) (hk : x.cps.toList.all (· < 256) = true) : Txt.split x ⟨#[m]⟩ = [⟨#[]⟩, ⟨#[]⟩, ⟨#[]⟩, ⟨ds.toArray⟩, ⟨#[]⟩] := by
  have hxl : x.length = ds.length + 4 := by
    show x.cps.toList.length = _
    rw [hx]; simp
  have hocc : occurrences x ⟨#[m]⟩ 0 x.length (x.length + 1) = [0, 1, 2, 3 + ds.length] := by
    rw [occ_all, hx, posOf_append, posOf_append, posOf_none hm]
    simp [posOf]; omega
  have k1 : Str.strKind x = 1 := by
    unfold Str.strKind
    rw [if_pos (by rw [← Array.all_toList]; exact hk)]
  have k2 : 1 ≤ Str.strKind ⟨#[m]⟩ := by
    unfold Str.strKind; split <;> (try split) <;> decide
  have hm256 : m < 256 := by
    rw [hx] at hk
    simp at hk
    exact hk.1
  have k3 : Str.strKind ⟨#[m]⟩ = 1 := by
    unfold Str.strKind
    rw [if_pos (by simp [hm256])]
  unfold Txt.split
  rw [hocc, k1, k3, if_neg (by
    have : (Str.mk #[m]).length = 1 := rfl
    simp [this, hxl]), if_neg (by simp)]
  unfold partsBetween
  have l1 : (Str.mk #[m]).length = 1 := rfl
  rw [l1, hxl]
  simp only [List.map_cons, List.map_nil, List.cons_append, List.nil_append, List.zip_cons_cons, List.zip_nil_right]
  rw [sub_mid (x := x) (i := 0) (j := 0) (a := []) (b := []) (c := [m, m, m] ++ ds ++ [m]) (by rw [hx]; simp) rfl rfl,
    sub_mid (x := x) (i := 0 + 1) (j := 1) (a := [m]) (b := []) (c := [m, m] ++ ds ++ [m]) (by rw [hx]; simp) rfl rfl,
    sub_mid (x := x) (i := 1 + 1) (j := 2) (a := [m, m]) (b := []) (c := [m] ++ ds ++ [m]) (by rw [hx]; simp) rfl rfl,
    sub_mid (x := x) (i := 2 + 1) (j := 3 + ds.length) (a := [m, m, m]) (b := ds) (c := [m]) (by rw [hx]; simp) rfl rfl,
    sub_mid (x := x) (i := 3 + ds.length + 1) (j := ds.length + 4) (a := [m, m, m] ++ ds ++ [m]) (b := []) (c := []) (by rw [hx]; simp) (by simp; omega) (by simp)]
end Mine
end

/-! T229 -/
section
open PySem PySem.W PySem.Calls PyProof.Rows PySem.StrLaws
set_option maxRecDepth 100000
set_option maxHeartbeats 8000000
namespace Mine
local macro_rules | `(tactic| k_steps) => `(tactic| repeat' ((fail_if_success (with_reducible show wpAny _ _ (exec (Stmt.While _ _ _ _) _) _ _ _)); (fail_if_success (with_reducible show wpAny _ _ (call (Value.ref _) _) _ _ _)); (fail_if_success ((with_reducible show (ite _ _ _)); (fail_if_success k_closed))); first | (k_unfold; (try dsimp only)) | (k_end; wrow_close) | walk1 | (dsimp only; walk1) | (leave1; walk_say "STEP leave1"; try dsimp only) | fail "no step"))
theorem c229 {w : World} {A : Around} {s : Shared} {Q E : Value → Shared → Prop} {mean : ExcName → Option Value} {mg mb : Str → Option Value} (x : Str) (t : Tok) (ds : List Nat) (mk : Nat) (p : Nat) (pa : Addr) (host : Str) (th tp : Tok) (np : Nat)
   (X : (hd.heap_39 w.params).In s.heap) (T : Top hd.view_39 (looseW hd.view_39 []) mean mg mb s.heap) (hdep : A.depth + 5 < recursionLimit) (hu : A.units + 30 < cLine) (hh : A.handled = none)
   (hx : x.cps.toList = [50, 50, 57, 32, 111, 107, 32, 40] ++ ([mk, mk, mk] ++ ds ++ [mk]) ++ [41]) (hlen : ds.length ≤ 5) (hds : ∀ d ∈ ds, 48 ≤ d ∧ d ≤ 57) (hmk : mk = 124 ∨ mk = 33 ∨ mk = 120) (hp : PySem.intText? (Str.mk ds.toArray) = some ((p : Nat) : Int))
   (hpa : s.heap.get? pa = some { cls := .type "tuple", data := .seq #[.str host th, .int 21 tp] np })
   (h : ∀ h' tk' a t1 t2 n, s.heap.StaysIn h' → s.heap.get? a = none → h'.get? a = some { cls := .type "tuple", data := .seq #[.str host t1, .int (p : Nat) t2] n } → Q (.ref a) { s with heap := h', toks := tk'}) :
   wpAny (model PySem.Challenge.rw_ny0030_01.row.prog w) A (call (.ref 58) [.str x t, .ref pa]) Q E s := by
  refine' enter (binds := [(Str.ofString "resp", .str x t), (Str.ofString "peer", .ref pa)]) X T ?k6 ?k7 ?k8 ?k9 ?kB ?_ ?c2 ?c3 ?c4 ?c5
  case k6 => k_is
  case k7 => k_is
  case k8 => omega
  case k9 => exact BindsTo.of_eq rfl
  case c5 => decide
  case kB => exact locs rfl
  case c2 => exact rfl
  case c3 => exact rfl
  case c4 => exact rfl
  intro L' h' F' N'
  have hxl : x.length ≤ 100 := by
    have e : x.length = x.cps.toList.length := rfl
    rw [e, hx]
    simp only [List.length_append, List.length_cons, List.length_nil]
    omega
  (try dsimp only)
  w_on
  k_steps
  refine ite_neg ?_ ?_
  · rw [beq_iff_eq.mp (slice_closes_to (x := x) (j := 3) ⟨by decide, by rw [hx]; simp only [List.length_append, List.length_cons]; omega⟩), hx]
    simp; decide
  k_steps
  have hno : ∀ c, c ≠ 124 → c ≠ 33 → c ≠ 120 → (c < 48 ∨ 57 < c) → c ∉ ([mk, mk, mk] ++ ds ++ [mk]) := by
    intro c h1 h2 h3 h4 hm
    simp only [List.mem_append, List.mem_cons, List.not_mem_nil, or_false] at hm
    rcases hm with (hm | hm) | hm
    · rcases hmk with e | e | e <;> subst e <;> rcases hm with e | e | e <;> omega
    · have := hds c hm; omega
    · rcases hmk with e | e | e <;> subst e <;> omega
  have e7 : Txt.find x (Str.ofString "(") = 7 := by
    rw [show Str.ofString "(" = Str.mk #[40] from by decide +kernel, find_at (a := [50, 50, 57, 32, 111, 107, 32]) (b := ([mk, mk, mk] ++ ds ++ [mk]) ++ [41]) (by rw [hx]; simp) (by decide)]
    rfl
  rename Fr _ _ _ _ => F2
  rw [e7] at F2 ⊢
  k_steps
  have e9 : Txt.find3 x (Str.ofString ")") (7 + 1) = ((12 + ds.length : Nat) : Int) := by
    rw [show Str.ofString ")" = Str.mk #[41] from by decide +kernel, find3_at (k := 7 + 1) (lo := 8) (p := [50, 50, 57, 32, 111, 107, 32, 40]) (a := [mk, mk, mk] ++ ds ++ [mk]) (b := []) (by rw [hx]; simp) rfl (hno 41 (by decide) (by decide) (by decide) (by decide)) rfl]
    simp; omega
  rename Fr _ _ _ _ => F3
  rw [e9] at F3 ⊢
  refine ite_neg (by simp; omega) ?_
  have hxn : x.length = 13 + ds.length := by
    show x.cps.toList.length = _
    rw [hx]; simp only [List.length_append, List.length_cons, List.length_nil]; omega
  k_steps
  have i1 : Txt.item x (7 + 1) = Str.mk #[mk] := item_at (a := [50, 50, 57, 32, 111, 107, 32, 40]) (b := [mk, mk] ++ ds ++ [mk] ++ [41]) (by rw [hx]; simp) (by simp)
  have i2 : Txt.item x (((12 + ds.length : Nat) : Int) - 1) = Str.mk #[mk] := item_at (a := [50, 50, 57, 32, 111, 107, 32, 40] ++ [mk, mk, mk] ++ ds) (b := [41]) (by rw [hx]; simp) (by simp; omega)
  rw [i1, i2]
  refine ite_neg (by simp) ?_
  k_steps
  rename List.map _ _ = Txt.split _ _ => hsp
  have esl : Txt.slice x (some (7 + 1)) (some ((12 + ds.length : Nat) : Int)) = Str.mk ([mk, mk, mk] ++ ds ++ [mk]).toArray := by
    rw [beq_iff_eq.mp (slice_closes (x := x) (i := 7 + 1) (j := ((12 + ds.length : Nat) : Int)) ⟨by decide, by omega, by show _ ≤ ((x.length : Nat) : Int); omega⟩), hx]
    have e1 : ((7 : Int) + 1).toNat = 8 := by decide
    have e2 : (((12 + ds.length : Nat) : Int) - (7 + 1)).toNat = ds.length + 4 := by omega
    rw [e1, e2]
    have e3 : (([50, 50, 57, 32, 111, 107, 32, 40] ++ ([mk, mk, mk] ++ ds ++ [mk]) ++ [41]).drop 8).take (ds.length + 4) = [mk, mk, mk] ++ ds ++ [mk] := by
      rw [List.append_assoc, List.drop_left' (by rfl), List.take_left' (by simp)]
    rw [e3]
  have hall : ∀ d ∈ ([mk, mk, mk] ++ ds ++ [mk]), d < 256 := by
    intro d hm
    simp only [List.mem_append, List.mem_cons, List.not_mem_nil, or_false] at hm
    rcases hm with (hm | hm) | hm
    · rcases hmk with e | e | e <;> subst e <;> rcases hm with e | e | e <;> omega
    · have := hds d hm; omega
    · rcases hmk with e | e | e <;> subst e <;> omega
  have hmn : mk ∉ ds := fun hm => by
    have := hds mk hm
    rcases hmk with e | e | e <;> subst e <;> omega
  rw [esl, i1, split_229 (m := mk) (ds := ds) rfl hmn (by rw [List.all_eq_true]; intro d hd; exact decide_eq_true (hall d hd))] at hsp
  rename List (Str × Tok) => l
  match l, hsp with
  | [(a0, t0), (a1, t1), (a2, t2), (a3, t3), (a4, t4)], hsp =>
    simp only [List.map_cons, List.map_nil, List.cons.injEq, and_true] at hsp
    obtain ⟨rfl, rfl, rfl, rfl, rfl⟩ := hsp
    refine ite_neg (by simp) ?_
    k_steps
    refine item_tupleT (IsTup.keeps ⟨_, hpa, rfl, _, rfl⟩ (Fr.keep (by assumption))) (by decide) (by decide) rfl rfl ?_
    dsimp only
    k_steps
    refine KIN.call_text hp (by show ds.toArray.size ≤ 640; rw [List.size_toArray]; omega) ?_
    dsimp only
    k_steps
    dsimp only
    rename Fr _ _ _ _ => F9
    rename News _ _ _ _ => N9
    exact h _ _ _ _ _ _ F9.keep (N9 _ (.head _)).2.2 (N9 _ (.head _)).1
end Mine
end

/-! Spec2 -/
section
open PySem PySem.W PySem.Calls PyProof.Rows PySem.Spec
namespace Mine
inductive Item where
  | port (p : Nat)
  | name (cs : List Nat)
def Item.dat : Item → Dat
  | .port p => .tuple [.str (Str.ofString "host"), .int ((p : Nat) : Int)]
  | .name cs => .str ⟨cs.toArray⟩
/-- k signs read: none: a sign too great; some none: the octets end -/
def signs : Nat → List Nat → Option (Option (List Nat × List Nat))
  | 0, r => some (some ([], r))
  | k + 1, r => match varint r with
    | none => some none
    | some (c, r') => if c < 4096 then (signs k r').map (·.map fun p => (c :: p.1, p.2)) else none
/-- what _law_heard tells; none: a number that the law does not build -/
def heard : Nat → List Nat → Option (List Item)
  | 0, _ => none
  | f + 1, r => match varint r with
    | none => some []
    | some (n, r') =>
      if n % 2 = 1 then (if n / 2 < 65536 then (heard f r').map (Item.port (n / 2) :: ·) else none)
      else if n / 2 ≤ 3 then (match signs (n / 2) r' with
        | none => none
        | some none => some []
        | some (some (cs, r'')) => (heard f r'').map (Item.name cs :: ·))
      else none
theorem more_suffix : ∀ (l : List Nat) (b v v' : Nat) (r : List Nat), more b v l = some (v', r) → r <:+ l
  | [], b, v, v', r, h => by
    rw [more] at h
    split at h
    · cases h
    · obtain ⟨_, rfl⟩ := Prod.mk.injEq .. ▸ Option.some.inj h; exact List.suffix_refl _
  | c :: l, b, v, v', r, h => by
    rw [more] at h
    split at h
    · exact (more_suffix l _ _ _ _ h).trans (List.suffix_cons _ _)
    · obtain ⟨_, rfl⟩ := Prod.mk.injEq .. ▸ Option.some.inj h; exact List.suffix_refl _
theorem varint_suffix {l r : List Nat} {v : Nat} (h : varint l = some (v, r)) : r <:+ l ∧ r.length < l.length := by
  cases l with
  | nil => cases h
  | cons b l =>
    have := more_suffix l _ _ _ _ h
    exact ⟨this.trans (List.suffix_cons _ _), Nat.lt_succ_of_le this.length_le⟩
theorem varint_at {os r : List Nat} {i v : Nat} (h : varint (os.drop i) = some (v, r)) : os.drop (os.length - r.length) = r ∧ i < os.length - r.length := by
  obtain ⟨h1, h2⟩ := varint_suffix h
  have h3 := h1.trans (List.drop_suffix i os)
  rw [List.length_drop] at h2
  exact ⟨(List.suffix_iff_eq_drop.mp h3).symm, by omega⟩
def addS (cs : List Nat) (x : Option (Option (List Nat × List Nat))) : Option (Option (List Nat × List Nat)) := x.map (·.map fun p => (cs ++ p.1, p.2))
theorem addS_nil (x : Option (Option (List Nat × List Nat))) : addS [] x = x := by
  unfold addS
  rcases x with _ | _ | ⟨a, b⟩ <;> rfl
theorem addS_add (cs ds : List Nat) (x : Option (Option (List Nat × List Nat))) : addS cs (addS ds x) = addS (cs ++ ds) x := by
  unfold addS
  rcases x with _ | _ | ⟨a, b⟩ <;> simp
theorem signs_step {k c : Nat} {r r' : List Nat} (h : varint r = some (c, r')) : signs (k + 1) r = if c < 4096 then addS [c] (signs k r') else none := by
  rw [signs, h]; rfl
theorem signs_stop {k : Nat} {r : List Nat} (h : varint r = none) : signs (k + 1) r = some none := by
  rw [signs, h]
end Mine
end

/-! Digs -/
section
open PySem PySem.W PySem.Calls PyProof.Rows PySem.Spec
namespace Mine
theorem digs_of (p : Nat) (hp : p < 65536) : ((Nat.toDigits 10 p).map Char.toNat).length ≤ 5 ∧ ∀ d ∈ (Nat.toDigits 10 p).map Char.toNat, 48 ≤ d ∧ d ≤ 57 := by
  refine ⟨?_, ?_⟩
  · rw [List.length_map]
    exact toDigits_len_pow (by decide) (by decide) (Nat.lt_of_lt_of_le hp (by decide))
  · intro d hd
    obtain ⟨c, hc, rfl⟩ := List.mem_map.mp hd
    have h1 := Nat.isDigit_of_mem_toDigits (by decide) (by decide) hc
    have h2 := Bool.and_eq_true_iff.mp (show (decide (c.val ≥ '0'.val) && decide (c.val ≤ '9'.val)) = true from h1)
    have a1 := of_decide_eq_true h2.1
    have a2 := of_decide_eq_true h2.2
    exact ⟨a1, a2⟩
end Mine
end

/-! Repl -/
section
open PySem PySem.W PySem.Calls PyProof.Rows PySem.StrLaws PySem.Builtin PySem.Builtin.Str
namespace Mine
theorem split_34 (x : Str) (h : 1 ≤ x.length) : Txt.split x ⟨#[34]⟩ = if (posOf 34 0 x.cps.toList).isEmpty = true then [x] else partsBetween x (posOf 34 0 x.cps.toList) 1 := by
  unfold Txt.split
  have k1 : Str.strKind ⟨#[34]⟩ = 1 := by decide +kernel
  have k2 : 1 ≤ Str.strKind x := by unfold Str.strKind; split <;> (try split) <;> decide
  have l1 : (Str.mk #[34]).length = 1 := rfl
  rw [k1, l1, if_neg (by simp; omega), occ_all]
theorem repl_dbl (cs : List Nat) (h : cs.length ≤ 3) : Txt.replace (Str.mk cs.toArray) (Str.ofString "\"") (Str.ofString "\"\"") = Str.mk (dbl cs).toArray := by
  rw [show Str.ofString "\"" = Str.mk #[34] from by decide +kernel, show Str.ofString "\"\"" = Str.mk #[34, 34] from by decide +kernel, replace_one]
  rcases cs with _ | ⟨a, _ | ⟨b, _ | ⟨d, _ | ⟨e, r⟩⟩⟩⟩
  · decide +kernel
  · rw [split_34 _ (by show 1 ≤ 1; decide)]
    by_cases ha : a = 34 <;> simp [posOf, ha, dbl, partsBetween, strSub, Str.join, Str.length] <;> rfl
  · rw [split_34 _ (by show 1 ≤ 2; decide)]
    by_cases ha : a = 34 <;> by_cases hb : b = 34 <;> simp [posOf, ha, hb, dbl, partsBetween, strSub, Str.join, Str.length] <;> rfl
  · rw [split_34 _ (by show 1 ≤ 3; decide)]
    by_cases ha : a = 34 <;> by_cases hb : b = 34 <;> by_cases hd : d = 34 <;> simp [posOf, ha, hb, hd, dbl, partsBetween, strSub, Str.join, Str.length] <;> rfl
  · simp at h
end Mine
end

/-! THeard -/
section
open PySem PySem.W PySem.Calls PyProof.Rows PySem.Spec
set_option maxRecDepth 100000
set_option maxHeartbeats 8000000
namespace Mine
local macro_rules | `(tactic| k_steps) => `(tactic| repeat' ((fail_if_success (with_reducible show wpAny _ _ (exec (Stmt.While _ _ _ _) _) _ _ _)); (fail_if_success (with_reducible show wpAny _ _ (call (Value.ref _) _) _ _ _)); (fail_if_success (with_reducible show wpAny _ _ (exec (Stmt.For _ _ _ _ _) _) _ _ _)); (fail_if_success (with_reducible show KswEnd _ _ _ _ _ _ _ _ _ _ _ _)); (fail_if_success (with_reducible show wpAny _ _ (pyIter _) _ _ _)); (fail_if_success ((with_reducible show (ite _ _ _)); (fail_if_success k_closed))); first | (k_unfold; (try dsimp only)) | (k_end; wrow_close) | walk1 | (dsimp only; walk1) | (leave1; walk_say "STEP leave1"; try dsimp only) | fail "no step"))
theorem append_V {prog : Program} {w : World} {A : Around} {E : Value → Shared → Prop} {s : Shared} {h₀ : Heap} {L D : Addr} {m : Str → Option Value} {news news' : List (Addr × Obj)} {vals : List Value} {n : Nat} {x : Value} {Q : Value → Shared → Prop} (F : Fr h₀ L s.heap m) (N : News h₀ L s.heap news) (U : Upd D (listOf vals.toArray n) (listOf (vals ++ [x]).toArray (n + 1)) news news')
    (h : ∀ h', Fr h₀ L h' m → News h₀ L h' news' → Q .none { s with heap := h' }) (hsz : vals.length ≤ sizeLine) : wpAny (model prog w) A (call (.builtin "list.append") [.ref D, x]) Q E s := by
  rw [← List.push_toArray] at U
  exact append_K F N U h (by rw [List.size_toArray]; exact hsz)
theorem text257 (cs : List Nat) : (Str.ofString "257 \"" ++ Str.mk (dbl cs).toArray ++ Str.ofString "\" \"\"").cps.toList = [50, 53, 55, 32, 34] ++ dbl cs ++ [34, 32, 34, 34] := by
  simp only [Str.cps_append, Array.toList_append]
  rw [show (Str.ofString "257 \"").cps.toList = [50, 53, 55, 32, 34] from by decide +kernel, show (Str.ofString "\" \"\"").cps.toList = [34, 32, 34, 34] from by decide +kernel]
theorem newsAdd {h₀ h h' : Heap} {L a : Addr} {m : Str → Option Value} {o : Obj} {news : List (Addr × Obj)} (F : Fr h₀ L h m) (N : News h₀ L h news) (st : h.StaysIn h') (fr : h.get? a = none) (ha : h'.get? a = some o) : News h₀ L h' ((a, o) :: news) := by
  refine List.forall_mem_cons.mpr ⟨⟨ha, ?_, ?_⟩, newsUp N st⟩
  · rintro rfl
    obtain ⟨oL, _, _, hL, _⟩ := F.ns
    rw [fr] at hL; cases hL
  · show h₀.get? a = none
    cases q : h₀.get? a with
    | none => rfl
    | some o => rw [F.keep _ _ q] at fr; cases fr
theorem newsNe {h₀ h : Heap} {L a : Addr} {news : List (Addr × Obj)} (N : News h₀ L h news) (fr : h.get? a = none) : ∀ p ∈ news, p.1 ≠ a := by
  intro p hp e
  have := (N p hp).1
  rw [e, fr] at this; cases this
theorem mark_of (v : Nat) : ∃ mk, (mk = 124 ∨ mk = 33 ∨ mk = 120) ∧ Txt.item (Str.ofString "|!x") (((v : Int).fdiv 2).fmod 3) = Str.mk #[mk] := by
  have e : ((v : Int).fdiv 2).fmod 3 = ((v / 2 % 3 : Nat) : Int) := by
    rw [Int.fdiv_eq_ediv_of_nonneg _ (by decide), Int.fmod_eq_emod_of_nonneg _ (by decide)]; simp
  rw [e]
  have h3 : v / 2 % 3 = 0 ∨ v / 2 % 3 = 1 ∨ v / 2 % 3 = 2 := by omega
  rcases h3 with q | q | q <;> rw [q]
  · exact ⟨124, .inl rfl, by decide +kernel⟩
  · exact ⟨33, .inr (.inl rfl), by decide +kernel⟩
  · exact ⟨120, .inr (.inr rfl), by decide +kernel⟩
theorem half_of (v : Nat) : (v : Int).fdiv 2 = ((v / 2 : Nat) : Int) := by
  rw [Int.fdiv_eq_ediv_of_nonneg _ (by decide)]; simp
theorem text229 (v mk : Nat) : (Str.ofString "229 ok (" ++ Txt.mul (Str.mk #[mk]) 3 ++ Str.ofString (toString ((v : Int).fdiv 2)) ++ Str.mk #[mk] ++ Str.ofString ")").cps.toList
    = [50, 50, 57, 32, 111, 107, 32, 40] ++ ([mk, mk, mk] ++ (Nat.toDigits 10 (v / 2)).map Char.toNat ++ [mk]) ++ [41] := by
  rw [half_of]
  have e1 : Txt.mul (Str.mk #[mk]) 3 = Str.mk #[mk, mk, mk] := by rfl
  rw [e1]
  simp only [Str.cps_append, Array.toList_append, KIN.signs_num]
  rw [show (Str.ofString "229 ok (").cps.toList = [50, 50, 57, 32, 111, 107, 32, 40] from by decide +kernel, show (Str.ofString ")").cps.toList = [41] from by decide +kernel]
  simp
theorem c_heard {w : World} {dp un : Nat} {gd : Option (List Code)} {s : Shared} {base : Heap} {env : Env} {L l : Addr} {Q E : Value → Shared → Prop} {mean : ExcName → Option Value} {mg mb : Str → Option Value} {vs : List Value} (os : List Nat) (items : List Item) (hit : heard (os.length + 1) os = some items)
   (hos : ∀ b ∈ os, b < 256) (hlen : os.length ≤ 60)
   (X : (hd.heap_39 w.params).In s.heap) (T : Top hd.view_39 (looseW hd.view_39 []) mean mg mb s.heap) (hdep : dp + 10 < recursionLimit) (hu : un + 60 < cLine)
   (hke : env.scope.kind = .function) (hf : env.frame = some L) (B : Below ⟨none, dp, some [env], gd, un⟩ base [env] s.heap) (XB : (hd.heap_39 w.params).In base) (TB : Top hd.view_39 (looseW hd.view_39 []) mean mg mb base) (D : KtsDicts ([env].filterMap (·.frame)) s.heap)
   (hl : s.heap.IsList l vs.toArray) (hI : IntsAre vs (os.map fun n : Nat => (n : Int)))
   (h : ∀ h' tk' a vals n led, (∀ b o, b ≠ L → s.heap.get? b = some o → h'.get? b = some o) → (∀ o, s.heap.get? L = some o → ∃ sl, h'.get? L = some { o with slots := sl }) →
     (∀ p ∈ led, h'.get? p.1 = some p.2 ∧ s.heap.get? p.1 = none) → (a, listOf vals.toArray n) ∈ led → DatAll led vals (items.map Item.dat) → Q (.ref a) { s with heap := h', toks := tk'}) :
   wpAny (model PySem.Challenge.rw_ny0030_01.row.prog w) ⟨none, dp, some [env], gd, un⟩ (call (.ref 98) [.ref l]) Q E s := by
  refine' enter (binds := [(Str.ofString "octets", .ref l)]) X T ?k6 ?k7 ?k8 ?k9 ?kB ?_ ?c2 ?c3 ?c4 ?c5
  case k6 => k_is
  case k7 => k_is
  case k8 => exact Nat.lt_of_le_of_lt (Nat.le_add_right _ _) hdep
  case k9 => exact BindsTo.of_eq rfl
  case c5 => decide
  case kB => exact locs rfl
  case c2 => exact rfl
  case c3 => exact rfl
  case c4 => exact rfl
  intro L' h' F' N'
  (try dsimp only)
  w_on
  k_steps
  refine call_iter (stays_list (Fr.keep (by assumption)) hl) (by assumption) (by assumption) ?_
  intro it h1 F1 N1 lt1
  k_steps
  rename Fr _ _ _ _ => F2
  rename News _ _ _ _ => N2
  rename_i told _ hlt _ _ _ _ _ _
  refine' ksw_while (σ := Nat × List Value × Nat × List (Addr × Obj) × List Item) (fun c => (it, iterO l c.1) :: (told, listOf c.2.1.toArray c.2.2.1) :: c.2.2.2.1) (fun c => [])
      (fun c => DatAll c.2.2.2.1 c.2.1 (c.2.2.2.2.map Item.dat) ∧ ∀ p ∈ c.2.2.2.1, p.1 ≠ it ∧ p.1 ≠ told) [Str.ofString "number", Str.ofString "mark", Str.ofString "name", Str.ofString "k"]
      (fun c => c.1 ≤ os.length ∧ c.2.2.2.2.length ≤ c.1 ∧ ∃ f r, heard f (os.drop c.1) = some r ∧ c.2.2.2.2 ++ r = items) (fun c => os.length - c.1) (0, [], 0, [], []) F2 ?hN ?hF ?hk ?hp ?turn
  case hN => exact fun p hp => N2 p (by simp only [List.mem_cons, List.not_mem_nil, or_false] at hp ⊢; rcases hp with e | e; exact .inr (.inr e); exact .inr (.inl e))
  case hF => exact ⟨.nil, fun _ h => nomatch h⟩
  case hk => exact fun _ h => nomatch h
  case hp => exact ⟨Nat.zero_le _, Nat.le_refl _, _, _, hit, rfl⟩
  case turn =>
    rintro ⟨j, vals, nn, tl, its⟩ u h3 tk3 ⟨hDat, hoff⟩ ⟨hj, hnj, f, r, hhd, hir⟩ F3 N3
    dsimp only at hDat hoff hj hnj hhd hir F3 N3 ⊢
    k_steps
    refine c_varint os j hj hos hlen B (by assumption) X (by assumption) T rfl rfl rfl rfl ?_ ?_ hl hI ?_ ?_ ?_
    · show dp + 1 + 1 < recursionLimit; omega
    · show un + 3 + 30 < cLine; omega
    · refine List.forall_mem_cons.mpr ⟨?_, fun p hp => (hoff p hp).1⟩
      exact Nat.ne_of_gt hlt
    · intro v rr h5 tk5 t5 hv F5 N5
      dsimp only
      obtain ⟨hrr, hjr⟩ := varint_at hv
      have hjlen : os.length - rr.length ≤ os.length := Nat.sub_le _ _
      k_steps
      cases f with
      | zero => cases hhd
      | succ f =>
        rw [heard, hv] at hhd
        dsimp only at hhd
        by_cases hodd : v % 2 = 1
        · rw [if_pos hodd] at hhd
          by_cases hport : v / 2 < 65536
          · rw [if_pos hport] at hhd
            obtain ⟨r2, hr2, rfl⟩ := Option.map_eq_some_iff.mp hhd
            have c1 : ((v : Int).fmod 2 == 1) = true := by
              rw [Int.fmod_eq_emod_of_nonneg _ (by decide)]; simp; omega
            refine ite_pos c1 ?_
            k_steps
            obtain ⟨mk, hmk, emk⟩ := mark_of v
            rw [emk]
            rename Fr _ _ _ _ => F6
            rename News _ _ _ _ => N6
            obtain ⟨dg1, dg2⟩ := digs_of (v / 2) hport
            refine c229 _ _ ((Nat.toDigits 10 (v / 2)).map Char.toNat) mk (v / 2) _ (Str.ofString "host") _ _ _ (X.keeps F6.keep) (T.keeps F6.keep) ?_ ?_ rfl (text229 v mk) dg1 dg2 hmk ?_ (N6 _ (.head _)).1 ?_
            · show dp + 1 + 5 < recursionLimit; omega
            · show un + 3 + 30 < cLine; omega
            · have := KIN.num_reads (n := ((v / 2 : Nat) : Int)) (by omega) (by omega)
              rw [← this]
              congr 1
              refine Str.ext' (Array.toList_inj.mp ?_)
              rw [KIN.signs_num]
            · intro h7 tk7 a t1 t2 n7 st7 fr7 ha7
              have F7 := frUp F6 st7
              have N7 := newsAdd F6 N6 st7 fr7 ha7
              have ne7 := newsNe N6 fr7
              clear F6 N6
              dsimp only
              k_steps
              have hne : ∀ p ∈ tl, p.1 ≠ told := fun p hp => (hoff p hp).2
              have hta : told ≠ a := ne7 (told, _) (.tail _ (.tail _ (.head _)))
              have hia : it ≠ a := ne7 (it, _) (.tail _ (.head _))
              have hvl : vals.length = its.length := by have := hDat.length; simpa using this
              refine append_V (hsz := ?sz) (D := told) (vals := vals) (n := nn) F7 N7 (.tail (Ne.symm hta) (.tail (fun e => ?d1) (.tail (Nat.ne_of_lt hlt) (.head hne)))) ?_
              case sz => rw [hvl]; exact Nat.le_trans (Nat.le_trans hnj hj) (Nat.le_trans hlen (by decide))
              case d1 => have := ‹it < _ ∧ told < _ ∧ AllLt _ tl›.2.1; exact absurd e (Nat.ne_of_gt this)
              intro h8 F8 N8
              dsimp only
              k_steps
              refine ksw_end (os.length - rr.length, vals ++ [.ref a], nn + 1, (a, { cls := .type "tuple", data := .seq #[.str (Str.ofString "host") t1, .int ((v / 2 : Nat) : Int) t2] n7 }) :: tl, its ++ [Item.port (v / 2)]) F8 N8 ?hn ⟨?dat, ?off⟩ (fun _ h => nomatch h) ?same ⟨hjlen, ?len, f, r2, ?hd, ?app⟩ ?meas
              case hn =>
                intro p hp
                simp only [List.mem_cons] at hp ⊢
                rcases hp with hp | hp | hp | hp
                · exact .inr (.inr (.inl hp))
                · exact .inr (.inr (.inr (.inl hp)))
                · exact .inl hp
                · exact .inr (.inr (.inr (.inr hp)))
              case dat =>
                rw [List.map_append]
                exact (hDat.mono fun p hp => .tail _ hp).append (.one (.tuple (vs := [_, _]) (.head _) (.cons (.str _ _) (.cons (.int _ _) .nil))))
              case off => exact List.forall_mem_cons.mpr ⟨⟨Ne.symm hia, Ne.symm hta⟩, hoff⟩
              case same =>
                intro z _ h3
                have h4 := h3
                simp only [List.contains_cons, List.contains_nil, Bool.or_false, Bool.or_eq_false_iff, beq_eq_false_iff_ne, ne_eq] at h4
                simp [h4, kstB]
              case len => rw [List.length_append]; show its.length + 1 ≤ _; omega
              case hd => rw [hrr]; exact hr2
              case app => rw [List.append_assoc]; exact hir
              case meas => show os.length - (os.length - rr.length) < os.length - j; omega
          · rw [if_neg hport] at hhd; cases hhd
        · rw [if_neg hodd] at hhd
          by_cases hk3 : v / 2 ≤ 3
          · rw [if_pos hk3] at hhd
            have c1 : ¬ ((v : Int).fmod 2 == 1) = true := by
              rw [Int.fmod_eq_emod_of_nonneg _ (by decide)]; simp; omega
            refine ite_neg c1 ?_
            k_steps
            refine For_invV s.heap rfl rfl ?_
            k_steps
            rename Fr _ _ _ _ => F6
            rename News _ _ _ _ => N6
            rename IsRange _ _ _ _ _ _ _ _ => R6
            rw [half_of] at R6
            rw [show Str.ofString "" = Str.mk ([] : List Nat).toArray from by decide +kernel] at F6
            refine' kd_range (n := v / 2) (σ := Nat × List Nat × Tok) (fun c => [(it, iterO l c.1)]) ((told, listOf vals.toArray nn) :: tl) (fun c => [(Str.ofString "name", .str ⟨c.2.1.toArray⟩ c.2.2)]) (fun _ _ => True) []
              (fun pre c => c.1 ≤ os.length ∧ os.length - rr.length ≤ c.1 ∧ c.2.1.length = pre.length ∧ pre.length ≤ v / 2 ∧ signs (v / 2) rr = addS c.2.1 (signs (v / 2 - pre.length) (os.drop c.1))) (it :: told :: tl.map (·.1)) (os.length - rr.length, [], _)
              rfl R6 (small_one (by omega) (by omega) (by omega) (by omega)) (by rw [rangeSize_nat]; omega) F6 N6 ?ki6 ?ka6 trivial ?kk6 ?kp6 ?turn6 ?done6
            case ki6 => intro p hp; simpa using hp
            case ka6 => intro c; rfl
            case kk6 => kst_all
            case kp6 =>
              refine ⟨Nat.sub_le _ _, Nat.le_refl _, rfl, Nat.zero_le _, ?_⟩
              show signs (v / 2) rr = addS [] (signs (v / 2 - 0) (os.drop (os.length - rr.length)))
              rw [addS_nil, Nat.sub_zero, hrr]
            case turn6 =>
              rintro ⟨j2, cs, tn⟩ tl2 pre k tk2 u2 h7 tk7 own hk hpn sep off _ ⟨hj2, hj2', hcl, hpl, hsg⟩ F7 N7
              dsimp only at hj2 hj2' hcl hpl hsg F7 N7 ⊢
              k_steps
              have hne7 : ∀ p ∈ ((told, listOf vals.toArray nn) :: tl ++ (tl2 ++ own)), p.1 ≠ it := by
                intro p hp
                rcases List.mem_append.mp hp with hp | hp
                · rcases List.mem_cons.mp hp with rfl | hp
                  · exact Nat.ne_of_gt hlt
                  · exact (hoff p hp).1
                · exact off p hp it (.head _)
              refine c_varint (rest := (told, listOf vals.toArray nn) :: tl ++ (tl2 ++ own)) os j2 hj2 hos hlen B (by assumption) X (by assumption) T rfl rfl rfl rfl ?_ ?_ hl (by assumption) hne7 ?_ ?_
              · show dp + 1 + 1 < recursionLimit; omega
              · show un + 3 + 30 < cLine; omega
              · intro c rr2 h8 tk8 t8 hv8 F8 N8
                dsimp only
                obtain ⟨hrr8, hjr8⟩ := varint_at hv8
                have hkk : v / 2 - pre.length = (v / 2 - (pre.length + 1)) + 1 := by omega
                rw [hkk, signs_step hv8] at hsg
                by_cases hc : c < 4096
                · rw [if_pos hc, addS_add] at hsg
                  have hcsl : (Str.mk cs.toArray).length ≤ 3 := by
                    show cs.toArray.size ≤ 3
                    rw [List.size_toArray]; omega
                  k_steps
                  rename Fr _ _ _ _ => F9
                  rename News _ _ _ _ => N9
                  rw [Int.toNat_natCast, str_snoc] at F9
                  refine kd_end (os.length - rr2.length, cs ++ [c], _) [] sep F9 N9 ?hn ?ho rfl (fun _ h => nomatch h) (fun _ h => nomatch h) (by kst_all) ?hr trivial ⟨Nat.sub_le _ _, by show os.length - rr.length ≤ os.length - rr2.length; omega, by simp [hcl], by simp; omega, ?hsg⟩
                  case hn =>
                    intro p hp
                    simp only [List.nil_append, List.mem_append, List.mem_cons, List.not_mem_nil, or_false] at hp ⊢
                    rcases hp with hp | (hp | hp) | hp
                    · exact .inl hp
                    · exact .inr (.inl (.inl hp))
                    · exact .inr (.inl (.inr hp))
                    · exact .inr (.inr (.inl hp))
                  case ho =>
                    intro p hp
                    simp only [List.mem_append, List.mem_cons] 
                    exact .inr (.inr (.inr hp))
                  case hr =>
                    intro z hz h2 h3
                    have q1 := h2 _ (.head _)
                    dsimp only at q1
                    simp [q1, hz, kstB]
                  case hsg =>
                    rw [hsg, hrr8]
                    congr 2
                    simp
                    try omega
                · rw [if_neg hc] at hsg
                  rw [hsg] at hhd; cases hhd
              · intro hv8 e t h5 tk5 G RS FG up
                dsimp only
                refine caught_S0 (KF := hd.heap_39 w.params) (X := "StopIteration") (T' := "StopIteration") RS FG B up XB TB D KtsTurn.refl ?ex8 ?hv8 ?hn8 ?hexc8 ?hnt8 ?hsub8 ?kk8
                case ex8 => k_is
                case hv8 => decide +kernel
                case hn8 => decide
                case hexc8 => rw [isSubtype_type]; kernel_rfl
                case hnt8 => kernel_rfl
                case hsub8 => rw [isSubtype_type]; kernel_rfl
                case kk8 =>
                  intro h6 g6 news6 T6 F6 N6 got6 N7 B6 X6 P6 D6
                  have hkk : v / 2 - pre.length = (v / 2 - (pre.length + 1)) + 1 := by omega
                  rw [hkk, signs_stop hv8] at hsg
                  have hits : its = items := by
                    rw [hsg] at hhd
                    cases hhd
                    simpa using hir
                  subst hits
                  k_steps
                  dsimp only
                  have memL : ∀ b, b ∈ List.filterMap (fun x : Env => x.frame) [env] → b = L := fun b hb => by
                    simp [hf] at hb; exact hb
                  have sub7 : ∀ p ∈ (told, listOf vals.toArray nn) :: tl, p ∈ (it, iterE os.length) :: ((told, listOf vals.toArray nn) :: tl ++ (tl2 ++ own)) := fun p hp => .tail _ (List.mem_append_left _ hp)
                  refine h _ _ told vals nn ((told, listOf vals.toArray nn) :: tl) (fun b o hb hbo => F6.keep _ _ (T6.other b o hbo fun hm => hb (memL b hm))) (fun o ho => ?_) (fun p hp => ⟨(N7 p (sub7 p hp)).1, ?_⟩) (.head _) (hDat.mono fun p hp => .tail _ hp)
                  · obtain ⟨sl, hsl⟩ := T6.up ho
                    exact ⟨sl, F6.keep _ _ hsl⟩
                  · cases q : s.heap.get? p.1 with
                    | none => rfl
                    | some o =>
                      obtain ⟨sl, hsl⟩ := T6.up q
                      have := (N7 p (sub7 p hp)).2.2
                      rw [hsl] at this; cases this
            case done6 =>
              rintro ⟨j2, cs, tn⟩ tl2 u2 h7 tk7 off _ ⟨hj2, hj2', hcl, hpl, hsg⟩ F7 N7
              dsimp only at hj2 hj2' hcl hpl hsg F7 N7 ⊢
              have hcsl : (Str.mk cs.toArray).length ≤ 3 := by
                show cs.toArray.size ≤ 3
                rw [List.size_toArray, hcl, rangeKs_length]; omega
              have hcs3 : cs.length ≤ 3 := by rw [hcl, rangeKs_length]; omega
              rw [rangeKs_length, Nat.sub_self, signs] at hsg
              have hsg2 : signs (v / 2) rr = some (some (cs, os.drop j2)) := by rw [hsg]; simp [addS]
              rw [hsg2] at hhd
              dsimp only at hhd
              obtain ⟨r2, hr2, rfl⟩ := Option.map_eq_some_iff.mp hhd
              k_steps
              rw [repl_dbl cs hcs3]
              have hdl : (Str.mk (dbl cs).toArray).length ≤ 6 := by
                show (dbl cs).toArray.size ≤ 6
                rw [List.size_toArray]
                have := dbl_len cs
                omega
              k_steps
              refine c257 _ _ cs (X.keeps (Fr.keep (by assumption))) (T.keeps (Fr.keep (by assumption))) ?_ ?_ (text257 cs) hcs3 ?_
              · show dp + 1 + 5 < recursionLimit; omega
              · show un + 3 + 30 < cLine; omega
              · intro h8 tk8 t8 st8
                rename Fr _ _ _ _ => F8
                have F9 := frUp F8 st8
                have N9 : News s.heap L' h8 ((it, iterO l j2) :: (told, listOf vals.toArray nn) :: (tl ++ tl2)) := newsUp (news := (it, iterO l j2) :: (told, listOf vals.toArray nn) :: (tl ++ tl2)) (by assumption) st8
                dsimp only
                k_steps
                have hne : ∀ p ∈ tl ++ tl2, p.1 ≠ told := fun p hp => (List.mem_append.mp hp).elim (fun hp => (hoff p hp).2) fun hp => off p hp told (.tail _ (.head _))
                have hvl : vals.length = its.length := by have := hDat.length; simpa using this
                refine append_V (hsz := ?sz8) (D := told) (vals := vals) (n := nn) F9 N9 (.tail (Nat.ne_of_lt hlt) (.head hne)) ?_
                case sz8 => rw [hvl]; exact Nat.le_trans (Nat.le_trans hnj hj) (Nat.le_trans hlen (by decide))
                intro h10 F10 N10
                dsimp only
                k_steps
                refine ksw_end (j2, vals ++ [.str ⟨cs.toArray⟩ t8], nn + 1, tl ++ tl2, its ++ [Item.name cs]) F10 N10 (fun _ h => h) ⟨?dat8, ?off8⟩ (fun _ h => nomatch h) ?same8 ⟨hj2, ?len8, f, r2, hr2, ?app8⟩ ?meas8
                case dat8 =>
                  rw [List.map_append]
                  exact (hDat.mono fun p hp => List.mem_append_left _ hp).append (.one (.str _ _))
                case off8 =>
                  intro p hp
                  rcases List.mem_append.mp hp with hp | hp
                  · exact hoff p hp
                  · exact ⟨off p hp it (.head _), off p hp told (.tail _ (.head _))⟩
                case same8 =>
                  intro z _ h3
                  have h4 := h3
                  simp only [List.contains_cons, List.contains_nil, Bool.or_false, Bool.or_eq_false_iff, beq_eq_false_iff_ne, ne_eq] at h4
                  simp [h4, kstB]
                case len8 => rw [List.length_append]; show its.length + 1 ≤ j2; omega
                case app8 => rw [List.append_assoc]; exact hir
                case meas8 => show os.length - j2 < os.length - j; omega
          · rw [if_neg hk3] at hhd; cases hhd
    · intro hv e t h5 tk5 G RS FG up
      dsimp only
      refine caught_S0 (KF := hd.heap_39 w.params) (X := "StopIteration") (T' := "StopIteration") RS FG B up XB TB D KtsTurn.refl ?ex ?hv' ?hn ?hexc ?hnt ?hsub ?kk
      case ex => k_is
      case hv' => first | exact PyProof.Rows.boot_StopIteration | decide +kernel | kernel_rfl
      case hn => decide
      case hexc => rw [isSubtype_type]; kernel_rfl
      case hnt => kernel_rfl
      case hsub => rw [isSubtype_type]; kernel_rfl
      case kk =>
        intro h6 g6 news6 T6 F6 N6 got6 N7 B6 X6 P6 D6
        have hits : its = items := by
          cases f with
          | zero => cases hhd
          | succ f =>
            rw [heard, hv] at hhd
            cases hhd
            simpa using hir
        subst hits
        k_steps
        dsimp only
        have memL : ∀ b, b ∈ List.filterMap (fun x : Env => x.frame) [env] → b = L := fun b hb => by
          simp [hf] at hb; exact hb
        refine h _ _ told vals nn ((told, listOf vals.toArray nn) :: tl) (fun b o hb hbo => F6.keep _ _ (T6.other b o hbo fun hm => hb (memL b hm))) (fun o ho => ?_) (fun p hp => ⟨(N7 p (.tail _ hp)).1, ?_⟩) (.head _) (hDat.mono fun p hp => .tail _ hp)
        · obtain ⟨sl, hsl⟩ := T6.up ho
          exact ⟨sl, F6.keep _ _ hsl⟩
        · cases q : s.heap.get? p.1 with
          | none => rfl
          | some o =>
            obtain ⟨sl, hsl⟩ := T6.up q
            have := (N7 p (.tail _ hp)).2.2
            rw [hsl] at this; cases this
end Mine
end

/-! Spec3 -/
section
open PySem PySem.W PySem.Calls PyProof.Rows PySem.Spec
namespace Mine
def hiDigs (n : Nat) : List Nat := if h : n = 0 then [] else hiDigs (n / 64) ++ [n % 64 + 64]
termination_by n
decreasing_by omega
def digs (n : Nat) : List Nat := hiDigs (n / 64) ++ [n % 64]
theorem hiDigs_zero : hiDigs 0 = [] := by rw [hiDigs]; rfl
theorem hiDigs_pos {n : Nat} (h : n ≠ 0) : hiDigs n = hiDigs (n / 64) ++ [n % 64 + 64] := by rw [hiDigs, dif_neg h]
/-- the octets of a number, each raised by hi -/
def octs (hi : Nat) (n : Nat) : List Nat := (digs n).map (· + hi)
theorem hiDigs_len (n : Nat) : (hiDigs n).length ≤ n := by
  induction n using Nat.strongRecOn with
  | _ n ih =>
    by_cases h : n = 0
    · subst h; rw [hiDigs_zero]; exact Nat.le_refl _
    · rw [hiDigs_pos h, List.length_append]
      have := ih (n / 64) (by omega)
      show (hiDigs (n / 64)).length + 1 ≤ n
      omega
theorem octs_len (hi n : Nat) : (octs hi n).length ≤ n / 64 + 1 := by
  have := hiDigs_len (n / 64)
  simp only [octs, digs, List.length_map, List.length_append, List.length_cons, List.length_nil]
  omega
theorem flat_len (hi : Nat) : ∀ l : List Nat, (∀ c ∈ l, c < 4096) → (l.flatMap (octs hi)).length ≤ 64 * l.length
  | [], _ => Nat.le_refl _
  | c :: r, h => by
    have h1 := flat_len hi r fun d hd => h d (.tail _ hd)
    have h2 := octs_len hi c
    have h3 := h c (.head _)
    simp only [List.flatMap_cons, List.length_append, List.length_cons]
    omega
end Mine
end

/-! TDig -/
section
open PySem PySem.W PySem.Calls PyProof.Rows PySem.Spec
set_option maxRecDepth 100000
set_option maxHeartbeats 8000000
namespace Mine
local macro_rules | `(tactic| k_steps) => `(tactic| repeat' ((fail_if_success (with_reducible show wpAny _ _ (exec (Stmt.While _ _ _ _) _) _ _ _)); (fail_if_success (with_reducible show wpAny _ _ (call (Value.ref _) _) _ _ _)); (fail_if_success (with_reducible show wpAny _ _ (call (Value.builtin "list.append") _) _ _ _)); (fail_if_success (with_reducible show KswEnd _ _ _ _ _ _ _ _ _ _ _ _)); (fail_if_success ((with_reducible show (ite _ _ _)); (fail_if_success k_closed))); first | (k_unfold; (try dsimp only)) | (k_end; wrow_close) | walk1 | (dsimp only; walk1) | (leave1; walk_say "STEP leave1"; try dsimp only) | fail "no step"))
theorem append_V1 {prog : Program} {w : World} {A : Around} {E : Value → Shared → Prop} {s : Shared} {h₀ : Heap} {L D : Addr} {m : Str → Option Value} {news news' : List (Addr × Obj)} {vals : List Value} {n : Nat} {x : Value} {Q : Value → Shared → Prop} (F : Fr h₀ L s.heap m) (N : News h₀ L s.heap news) (U : Upd D (listOf vals.toArray n) (listOf (vals ++ [x]).toArray (n + 1)) news news')
    (h : ∀ h', Fr h₀ L h' m → News h₀ L h' news' → Q .none { s with heap := h' }) (hsz : vals.length ≤ sizeLine) : wpAny (model prog w) A (call (.builtin "list.append") [.ref D, x]) Q E s := by
  rw [← List.push_toArray] at U
  exact append_K F N U h (by rw [List.size_toArray]; exact hsz)
theorem c_digits {w : World} {dp un : Nat} {fr : Option (List Env)} {gd : Option (List Code)} {s : Shared} {Q E : Value → Shared → Prop} {mean : ExcName → Option Value} {mg mb : Str → Option Value} (N0 hi : Nat) (t1 t2 : Tok) (hN : N0 < 262144) (hhi : hi ≤ 128)
   (X : (hd.heap_39 w.params).In s.heap) (T : Top hd.view_39 (looseW hd.view_39 []) mean mg mb s.heap) (hdep : dp + 5 < recursionLimit) (hu : un + 30 < cLine)
   (h : ∀ h' tk' a vs n, s.heap.StaysIn h' → s.heap.get? a = none → h'.get? a = some (listOf vs.toArray n) → IntsAre vs ((octs hi N0).map fun n : Nat => (n : Int)) → Q (.ref a) { s with heap := h', toks := tk'}) :
   wpAny (model PySem.Challenge.rw_ny0030_01.row.prog w) ⟨none, dp, fr, gd, un⟩ (call (.ref 84) [.int (N0 : Nat) t1, .int (hi : Nat) t2]) Q E s := by
  refine' enter (binds := [(Str.ofString "number", .int (N0 : Nat) t1), (Str.ofString "high", .int (hi : Nat) t2)]) X T ?k6 ?k7 ?k8 ?k9 ?kB ?_ ?c2 ?c3 ?c4 ?c5
  case k6 => k_is
  case k7 => k_is
  case k8 => exact Nat.lt_of_le_of_lt (Nat.le_add_right _ _) hdep
  case k9 => exact BindsTo.of_eq rfl
  case c5 => decide
  case kB => exact locs rfl
  case c2 => exact rfl
  case c3 => exact rfl
  case c4 => exact rfl
  intro L' h' F' N'
  (try dsimp only)
  w_on
  k_steps
  rename Fr _ _ _ _ => F2
  rename News _ _ _ _ => N2
  rename_i dl _ _ _
  have e0 : ((N0 : Int).fmod 64 + (hi : Int)) = ((N0 % 64 + hi : Nat) : Int) := by rw [Int.fmod_eq_emod_of_nonneg _ (by decide)]; simp
  rw [e0] at N2
  refine' ksw_while (σ := Nat × List Value × Nat × Tok × List Nat) (fun c => [(dl, listOf c.2.1.toArray c.2.2.1)]) (fun c => [(Str.ofString "number", .int (c.1 : Nat) c.2.2.2.1)]) (fun c => IntsAre c.2.1 (c.2.2.2.2.map fun n : Nat => (n : Int))) []
      (fun c => c.1 ≤ N0 ∧ c.1 + c.2.2.2.2.length ≤ N0 + 1 ∧ octs hi N0 = (hiDigs (c.1 / 64)).map (· + hi) ++ c.2.2.2.2.reverse) (fun c => c.1) (N0, [_], 0, t1, [N0 % 64 + hi]) F2 N2 ?hf ?hk ?hp ?turn
  case hf => exact IntsAre.cons _ _ IntsAre.nil
  case hk => kst_all
  case hp => exact ⟨Nat.le_refl _, Nat.le_refl _, by simp [octs, digs]⟩
  case turn =>
    rintro ⟨n, vals, nn, tn, ds⟩ u h3 tk3 hI ⟨hn, hnl, hoc⟩ F3 N3
    dsimp only at hI hn hnl hoc F3 N3 ⊢
    have hvl : vals.length = ds.length := by have := hI.length; simpa using this
    k_steps
    by_cases hgt : 63 < n
    · refine ite_pos (decide_eq_true (by omega)) ?_
      k_steps
      rename Fr _ _ _ _ => F4
      have e1 : (n : Int).fdiv 64 = ((n / 64 : Nat) : Int) := by rw [Int.fdiv_eq_ediv_of_nonneg _ (by decide)]; simp
      have e2 : ((n : Int).fdiv 64).fmod 64 + 64 + (hi : Int) = ((n / 64 % 64 + 64 + hi : Nat) : Int) := by rw [e1, Int.fmod_eq_emod_of_nonneg _ (by decide)]; simp
      rw [e1] at F4
      rw [e2]
      refine append_V1 (hsz := ?sz) (D := dl) (vals := vals) (n := nn) F4 (by assumption) (.head (List.forall_mem_nil _)) ?_
      case sz => rw [hvl]; exact Nat.le_trans (show ds.length ≤ 262145 by omega) (by decide)
      intro h5 F5 N5
      dsimp only
      k_steps
      refine ksw_end (n / 64, vals ++ [_], nn + 1, _, ds ++ [n / 64 % 64 + 64 + hi]) F5 N5 (fun _ h => h) ?hf2 (by kst_all) ?same ⟨?b1, ?b2, ?b3⟩ ?meas
      case hf2 => rw [List.map_append]; exact hI.append (.cons _ _ .nil)
      case same =>
        intro z h2 h3
        have q1 := h2 _ (.head _)
        dsimp only at q1
        simp [q1, kstB]
      case b1 => show n / 64 ≤ N0; omega
      case b2 => rw [List.length_append]; show n / 64 + (ds.length + 1) ≤ N0 + 1; omega
      case b3 =>
        rw [hoc, hiDigs_pos (n := n / 64) (by omega)]
        simp
      case meas => show n / 64 < n; omega
    · refine ite_neg (by simp; omega) ?_
      k_steps
      dsimp only
      rename Fr _ _ _ _ => F6
      rename News _ _ _ _ => N6
      rename IntsAre _ _ => I6
      refine h _ _ _ _ _ F6.keep (N6 _ (.head _)).2.2 (N6 _ (.head _)).1 ?_
      rw [hoc, show n / 64 = 0 by omega, hiDigs_zero]
      rw [← List.map_reverse] at I6
      simpa using I6
end Mine
end

/-! TKept -/
section
open PySem PySem.W PySem.Calls PyProof.Rows PySem.Spec
set_option maxRecDepth 100000
set_option maxHeartbeats 8000000
namespace Mine
local macro_rules | `(tactic| k_steps) => `(tactic| repeat' ((fail_if_success (with_reducible show wpAny _ _ (exec (Stmt.While _ _ _ _) _) _ _ _)); (fail_if_success (with_reducible show wpAny _ _ (call (Value.ref _) _) _ _ _)); (fail_if_success (with_reducible show wpAny _ _ (exec (Stmt.For _ _ _ _ _) _) _ _ _)); (fail_if_success (with_reducible show wpAny _ _ (pyIter _) _ _ _)); (fail_if_success ((with_reducible show (ite _ _ _)); (fail_if_success k_closed))); first | (k_unfold; (try dsimp only)) | (k_end; wrow_close) | walk1 | (dsimp only; walk1) | (leave1; walk_say "STEP leave1"; try dsimp only) | fail "no step"))
theorem iter_str {prog : Program} {w : World} {A : Around} {E : Value → Shared → Prop} {s : Shared} {x : Str} {t : Tok} {Q : Value → Shared → Prop}
    (hQ : ∀ (o : Obj) (St : Nat → Heap → Prop), (∀ A' : Around, A'.handled = none → Walks prog w A' s.heap.objs.size [s.heap.objs.size] [s.heap.objs.size] x.cps.size (SignAt x) St) → (∀ i h, St i h → ∃ o, h.get? s.heap.objs.size = some o) → St 0 (s.heap.push o) →
      Q (.ref s.heap.objs.size) { s with heap := s.heap.push o }) : wpAny (model prog w) A (pyIter (.str x t)) Q E s := by
  cases ha : x.cps.all (· < 128)
  · exact wpAny_pyIter_wide ha (hQ _ _ (fun A' hA => Walks.strWide hA _ x t) (fun _ _ ⟨o, ho, _⟩ => ⟨o, ho⟩) ⟨_, Heap.get?_push_size _ rfl, rfl, rfl⟩)
  · exact wpAny_pyIter_ascii ha (hQ _ _ (fun A' hA => Walks.strAscii hA _ x t) (fun _ _ ⟨o, ho, _⟩ => ⟨o, ho⟩) ⟨_, Heap.get?_push_size _ rfl, rfl, rfl⟩)
theorem flat_step {cs : List Nat} {i c : Nat} (hi : Nat) (h : cs[i]? = some c) : (cs.take (i + 1)).flatMap (octs hi) = (cs.take i).flatMap (octs hi) ++ octs hi c := by
  rw [List.take_add_one, h]; simp
theorem c_keptP {w : World} {dp un : Nat} {fr : Option (List Env)} {gd : Option (List Code)} {s : Shared} {Q E : Value → Shared → Prop} {mean : ExcName → Option Value} {mg mb : Str → Option Value} (p hi : Nat) (t1 t2 : Tok) (hp : p < 65536) (hhi : hi ≤ 128)
   (X : (hd.heap_39 w.params).In s.heap) (T : Top hd.view_39 (looseW hd.view_39 []) mean mg mb s.heap) (hdep : dp + 10 < recursionLimit) (hu : un + 60 < cLine)
   (h : ∀ h' tk' a vs n, s.heap.StaysIn h' → s.heap.get? a = none → h'.get? a = some (listOf vs.toArray n) → IntsAre vs ((octs hi (2 * p + 1)).map fun n : Nat => (n : Int)) → Q (.ref a) { s with heap := h', toks := tk'}) :
   wpAny (model PySem.Challenge.rw_ny0030_01.row.prog w) ⟨none, dp, fr, gd, un⟩ (call (.ref 91) [.int (p : Nat) t1, .int (hi : Nat) t2]) Q E s := by
  refine' enter (binds := [(Str.ofString "item", .int (p : Nat) t1), (Str.ofString "high", .int (hi : Nat) t2)]) X T ?k6 ?k7 ?k8 ?k9 ?kB ?_ ?c2 ?c3 ?c4 ?c5
  case k6 => k_is
  case k7 => k_is
  case k8 => exact Nat.lt_of_le_of_lt (Nat.le_add_right _ _) hdep
  case k9 => exact BindsTo.of_eq rfl
  case c5 => decide
  case kB => exact locs rfl
  case c2 => exact rfl
  case c3 => exact rfl
  case c4 => exact rfl
  intro L' h' F' N'
  (try dsimp only)
  w_on
  k_steps
  refine c_digits (2 * p + 1) hi _ _ (by omega) hhi (X.keeps F'.keep) (T.keeps F'.keep) (show dp + 1 + 5 < recursionLimit by omega) (show un + 3 + 30 < cLine by omega) ?_
  intro h2 tk2 a vs n st fr2 ha hI
  refine h _ _ a vs n (fun b o e => st b o (F'.keep b o e)) ?_ ha hI
  cases q : s.heap.get? a with
  | none => rfl
  | some o => rw [F'.keep _ _ q] at fr2; cases fr2
theorem c_keptN {w : World} {dp un : Nat} {fr : Option (List Env)} {gd : Option (List Code)} {s : Shared} {Q E : Value → Shared → Prop} {mean : ExcName → Option Value} {mg mb : Str → Option Value} (cs : List Nat) (hi : Nat) (t1 t2 : Tok) (hcs : cs.length ≤ 3) (hc : ∀ c ∈ cs, c < 4096) (hhi : hi ≤ 128)
   (X : (hd.heap_39 w.params).In s.heap) (T : Top hd.view_39 (looseW hd.view_39 []) mean mg mb s.heap) (hdep : dp + 10 < recursionLimit) (hu : un + 60 < cLine)
   (h : ∀ h' tk' a vs n, s.heap.StaysIn h' → s.heap.get? a = none → h'.get? a = some (listOf vs.toArray n) → IntsAre vs ((octs hi (2 * cs.length) ++ cs.flatMap (octs hi)).map fun n : Nat => (n : Int)) → Q (.ref a) { s with heap := h', toks := tk'}) :
   wpAny (model PySem.Challenge.rw_ny0030_01.row.prog w) ⟨none, dp, fr, gd, un⟩ (call (.ref 91) [.str ⟨cs.toArray⟩ t1, .int (hi : Nat) t2]) Q E s := by
  refine' enter (binds := [(Str.ofString "item", .str ⟨cs.toArray⟩ t1), (Str.ofString "high", .int (hi : Nat) t2)]) X T ?k6 ?k7 ?k8 ?k9 ?kB ?_ ?c2 ?c3 ?c4 ?c5
  case k6 => k_is
  case k7 => k_is
  case k8 => exact Nat.lt_of_le_of_lt (Nat.le_add_right _ _) hdep
  case k9 => exact BindsTo.of_eq rfl
  case c5 => decide
  case kB => exact locs rfl
  case c2 => exact rfl
  case c3 => exact rfl
  case c4 => exact rfl
  intro L' h' F' N'
  have hxl : (Str.mk cs.toArray).length ≤ 3 := by
    show cs.toArray.size ≤ 3
    rw [List.size_toArray]; exact hcs
  have hxe : (Str.mk cs.toArray).length = cs.length := by
    show cs.toArray.size = _
    rw [List.size_toArray]
  (try dsimp only)
  w_on
  k_steps
  rename Fr _ _ _ _ => F2
  rename News _ _ _ _ => N2
  refine c_digits (2 * cs.length) hi _ _ (by omega) hhi (X.keeps F2.keep) (T.keeps F2.keep) (show dp + 1 + 5 < recursionLimit by omega) (show un + 3 + 30 < cLine by omega) ?_
  intro h3 tk3 a3 vs3 n3 st3 fr3 ha3 hI3
  have F3 := frUp F2 st3
  have N3 := newsAdd F2 N2 st3 fr3 ha3
  dsimp only
  k_steps
  refine For_invV s.heap rfl rfl ?_
  k_steps
  rename Fr _ _ _ _ => F4
  rename News _ _ _ _ => N4
  generalize hm4 : (fun y => if y = Str.ofString "octets" then _ else _) = m4 at F4
  refine iter_str fun o St hW hob hst => ?_
  refine kdr_loop (m₀ := m4) (news := [(a3, listOf vs3.toArray n3)])
    (fun i m nx => ∃ a vals nn u, nx = [(a, listOf vals.toArray nn)] ∧ IntsAre vals ((octs hi (2 * cs.length) ++ (cs.take i).flatMap (octs hi)).map fun n : Nat => (n : Int)) ∧ m = fun y => if y = Str.ofString "octets" then some (.ref a) else if y = Str.ofString "sign" then u else m4 y)
    (hW _ rfl) (fun _ h => h) (fun _ h => h) ?hob ?hLf ?hwr ?hnw hst (F4.push _) ?hN ?hj ?turn ?done
  case hob => intro i hh hs b hb; rw [List.mem_singleton.mp hb]; exact hob i hh hs
  case hLf => intro hm; exact absurd F4.ns.lt ((List.mem_singleton.mp hm) ▸ Nat.lt_irrefl _)
  case hwr => intro b hb; rw [List.mem_singleton.mp hb]; exact next_is_new F4
  case hnw =>
    intro p hp hI
    have hp' : p ∈ (a3, listOf vs3.toArray n3) :: ([] : List (Addr × Obj)) := hp
    exact absurd (Heap.lt_size (N4 p hp').1) ((List.mem_singleton.mp hI) ▸ Nat.lt_irrefl _)
  case hN => exact fun p hp => ⟨Heap.get?_push_of_some _ (N4 p hp).1, (N4 p hp).2⟩
  case hj =>
    refine ⟨a3, vs3, n3, m4 (Str.ofString "sign"), rfl, by simpa using hI3, ?_⟩
    funext y
    rw [← hm4]
    by_cases h1 : y = Str.ofString "octets"
    · simp [h1]
    · by_cases h2 : y = Str.ofString "sign"
      · subst h2; rw [if_neg h1, if_pos rfl]
      · rw [if_neg h1, if_neg h2]
  case turn =>
    rintro i v m1 nx h5 tk5 own hi5 ⟨c, u5, hc5, rfl⟩ hoff ⟨a, vals, nn, u, rfl, hI, rfl⟩ F5 N5
    have hcc : cs[i]? = some c := by simpa using hc5
    have hclt : c < 4096 := hc c (List.mem_of_getElem? hcc)
    subst hm4
    k_steps
    rename Fr _ _ _ _ => F6
    rename News _ _ _ _ => N6
    refine c_digits c hi _ _ (by omega) hhi (X.keeps F6.keep) (T.keeps F6.keep) (show dp + 1 + 5 < recursionLimit by omega) (show un + 3 + 30 < cLine by omega) ?_
    intro h7 tk7 a7 vs7 n7 st7 fr7 ha7 hI7
    have F7 := frUp F6 st7
    have N7 := newsAdd F6 N6 st7 fr7 ha7
    dsimp only
    have hlen1 : (((octs hi (2 * cs.length) ++ (cs.take i).flatMap (octs hi)).map fun n : Nat => (n : Int)).length + ((octs hi c).map fun n : Nat => (n : Int)).length) ≤ sizeLine := by
      have q1 := octs_len hi (2 * cs.length)
      have q2 := flat_len hi (cs.take i) fun c hcm => hc c (List.mem_of_mem_take hcm)
      have q3 := octs_len hi c
      have q4 : (cs.take i).length ≤ cs.length := List.length_take_le' ..
      simp only [List.length_map, List.length_append]
      exact Nat.le_trans (show _ ≤ 10000 by omega) (by decide)
    refine kmk_add_ints F7 N7 ⟨_, (N7 _ (.tail _ (.head _))).1, rfl, _, rfl⟩ ⟨_, (N7 _ (.head _)).1, rfl, _, rfl⟩ hI hI7 ?_ hlen1
    intro D8 us8 h8 F8 N8 lt8 hI8
    clear F7 N7
    dsimp only
    k_steps
    rename Fr _ _ _ _ => F9
    rename News _ _ _ _ => N9
    refine InvEndG.intro (nx := [(D8, listOf us8.toArray 0)]) F9 N9 ⟨D8, us8, 0, some (.str ⟨#[c]⟩ u5), rfl, ?_, ?_⟩ ?_ (fun p hp => by rw [List.mem_singleton.mp hp]; exact .head _) (fun p hp => .tail _ (.tail _ (List.mem_append_right _ hp)))
    · rw [flat_step hi hcc, ← List.append_assoc, List.map_append]; exact hI8
    · funext y
      by_cases h1 : y = Str.ofString "octets"
      · simp [h1]
      · by_cases h2 : y = Str.ofString "sign"
        · subst h2; simp [h1]
        · simp [h1, h2]
    · intro p hp b hb e
      obtain rfl := List.mem_singleton.mp hb
      exact absurd e (Nat.ne_of_lt (lt8 p (.tail _ (List.mem_append_right _ hp))))
  case done =>
    rintro m1 nx h5 tk5 ⟨a, vals, nn, u, rfl, hI, rfl⟩ F5 N5
    subst hm4
    dsimp only
    k_steps
    dsimp only
    rename Fr _ _ _ _ => F6
    rename News _ _ _ _ => N6
    refine h _ _ a vals nn F6.keep (N6 _ (.head _)).2.2 (N6 _ (.head _)).1 ?_
    have : cs.take (Str.mk cs.toArray).cps.size = cs := by
      show cs.take cs.toArray.size = cs
      rw [List.size_toArray, List.take_length]
    rw [this] at hI
    exact hI
end Mine
end

/-! EnterC -/
section
open PySem PySem.W PySem.Calls PyProof.Rows
set_option maxRecDepth 100000
namespace Mine
theorem enterC {prog : Program} {K : Frag} {w : World} {A : Around} {s : Shared} {Q E : Value → Shared → Prop} {f : Addr} {vals : List Value} {p : Program} {loose : List Str} {mean : ExcName → Option Value} {mg mb : Str → Option Value}
    {name qual : Str} {params : Arguments} {body : List Stmt} {scope : Scope} {dV kV doc pm cdv ct oc : Value} {an od : Option Addr} {osl : Array (Option Value)} {binds : List (Str × Value)}
    (X : K.In s.heap) (T : Top p loose mean mg mb s.heap)
    (ho : K.lookup f = some ⟨oc, od, .func (fnOf name qual params body scope dV kV doc pm an cdv ct), osl⟩) (hcd : codeIn K cdv qual = true) (hroom : A.depth < recursionLimit)
    (hbind : BindsTo s (fnOf name qual params body scope dV kV doc pm an cdv ct) ⟨vals, []⟩ binds)
    (hkind : (binds.all fun y => scope.names.lookup y.1 == some .local || scope.names.lookup y.1 == some .cell) = true)
    (hnd : ((cellsFrom 0 scope.names []).map (·.1)).Nodup)
    (h : ∀ L' h₁ tk cells, Fr s.heap L' h₁ (bindL (envOfC qual scope L' f cdv).kindOf binds fun _ => none) → News s.heap L' h₁ cells →
      CellsAre (bindC (envOfC qual scope L' f cdv).kindOf binds fun _ => none) (cellsFrom (L' + 1) scope.names []) cells →
      wpAny (model prog w) (A.deeper (envOfC qual scope L' f cdv)) (execs body (envOfC qual scope L' f cdv))
        (fun fl s' => Q (match fl with | .ret v => v | _ => .none) s') (fun _ _ => False)
        { s with heap := h₁, toks := tk })
    (hco : scope.isCoroutine = false) (hgen : scope.isGenerator = false) (hk : scope.kind = .function) : wpAny (model prog w) A (call (.ref f) vals) Q E s := by
  refine wpAny_call ?_
  refine codeAny_call_function hroom (X _ _ ho) rfl hco hgen rfl (codeRec_of X hcd) (hbind _ _ _ _ ?_)
  refine wpAny_newFunctionEnv_cells hk (kindsX hkind _) fun env' he s' x => ?_
  subst he
  refine ⟨T.nolimit.keeps x.toInCall.keep, codeAny_func ?_⟩
  obtain ⟨h₁, tk, rfl, _⟩ := x.done
  obtain ⟨cells, NC, Y⟩ := Cl.news (h₀ := s.heap) (Nat.le_refl _) fun n c hm => ⟨x.cell n c (lookup_of_mem_nodup (cellsFrom_names scope.names 0 (s.heap.objs.size + 1) [] [] rfl ▸ hnd) hm), x.above n c hm⟩
  exact wpAny_mono (h s.heap.objs.size h₁ tk cells ⟨x.toInCall.ns, x.toInCall.keep, Nat.le_refl _⟩ NC Y) (fun fl s' hl => hl) fun _ _ y => y.elim
end Mine
end

/-! Comp -/
section
open PySem PySem.W PySem.Calls PyProof.Rows
set_option maxRecDepth 100000
namespace Mine
section
variable {prog : Program} {w : World} {A : Around} {R : Result → Shared → Prop} {s : Shared}

theorem comp_loop {elt iter : Expr} {x : Str} {px : Pos} {ifs : List Expr} {scope : Scope} {pos : Pos} {I D : Addr} {fp wr : List Addr} {n : Nat} {P : Nat → Value → Prop} {St : Nat → Heap → Prop}
    {cenv : Env} {m : Str → Option Value} (W : Walks prog w A I fp wr n P St) (hsz : n ≤ sizeLine) (J : Nat → List Value → Heap → Prop)
    (hx : cenv.kindOf x = some .local) (hp : (cenv.scope.kind == .class || (cenv.scope.kind == .module && cenv.locals != cenv.globals)) = false)
    (hDC : D ≠ cenv.locals) (hDf : D ∉ fp) (hCf : cenv.locals ∉ fp)
    (hJ : ∀ i ys h h', J i ys h → (∀ b o, b ≠ cenv.locals → b ∉ wr → b ≠ D → h.get? b = some o → h'.get? b = some o) → J i ys h')
    (hst : St 0 s.heap) (hacc : s.heap.get? D = some (listOf #[] 0)) (hn : s.heap.Ns cenv.locals m) (hJ0 : J 0 [] s.heap)
    (turn : ∀ i v ys k h tk m₂, i < n → P i v → J i ys h → St (i + 1) h → h.get? D = some (listOf ys.toArray k) → h.Ns cenv.locals m₂ → m₂ x = some v →
      wpAny (model prog w) A (forIn ifs true fun c r => if r = true then do let ok ← isTrue c cenv (eval c cenv); pure (ForInStep.yield ok) else pure (ForInStep.yield r))
        (fun ok s₃ => if ok = true then wpAny (model prog w) A (eval elt cenv) (fun y s₄ => ∃ h' tk', s₄ = { s with heap := h', toks := tk' } ∧ J (i + 1) (ys ++ [y]) h' ∧ ∀ b o, (b = cenv.locals ∨ b = D ∨ b ∈ fp) → h.get? b = some o → h'.get? b = some o) (fun _ _ => False) s₃
          else ∃ h' tk', s₃ = { s with heap := h', toks := tk' } ∧ J (i + 1) ys h' ∧ ∀ b o, (b = cenv.locals ∨ b = D ∨ b ∈ fp) → h.get? b = some o → h'.get? b = some o) (fun _ _ => False) { s with heap := h, toks := tk })
    (done : ∀ h' tk ys k m', J n ys h' → h'.Ns cenv.locals m' → h'.get? D = some (listOf ys.toArray k) → R (.ok .next) { s with heap := h', toks := tk }) :
    codeAny (model prog w) A (.compLoop (.ListComp elt [⟨.Name x px, iter, ifs, 0⟩] scope pos) 0 (.ref I) (.ref D) cenv) R s := by
  refine codeAny_compLoop_tests
    (fun q s' => ∃ i h' tk m' ys k, s' = { s with heap := h', toks := tk } ∧ i ≤ n ∧ q = n + 1 - i ∧ St i h' ∧ h'.get? D = some (listOf ys.toArray k) ∧ ys.length ≤ i ∧ h'.Ns cenv.locals m' ∧ J i ys h') ?_ (n + 1)
    ⟨0, s.heap, s.toks, m, [], 0, rfl, Nat.zero_le _, rfl, hst, hacc, Nat.le_refl _, hn, hJ0⟩
  rintro q s' ⟨i, H, tk, m', ys, k, rfl, hi, rfl, hst', hacc', hyl, hn', hJ'⟩
  have hCw : cenv.locals ∉ wr := fun h => hCf (W.sub _ h)
  have hDw : D ∉ wr := fun h => hDf (W.sub _ h)
  by_cases hlt : i < n
  · refine W.item i _ _ _ hlt hst' fun v h₁ tk₁ hPv hst₁ hk₁ => ?_
    refine wpAny_assign_Name (wpAny_storeName_local hx (hn'.at' fun o e => hk₁ _ o hCw e) (fun h₂ hn₂ hs₂ => ?_) hp)
    have up₂ : ∀ b o, b ≠ cenv.locals → b ∉ wr → H.get? b = some o → h₂.get? b = some o := fun b o hbC hbf e => hs₂.extBut b o hbC (hk₁ b o hbf e)
    have hst₂ : St (i + 1) h₂ := W.frame _ _ _ hst₁ fun b hb o e => hs₂.extBut b o (fun h => hCf (h ▸ hb)) e
    have hJ₂ : J i ys h₂ := hJ i ys H h₂ hJ' fun b o hbC hbw _ e => up₂ b o hbC hbw e
    have hacc₂ : h₂.get? D = some (listOf ys.toArray k) := up₂ D _ hDC hDw hacc'
    refine wpAny_mono (turn i v ys k h₂ _ _ hlt hPv hJ₂ hst₂ hacc₂ hn₂ (by simp)) (fun ok s₃ h₃ => ?_) fun _ _ e => e.elim
    cases ok with
    | false =>
      simp only [Bool.false_eq_true, if_false] at h₃ ⊢
      obtain ⟨h₄, tk₄, rfl, hJ₄, hk₄⟩ := h₃
      exact ⟨n + 1 - (i + 1), by omega, i + 1, h₄, tk₄, _, ys, k, rfl, hlt, rfl, W.frame _ _ _ hst₂ fun b hb o e => hk₄ b o (.inr (.inr hb)) e, hk₄ D _ (.inr (.inl rfl)) hacc₂, by omega, hn₂.at' fun o e => hk₄ _ o (.inl rfl) e, hJ₄⟩
    | true =>
      simp only [if_true] at h₃ ⊢
      refine wpAny_mono h₃ (fun y s₄ h₄ => ?_) fun _ _ e => e.elim
      obtain ⟨h₄, tk₄, rfl, hJ₄, hk₄⟩ := h₄
      refine append_at (hsz := by rw [List.size_toArray]; omega) (hk₄ D _ (.inr (.inl rfl)) hacc₂) fun h₅ hs₅ ho₅ => ?_
      rw [List.push_toArray] at ho₅
      refine ⟨n + 1 - (i + 1), by omega, i + 1, h₅, tk₄, _, ys ++ [y], k + 1, rfl, hlt, rfl, W.frame _ _ _ hst₂ fun b hb o e => hs₅.extBut b o (fun h => hDf (h ▸ hb)) (hk₄ b o (.inr (.inr hb)) e), ho₅, by simp; omega,
        (hn₂.at' fun o e => hk₄ _ o (.inl rfl) e).sameBut hs₅ (Ne.symm hDC), hJ _ _ h₄ h₅ hJ₄ fun b o _ _ hbD e => hs₅.extBut b o hbD e⟩
  · have hin : i = n := by omega
    subst hin
    refine W.done _ _ _ hst' fun h₁ tk₁ hk₁ => ?_
    exact done h₁ tk₁ ys k m' (hJ _ _ H h₁ hJ' fun b o _ hbw _ e => hk₁ b o hbw e) (hn'.at' fun o e => hk₁ _ o hCw e) (hk₁ D _ hDw hacc')
end
end Mine
end

/-! Comp2 -/
section
open PySem PySem.W PySem.Calls PyProof.Rows
set_option maxRecDepth 100000
namespace Mine

/-- all but L (the law's frame, whose slots may turn) is as it was -/
structure Stp (L : Addr) (h h' : Heap) : Prop where
  keep : ∀ b o, b ≠ L → h.get? b = some o → h'.get? b = some o
  slot : ∀ o, h.get? L = some o → ∃ sl, h'.get? L = some { o with slots := sl }
theorem Stp.refl (L : Addr) (h : Heap) : Stp L h h := ⟨fun _ _ _ e => e, fun o e => ⟨o.slots, e⟩⟩
theorem Stp.trans {L : Addr} {h h' h'' : Heap} (x : Stp L h h') (y : Stp L h' h'') : Stp L h h'' :=
  ⟨fun b o n e => y.keep b o n (x.keep b o n e), fun o e => by
    obtain ⟨sl, e1⟩ := x.slot o e
    obtain ⟨sl2, e2⟩ := y.slot _ e1
    exact ⟨sl2, e2⟩⟩
theorem Stp.of {L : Addr} {h h' : Heap} (st : h.StaysIn h') : Stp L h h' := ⟨fun b o _ e => st b o e, fun o e => ⟨o.slots, st _ _ e⟩⟩

/-- a ledger of objects that h bears and H did not -/
def LedIn (H h : Heap) (led : List (Addr × Obj)) : Prop := ∀ p ∈ led, h.get? p.1 = some p.2 ∧ H.get? p.1 = none

structure CI (L : Addr) (H : Heap) (wr : List Addr) (C D : Addr) (K : Nat → List Value → List (Addr × Obj) → Prop) (i : Nat) (ys : List Value) (h : Heap) : Prop where
  keep : ∀ b o, b ≠ L → b ∉ wr → H.get? b = some o → h.get? b = some o
  slot : ∀ o, H.get? L = some o → ∃ sl, h.get? L = some { o with slots := sl }
  led : ∃ led, LedIn H h led ∧ (∀ p ∈ led, p.1 ≠ C ∧ p.1 ≠ D) ∧ K i ys led

section
variable {prog : Program} {w : World} {A : Around} {E : Value → Shared → Prop} {env : Env}

theorem comp_law {elt iter : Expr} {x : Str} {px : Pos} {ifs : List Expr} {scope : Scope} {cl : List (Str × Addr)} {pos : Pos} {s₂ : Shared} {I L : Addr} {fp wr : List Addr} {n : Nat} {P : Nat → Value → Prop}
    {St : Nat → Heap → Prop} (W : Walks prog w A I fp wr n P St) (hsz : n ≤ sizeLine) {RR : Value → Addr → Result → Shared → Prop} (K : Nat → List Value → List (Addr × Obj) → Prop)
    (hcell : ∀ y ∈ scope.names, y.2 ≠ .cell) (hkind : scope.kind = .function) (hx : scope.names.lookup x = some .local) (hst : St 0 s₂.heap) (hfp : ∀ b ∈ fp, b < s₂.heap.objs.size)
    (hlive : ∀ i h, St i h → ∀ b ∈ wr, ∃ o, h.get? b = some o) (hLw : L ∉ fp) (hL : ∃ o, s₂.heap.get? L = some o) (hK0 : K 0 [] [])
    (turn : ∀ C i v ys h tk m₂, s₂.heap.objs.size ≤ C → C ≠ L → i < n → P i v → (∀ b o, b ≠ L → b ∉ wr → s₂.heap.get? b = some o → h.get? b = some o) → (∀ o, s₂.heap.get? L = some o → ∃ sl, h.get? L = some { o with slots := sl }) →
      (∃ led, LedIn s₂.heap h led ∧ K i ys led) → h.Ns C m₂ → m₂ x = some v →
      wpAny (model prog w) A (forIn ifs true fun c r => if r = true then do let ok ← isTrue c (compEnvC scope cl C env) (eval c (compEnvC scope cl C env)); pure (ForInStep.yield ok) else pure (ForInStep.yield r))
        (fun ok s₃ => if ok = true then wpAny (model prog w) A (eval elt (compEnvC scope cl C env)) (fun y s₄ => ∃ h' tk' led', s₄ = { s₂ with heap := h', toks := tk' } ∧ Stp L h h' ∧ LedIn h h' led' ∧ ∀ led, K i ys led → K (i + 1) (ys ++ [y]) (led' ++ led)) (fun _ _ => False) s₃
          else ∃ h' tk', s₃ = { s₂ with heap := h', toks := tk' } ∧ Stp L h h' ∧ ∀ led, K i ys led → K (i + 1) ys led) (fun _ _ => False) { s₂ with heap := h, toks := tk })
    (hRR : ∀ D C h' tk m' ys k led, s₂.heap.objs.size ≤ D → s₂.heap.get? D = none → s₂.heap.get? C = none → D ≠ C → D ≠ L → C ≠ L → h'.Ns C m' → h'.get? D = some (listOf ys.toArray k) →
      (∀ b o, b ≠ L → b ∉ wr → s₂.heap.get? b = some o → h'.get? b = some o) → (∀ o, s₂.heap.get? L = some o → ∃ sl, h'.get? L = some { o with slots := sl }) → LedIn s₂.heap h' led → (∀ p ∈ led, p.1 ≠ C ∧ p.1 ≠ D) → K n ys led →
      RR (.ref D) C (.ok .next) { s₂ with heap := h', toks := tk }) :
    wpAny (model prog w) A (newList []) (fun acc s₃ => wpAny (model prog w) A (newFunctionEnv scope env.globals cl [] env.qual none .none (some env)) (fun cenv s₄ =>
      codeAny (model prog w) A (.compStart (.ListComp elt [⟨.Name x px, iter, ifs, 0⟩] scope pos) 0 (.ref I) acc { cenv with scope := relabel scope env }) (RR acc cenv.locals) s₄) E s₃) E s₂ := by
  refine wpAny_newObj_type (wpAny_newFunctionEnv hcell (by intro y hy; simp at hy) (fun h₁ hns₁ hsb₁ => ?_) hkind)
  dsimp only at hns₁ hsb₁ ⊢
  generalize hH2 : s₂.heap.push { cls := .type "list", dict := none, data := .seq ([] : List Value).toArray } = H2 at hns₁ hsb₁ ⊢
  have hC : H2.objs.size = s₂.heap.objs.size + 1 := by rw [← hH2, Heap.size_push]
  have hDC : s₂.heap.objs.size ≠ H2.objs.size := by rw [hC]; exact Nat.ne_of_lt (Nat.lt_succ_self _)
  have hCle : s₂.heap.objs.size ≤ H2.objs.size := by rw [hC]; exact Nat.le_succ _
  have below : ∀ b, b < s₂.heap.objs.size → b ≠ H2.objs.size ∧ b ≠ s₂.heap.objs.size := fun b hb => ⟨by rw [hC]; exact Nat.ne_of_lt (Nat.lt_succ_of_lt hb), Nat.ne_of_lt hb⟩
  have hDf : s₂.heap.objs.size ∉ fp := fun hm => Nat.lt_irrefl _ (hfp _ hm)
  have hCf : H2.objs.size ∉ fp := fun hm => by have := hfp _ hm; rw [hC] at this; exact Nat.lt_irrefl _ (Nat.lt_of_succ_lt this)
  have old : ∀ b o, s₂.heap.get? b = some o → h₁.get? b = some o := fun b o e => hsb₁.extBut b o (below b (Heap.lt_size e)).1 (Heap.get?_push_of_some _ (hH2 ▸ Heap.get?_push_of_some _ e))
  have hacc : h₁.get? s₂.heap.objs.size = some (listOf #[] 0) := hsb₁.extBut _ _ hDC (Heap.get?_push_of_some _ (hH2 ▸ Heap.get?_push_size _ rfl))
  have hst₁ : St 0 h₁ := W.frame _ _ _ hst fun b _ o e => old b o e
  have fresh : ∀ a, s₂.heap.objs.size ≤ a → s₂.heap.get? a = none := fun a ha => by
    cases e : s₂.heap.get? a with
    | none => rfl
    | some o' => exact absurd (Heap.lt_size e) (Nat.not_lt.mpr ha)
  obtain ⟨oL, hoL⟩ := hL
  have hLlt := Heap.lt_size hoL
  have hDL : s₂.heap.objs.size ≠ L := Ne.symm (Nat.ne_of_lt hLlt)
  have hCL : H2.objs.size ≠ L := Ne.symm (below L hLlt).1
  have hLwr : L ∉ wr := fun h => hLw (W.sub _ h)
  have loop : ∀ s₃ : Shared, s₃ = { s₂ with heap := h₁, toks := s₂.toks + ([] : List (Str × Value)).length } →
      codeAny (model prog w) A (.compLoop (.ListComp elt [⟨.Name x px, iter, ifs, 0⟩] scope pos) 0 (.ref I) (.ref s₂.heap.objs.size) (compEnvC scope cl H2.objs.size env))
        (RR (.ref s₂.heap.objs.size) H2.objs.size) s₃ := by
    rintro s₃ rfl
    refine comp_loop (cenv := compEnvC scope cl H2.objs.size env) W hsz (CI L s₂.heap wr H2.objs.size s₂.heap.objs.size K) (lookup_relabel_local hx) (by simp [compEnvC, relabel, hkind]) hDC hDf hCf ?_ hst₁ hacc hns₁
      ⟨fun b o _ _ e => old b o e, fun o e => ⟨o.slots, old _ _ e⟩, [], (fun _ h => nomatch h), (fun _ h => nomatch h), hK0⟩ ?_ ?_
    · rintro i ys h h' ⟨k1, k2, led, l1, l2, l3⟩ hk
      refine ⟨fun b o hb hw e => ?_, fun o e => ?_, led, fun p hp => ⟨?_, (l1 p hp).2⟩, l2, l3⟩
      · exact hk b o (below b (Heap.lt_size e)).1 hw (below b (Heap.lt_size e)).2 (k1 b o hb hw e)
      · obtain ⟨sl, e1⟩ := k2 o e
        exact ⟨sl, hk L _ (Ne.symm hCL) hLwr (Ne.symm hDL) e1⟩
      · refine hk p.1 p.2 (l2 p hp).1 (fun hw => ?_) (l2 p hp).2 (l1 p hp).1
        obtain ⟨o, ho⟩ := hlive _ _ hst _ hw
        rw [(l1 p hp).2] at ho; cases ho
    · rintro i v ys k h tk m₂ hi hP ⟨k1, k2, led, l1, l2, l3⟩ hst₂ hD₂ hn₂ hm₂
      have far : ∀ b, (b = H2.objs.size ∨ b = s₂.heap.objs.size ∨ b ∈ fp) → b ≠ L := by
        rintro b (rfl | rfl | hb)
        · exact hCL
        · exact hDL
        · exact fun e => hLw (e ▸ hb)
      have hCn : ∃ o, h.get? H2.objs.size = some o := by obtain ⟨o, _, _, ho, _⟩ := hn₂; exact ⟨o, ho⟩
      refine wpAny_mono (turn H2.objs.size i v ys h tk m₂ hCle hCL hi hP k1 k2 ⟨led, l1, l3⟩ hn₂ hm₂) (fun ok s₃ h₃ => ?_) fun _ _ e => e
      cases ok with
      | false =>
        simp only [Bool.false_eq_true, if_false] at h₃ ⊢
        obtain ⟨h', tk', rfl, S, hk⟩ := h₃
        refine ⟨h', tk', rfl, ⟨fun b o hb hw e => S.keep b o hb (k1 b o hb hw e), fun o e => ?_, led, fun p hp => ⟨S.keep _ _ ?_ (l1 p hp).1, (l1 p hp).2⟩, l2, hk led l3⟩, fun b o hb e => S.keep b o (far b hb) e⟩
        · obtain ⟨sl, e1⟩ := k2 o e
          obtain ⟨sl2, e2⟩ := S.slot _ e1
          exact ⟨sl2, e2⟩
        · intro e; have := (l1 p hp).2; rw [e, hoL] at this; cases this
      | true =>
        simp only [if_true] at h₃ ⊢
        refine wpAny_mono h₃ (fun y s₄ h₄ => ?_) fun _ _ e => e
        obtain ⟨h', tk', led', rfl, S, hl', hk⟩ := h₄
        refine ⟨h', tk', rfl, ⟨fun b o hb hw e => S.keep b o hb (k1 b o hb hw e), fun o e => ?_, led' ++ led, fun p hp => ?_, fun p hp => ?_, hk led l3⟩, fun b o hb e => S.keep b o (far b hb) e⟩
        · obtain ⟨sl, e1⟩ := k2 o e
          obtain ⟨sl2, e2⟩ := S.slot _ e1
          exact ⟨sl2, e2⟩
        · rcases List.mem_append.mp hp with hp | hp
          · refine ⟨(hl' p hp).1, ?_⟩
            cases q : s₂.heap.get? p.1 with
            | none => rfl
            | some o =>
              have hn := (hl' p hp).2
              by_cases hw : p.1 ∈ wr
              · obtain ⟨o2, ho2⟩ := hlive _ _ hst₂ _ hw
                rw [hn] at ho2; cases ho2
              · by_cases hpl : p.1 = L
                · rw [hpl] at q hn
                  obtain ⟨sl, e1⟩ := k2 _ q
                  rw [hn] at e1; cases e1
                · rw [k1 _ _ hpl hw q] at hn; cases hn
          · refine ⟨S.keep _ _ ?_ (l1 p hp).1, (l1 p hp).2⟩
            intro e; have := (l1 p hp).2; rw [e, hoL] at this; cases this
        · rcases List.mem_append.mp hp with hp | hp
          · have hn := (hl' p hp).2
            refine ⟨fun e => ?_, fun e => ?_⟩
            · obtain ⟨o, ho⟩ := hCn; rw [e, ho] at hn; cases hn
            · rw [e, hD₂] at hn; cases hn
          · exact l2 p hp
    · rintro h' tk ys k m' ⟨k1, k2, led, l1, l2, l3⟩ hn' hD'
      exact hRR _ _ h' tk m' ys k led (Nat.le_refl _) (fresh _ (Nat.le_refl _)) (fresh _ hCle) hDC hDL hCL hn' hD' k1 k2 l1 l2 l3
  exact codeAny_compStart_list (loop _ rfl) (W.self 0 _ _ _ hst₁ (loop _ rfl))
end
end Mine
end

/-! Comp3 -/
section
open PySem PySem.W PySem.Calls PyProof.Rows
set_option maxRecDepth 100000
namespace Mine
section
variable {prog : Program} {w : World} {A : Around} {E : Value → Shared → Prop} {env : Env}

/-- what one turn of a comprehension over the ledger must show -/
def TurnOk (prog : Program) (w : World) (A : Around) (env : Env) (scope : Scope) (cl : List (Str × Addr)) (x : Str) (ifs : List Expr) (elt : Expr) (L : Addr) (K : Nat → List Value → List (Addr × Obj) → Prop) (s₁ : Shared) (i : Nat) (v : Value) : Prop :=
  ∀ C ys h tk m₂, s₁.heap.objs.size ≤ C → C ≠ L → Stp L s₁.heap h → (∃ led, LedIn s₁.heap h led ∧ K i ys led) → h.Ns C m₂ → m₂ x = some v →
      wpAny (model prog w) A (forIn ifs true fun c r => if r = true then do let ok ← isTrue c (compEnvC scope cl C env) (eval c (compEnvC scope cl C env)); pure (ForInStep.yield ok) else pure (ForInStep.yield r))
        (fun ok s₃ => if ok = true then wpAny (model prog w) A (eval elt (compEnvC scope cl C env)) (fun y s₄ => ∃ h' tk' led', s₄ = { s₁ with heap := h', toks := tk' } ∧ Stp L h h' ∧ LedIn h h' led' ∧ ∀ led, K i ys led → K (i + 1) (ys ++ [y]) (led' ++ led)) (fun _ _ => False) s₃
          else ∃ h' tk', s₃ = { s₁ with heap := h', toks := tk' } ∧ Stp L h h' ∧ ∀ led, K i ys led → K (i + 1) ys led) (fun _ _ => False) { s₁ with heap := h, toks := tk }

/-- what stands behind the whole comprehension -/
def DoneOk (L : Addr) (K : Nat → List Value → List (Addr × Obj) → Prop) (s₁ : Shared) (n : Nat) (RR : Value → Addr → Result → Shared → Prop) : Prop :=
  ∀ D C h' tk m' ys k led, s₁.heap.objs.size ≤ D → s₁.heap.get? D = none → s₁.heap.get? C = none → D ≠ C → D ≠ L → C ≠ L → h'.Ns C m' → h'.get? D = some (listOf ys.toArray k) → Stp L s₁.heap h' → LedIn s₁.heap h' led → (∀ p ∈ led, p.1 ≠ C ∧ p.1 ≠ D) → K n ys led →
      RR (.ref D) C (.ok .next) { s₁ with heap := h', toks := tk }

theorem comp_push {elt iter : Expr} {x : Str} {px : Pos} {ifs : List Expr} {scope : Scope} {cl : List (Str × Addr)} {pos : Pos} {s₁ : Shared} {L : Addr} {oI : Obj} {fp : List Addr} {n : Nat} {P : Nat → Value → Prop}
    {St : Nat → Heap → Prop} (W : Walks prog w A s₁.heap.objs.size (s₁.heap.objs.size :: fp) [s₁.heap.objs.size] n P St) (hsz : n ≤ sizeLine) {RR : Value → Addr → Result → Shared → Prop} (K : Nat → List Value → List (Addr × Obj) → Prop)
    (hcell : ∀ y ∈ scope.names, y.2 ≠ .cell) (hkind : scope.kind = .function) (hx : scope.names.lookup x = some .local) (hfr : oI.isFreed = false) (hst : St 0 (s₁.heap.push oI)) (hfp : ∀ b ∈ fp, b < s₁.heap.objs.size)
    (hlive : ∀ i h, St i h → ∃ o, h.get? s₁.heap.objs.size = some o) (hLf : L ∉ fp) (hL : ∃ o, s₁.heap.get? L = some o) (hK0 : K 0 [] [])
    (turn : ∀ i v, i < n → P i v → TurnOk prog w A env scope cl x ifs elt L K s₁ i v) (hRR : DoneOk L K s₁ n RR) :
    wpAny (model prog w) A (newList []) (fun acc s₃ => wpAny (model prog w) A (newFunctionEnv scope env.globals cl [] env.qual none .none (some env)) (fun cenv s₄ =>
      codeAny (model prog w) A (.compStart (.ListComp elt [⟨.Name x px, iter, ifs, 0⟩] scope pos) 0 (.ref s₁.heap.objs.size) acc { cenv with scope := relabel scope env }) (RR acc cenv.locals) s₄) E s₃) E { s₁ with heap := s₁.heap.push oI } := by
  obtain ⟨oL, hoL⟩ := hL
  have hLI : L ≠ s₁.heap.objs.size := Nat.ne_of_lt (Heap.lt_size hoL)
  have up : ∀ b o, s₁.heap.get? b = some o → (s₁.heap.push oI).get? b = some o := fun b o e => Heap.get?_push_of_some _ e
  have stp : ∀ {h : Heap}, (∀ b o, b ≠ L → b ∉ [s₁.heap.objs.size] → (s₁.heap.push oI).get? b = some o → h.get? b = some o) → (∀ o, (s₁.heap.push oI).get? L = some o → ∃ sl, h.get? L = some { o with slots := sl }) → Stp L s₁.heap h := by
    intro h k1 k2
    exact ⟨fun b o hb e => k1 b o hb (fun hm => Nat.ne_of_lt (Heap.lt_size e) (List.mem_singleton.mp hm)) (up b o e), fun o e => k2 o (up L o e)⟩
  have ledDown : ∀ {h : Heap} {led : List (Addr × Obj)}, LedIn (s₁.heap.push oI) h led → LedIn s₁.heap h led := by
    intro h led l p hp
    refine ⟨(l p hp).1, ?_⟩
    cases q : s₁.heap.get? p.1 with
    | none => rfl
    | some o => have := (l p hp).2; rw [up _ _ q] at this; cases this
  have hsize : s₁.heap.objs.size ≤ (s₁.heap.push oI).objs.size := by rw [Heap.size_push]; exact Nat.le_succ _
  refine comp_law (s₂ := { s₁ with heap := s₁.heap.push oI }) (L := L) W hsz K hcell hkind hx hst ?_ ?_ ?_ ⟨oL, up _ _ hoL⟩ hK0 ?_ ?_
  · intro b hb
    show b < (s₁.heap.push oI).objs.size
    rw [Heap.size_push]
    rcases List.mem_cons.mp hb with rfl | hb
    · exact Nat.lt_succ_self _
    · exact Nat.lt_succ_of_lt (hfp b hb)
  · intro i h hs b hb
    rw [List.mem_singleton.mp hb]; exact hlive i h hs
  · intro hm
    rcases List.mem_cons.mp hm with e | hm
    · exact hLI e
    · exact hLf hm
  · rintro C i v ys h tk m₂ hC hCL hi hP k1 k2 ⟨led, l1, l2⟩ hn hm
    exact turn i v hi hP C ys h tk m₂ (Nat.le_trans hsize hC) hCL (stp k1 k2) ⟨led, ledDown l1, l2⟩ hn hm
  · intro D C h' tk m' ys k led hDs hD hC hDC hDL hCL hn hDo k1 k2 l1 l2 l3
    have down : ∀ {a : Addr}, (s₁.heap.push oI).get? a = none → s₁.heap.get? a = none := fun {a} e => by
      cases q : s₁.heap.get? a with
      | none => rfl
      | some o => rw [up _ _ q] at e; cases e
    exact hRR D C h' tk m' ys k led (Nat.le_trans hsize hDs) (down hD) (down hC) hDC hDL hCL hn hDo (stp k1 k2) (ledDown l1) l2 l3

theorem comp_range {elt iter : Expr} {x : Str} {px : Pos} {ifs : List Expr} {scope : Scope} {cl : List (Str × Addr)} {pos : Pos} {s₁ : Shared} {L r : Addr} {n : Nat} {b : Int} {t u v : Tok} {RR : Value → Addr → Result → Shared → Prop} (K : Nat → List Value → List (Addr × Obj) → Prop)
    (hh : A.handled = none) (hr : IsRange s₁.heap r 0 b 1 t u v) (hb : b = (n : Nat)) (hn : n ≤ 1000000)
    (hcell : ∀ y ∈ scope.names, y.2 ≠ .cell) (hkind : scope.kind = .function) (hx : scope.names.lookup x = some .local) (hL : ∃ o, s₁.heap.get? L = some o) (hK0 : K 0 [] [])
    (turn : ∀ (i : Nat) tv, i < n → TurnOk prog w A env scope cl x ifs elt L K s₁ i (.int (i : Nat) tv)) (hRR : DoneOk L K s₁ n RR) :
    wpAny (model prog w) A (pyIter (.ref r)) (fun it s₂ => wpAny (model prog w) A (newList []) (fun acc s₃ => wpAny (model prog w) A (newFunctionEnv scope env.globals cl [] env.qual none .none (some env)) (fun cenv s₄ =>
      codeAny (model prog w) A (.compStart (.ListComp elt [⟨.Name x px, iter, ifs, 0⟩] scope pos) 0 it acc { cenv with scope := relabel scope env }) (RR acc cenv.locals) s₄) E s₃) E s₂) E s₁ := by
  subst hb
  refine wpAny_pyIter_range hr (small_one (by decide) (by decide) (by omega) (by omega)) ?_
  have hsz : Builtin.Range.rangeSize 0 ((n : Nat) : Int) 1 = ((n : Nat) : Int) := by rw [rangeSize_nat]; omega
  rw [hsz]
  refine comp_push (fp := []) (Walks.range hh s₁.heap.objs.size 0 1 n) (Nat.le_trans hn (by decide)) K hcell hkind hx rfl ?_ (fun _ h => nomatch h) (fun i h hs => ⟨_, hs⟩) (fun h => nomatch h) hL hK0 ?_ hRR
  · show IsRangeIter _ _ _ _ _
    simpa using Heap.get?_push_size _ rfl
  · rintro i v hi ⟨tv, rfl⟩
    have e : (0 : Int) + (i : Int) * 1 = ((i : Nat) : Int) := by omega
    rw [e]
    exact turn i tv hi

theorem comp_list {elt iter : Expr} {x : Str} {px : Pos} {ifs : List Expr} {scope : Scope} {cl : List (Str × Addr)} {pos : Pos} {s₁ : Shared} {L l : Addr} {vs : List Value} {RR : Value → Addr → Result → Shared → Prop} (K : Nat → List Value → List (Addr × Obj) → Prop)
    (hh : A.handled = none) (hl : s₁.heap.IsList l vs.toArray) (hlL : l ≠ L) (hn : vs.length ≤ sizeLine)
    (hcell : ∀ y ∈ scope.names, y.2 ≠ .cell) (hkind : scope.kind = .function) (hx : scope.names.lookup x = some .local) (hL : ∃ o, s₁.heap.get? L = some o) (hK0 : K 0 [] [])
    (turn : ∀ (i : Nat) v, vs[i]? = some v → TurnOk prog w A env scope cl x ifs elt L K s₁ i v) (hRR : DoneOk L K s₁ vs.length RR) :
    wpAny (model prog w) A (pyIter (.ref l)) (fun it s₂ => wpAny (model prog w) A (newList []) (fun acc s₃ => wpAny (model prog w) A (newFunctionEnv scope env.globals cl [] env.qual none .none (some env)) (fun cenv s₄ =>
      codeAny (model prog w) A (.compStart (.ListComp elt [⟨.Name x px, iter, ifs, 0⟩] scope pos) 0 it acc { cenv with scope := relabel scope env }) (RR acc cenv.locals) s₄) E s₃) E s₂) E s₁ := by
  obtain ⟨ol, hol, r1⟩ := id hl
  have hlt := Heap.lt_size hol
  refine wpAny_pyIter_list hl ?_
  have W := Walks.list (prog := prog) (w := w) hh s₁.heap.objs.size l (Nat.ne_of_lt hlt) vs.toArray
  rw [show vs.toArray.size = vs.length by simp] at W
  refine comp_push (fp := [l]) W hn K hcell hkind hx rfl ⟨⟨_, Heap.get?_push_size _ rfl, rfl, rfl⟩, hl.at fun o e => Heap.get?_push_of_some _ e⟩ (fun b hb => by rw [List.mem_singleton.mp hb]; exact hlt) (fun i h hs => ?_) (fun h => hlL (List.mem_singleton.mp h).symm) hL hK0 ?_ hRR
  · obtain ⟨⟨o, ho, _⟩, _⟩ := hs; exact ⟨o, ho⟩
  · intro i v hi hP
    exact turn i v (by simpa using hP)
end

theorem Fr.stp {h₀ h h' : Heap} {L : Addr} {m : Str → Option Value} (F : Fr h₀ L h m) (S : Stp L h h') : Fr h₀ L h' m := by
  obtain ⟨o, es, ep, ho, hd, hk⟩ := F.ns
  obtain ⟨sl, hs⟩ := S.slot o ho
  refine ⟨⟨_, es, ep, hs, hd, hk⟩, fun b o e => S.keep b o (fun hb => ?_) (F.keep b o e), F.above⟩
  rw [hb, kts_self F] at e; cases e
theorem News.stp {h₀ h h' : Heap} {L : Addr} {news : List (Addr × Obj)} (N : News h₀ L h news) (S : Stp L h h') : News h₀ L h' news :=
  fun p hp => ⟨S.keep _ _ (N p hp).2.1 (N p hp).1, (N p hp).2⟩
/-- the frame's ground, seen from a comprehension's own names -/
theorem Fr.comp {h₀ h h' : Heap} {L C : Addr} {m m₂ : Str → Option Value} (F : Fr h₀ L h m) (S : Stp L h h') (hC : h.objs.size ≤ C) (hn : h'.Ns C m₂) : Fr h₀ C h' m₂ :=
  ⟨hn, (Fr.stp F S).keep, Nat.le_trans F.above (Nat.le_trans (Nat.le_of_lt F.ns.lt) hC)⟩
theorem News.comp {h₀ h h' : Heap} {L C : Addr} {news : List (Addr × Obj)} (N : News h₀ L h news) (S : Stp L h h') (hC : h.objs.size ≤ C) : News h₀ C h' news :=
  fun p hp => ⟨S.keep _ _ (N p hp).2.1 (N p hp).1, fun e => by have := Heap.lt_size (N p hp).1; rw [e] at this; exact absurd this (Nat.not_lt.mpr hC), (N p hp).2.2⟩
theorem Stp.same {L C : Addr} {h h5 h6 : Heap} (S : Stp L h h5) (hC : h.get? C = none) (hCL : C ≠ L) (hs : Heap.SameBut C h5 h6) : Stp L h h6 :=
  ⟨fun b o hb e => hs.extBut b o (fun q => by rw [q, hC] at e; cases e) (S.keep b o hb e), fun o e => by
    obtain ⟨sl, e1⟩ := S.slot o e
    exact ⟨sl, hs.extBut _ _ (Ne.symm hCL) e1⟩⟩
theorem done_none {M : Model} {A : Around} {E : Value → Shared → Prop} {Q : Value → Shared → Prop} {L : Addr} {K : Nat → List Value → List (Addr × Obj) → Prop} {s₁ : Shared} {n : Nat}
    (h : ∀ D h' tk ys k led, s₁.heap.objs.size ≤ D → s₁.heap.get? D = none → D ≠ L → h'.get? D = some (listOf ys.toArray k) → Stp L s₁.heap h' → LedIn s₁.heap h' led → (∀ p ∈ led, p.1 ≠ D) → K n ys led → Q (.ref D) { s₁ with heap := h', toks := tk }) :
    DoneOk L K s₁ n (compPost M A E none Q) := by
  intro D C h5 tk5 m5 ys k led hDs hD hC hDC hDL hCL hn5 hDo S5 l1 l2 hK
  refine ⟨m5, hn5, fun h6 hs6 => ?_⟩
  exact h D h6 tk5 ys k led hDs hD hDL (hs6.extBut _ _ hDC hDo) (S5.same hC hCL hs6) (fun p hp => ⟨hs6.extBut _ _ (l2 p hp).1 (l1 p hp).1, (l1 p hp).2⟩) (fun p hp => (l2 p hp).2) hK
theorem newsAddS {h₀ h h' : Heap} {L a : Addr} {m : Str → Option Value} {o : Obj} {news : List (Addr × Obj)} (F : Fr h₀ L h m) (N : News h₀ L h news) (S : Stp L h h') (fr : h.get? a = none) (ha : h'.get? a = some o) : News h₀ L h' ((a, o) :: news) := by
  refine List.forall_mem_cons.mpr ⟨⟨ha, ?_, ?_⟩, News.stp N S⟩
  · rintro rfl
    obtain ⟨oL, _, _, hL, _⟩ := F.ns
    rw [fr] at hL; cases hL
  · show h₀.get? a = none
    cases q : h₀.get? a with
    | none => rfl
    | some o => rw [F.keep _ _ q] at fr; cases fr
theorem newsLed {h₀ h h' : Heap} {L : Addr} {m : Str → Option Value} {led news : List (Addr × Obj)} (F : Fr h₀ L h m) (N : News h₀ L h news) (S : Stp L h h') (l : LedIn h h' led) : News h₀ L h' (led ++ news) := by
  intro p hp
  rcases List.mem_append.mp hp with hp | hp
  · exact newsAddS F News.nil S (l p hp).2 (l p hp).1 p (.head _)
  · exact News.stp N S p hp
theorem newsBelow {h₀ h : Heap} {L D : Addr} {news : List (Addr × Obj)} (N : News h₀ L h news) (hD : h.objs.size ≤ D) : ∀ p ∈ news, p.1 < D :=
  fun p hp => Nat.lt_of_lt_of_le (Heap.lt_size (N p hp).1) hD
end Mine
end

/-! Plain -/
section
open PySem PySem.W
namespace Mine
def go : Nat → List Nat → Option (Nat × List Nat)
  | _, [] => none
  | acc, b :: r => if b / 64 % 2 = 1 then go (acc * 64 + b % 64) r else some (acc * 64 + b % 64, r)
theorem more_go' : ∀ (r : List Nat) (b acc : Nat), more b (acc * 64 + b % 64) r = go acc (b :: r)
  | [], b, acc => by simp [more, go]
  | c :: r, b, acc => by
    rw [more, go, more_go' r c (acc * 64 + b % 64)]
theorem varint_go (l : List Nat) : varint l = go 0 l := by
  cases l with
  | nil => rfl
  | cons b r =>
    have := more_go' r b 0
    simpa [varint] using this
theorem go_hi {hi : Nat} (h : hi = 0 ∨ hi = 128) (m : Nat) : ∀ r, go 0 ((hiDigs m).map (· + hi) ++ r) = go m r := by
  induction m using Nat.strongRecOn with
  | _ m ih =>
    intro r
    by_cases hm : m = 0
    · subst hm; rw [hiDigs_zero]; rfl
    · rw [hiDigs_pos hm, List.map_append, List.append_assoc, ih (m / 64) (by omega)]
      simp only [List.map_cons, List.map_nil, List.cons_append, List.nil_append]
      rw [go, if_pos (by rcases h with rfl | rfl <;> omega)]
      congr 1
      rcases h with rfl | rfl <;> omega
theorem varint_octs {hi : Nat} (h : hi = 0 ∨ hi = 128) (n : Nat) (r : List Nat) : varint (octs hi n ++ r) = some (n, r) := by
  rw [varint_go, octs, digs, List.map_append, List.append_assoc, go_hi h]
  simp only [List.map_cons, List.map_nil, List.cons_append, List.nil_append]
  rw [go, if_neg (by rcases h with rfl | rfl <;> omega)]
  congr 2
  rcases h with rfl | rfl <;> omega
theorem go_none : ∀ (l : List Nat) (acc : Nat), (∀ b ∈ l, b / 64 % 2 = 1) → go acc l = none
  | [], _, _ => rfl
  | b :: r, acc, h => by rw [go, if_pos (h b (.head _))]; exact go_none r _ fun c hc => h c (.tail _ hc)
theorem hi_bits {hi : Nat} (h : hi = 0 ∨ hi = 128) (m : Nat) : ∀ b ∈ (hiDigs m).map (· + hi), b / 64 % 2 = 1 := by
  induction m using Nat.strongRecOn with
  | _ m ih =>
    by_cases hm : m = 0
    · subst hm; rw [hiDigs_zero]; intro b hb; cases hb
    · rw [hiDigs_pos hm, List.map_append]
      intro b hb
      rcases List.mem_append.mp hb with hb | hb
      · exact ih (m / 64) (by omega) b hb
      · simp only [List.map_cons, List.map_nil, List.mem_singleton] at hb
        subst hb
        rcases h with rfl | rfl <;> omega
theorem octs_pos (hi n : Nat) : 0 < (octs hi n).length := by simp [octs, digs]
theorem varint_cut {hi : Nat} (h : hi = 0 ∨ hi = 128) (n c : Nat) (hc : c < (octs hi n).length) : varint ((octs hi n).take c) = none := by
  rw [varint_go]
  refine go_none _ _ fun b hb => ?_
  have e : octs hi n = (hiDigs (n / 64)).map (· + hi) ++ [n % 64 + hi] := by simp [octs, digs]
  rw [e] at hb hc
  rw [List.take_append_of_le_length (by simp at hc ⊢; omega)] at hb
  exact hi_bits h _ b (List.mem_of_mem_take hb)
theorem signs_octs {hi : Nat} (h : hi = 0 ∨ hi = 128) : ∀ (cs r : List Nat), (∀ c ∈ cs, c < 4096) → signs cs.length (cs.flatMap (octs hi) ++ r) = some (some (cs, r))
  | [], r, _ => rfl
  | c :: cs, r, hc => by
    rw [List.flatMap_cons, List.append_assoc, List.length_cons, signs_step (varint_octs h c _), if_pos (hc c (.head _)), signs_octs h cs r fun d hd => hc d (.tail _ hd)]
    rfl
theorem signs_cut {hi : Nat} (h : hi = 0 ∨ hi = 128) : ∀ (cs : List Nat) (c : Nat), (∀ d ∈ cs, d < 4096) → c < (cs.flatMap (octs hi)).length → signs cs.length ((cs.flatMap (octs hi)).take c) = some none
  | [], c, _, hc => by simp at hc
  | d :: cs, c, hd, hc => by
    rw [List.flatMap_cons] at hc ⊢
    rw [List.length_cons]
    by_cases h1 : c < (octs hi d).length
    · rw [List.take_append_of_le_length (by omega)]
      exact signs_stop (varint_cut h d c h1)
    · obtain ⟨e, rfl⟩ : ∃ e, c = (octs hi d).length + e := ⟨c - (octs hi d).length, by omega⟩
      rw [List.take_length_add_append, signs_step (varint_octs h d _), if_pos (hd d (.head _)), signs_cut h cs e (fun x hx => hd x (.tail _ hx)) (by rw [List.length_append] at hc; omega)]
      rfl
def enc (hi : Nat) : Item → List Nat
  | .port p => octs hi (2 * p + 1)
  | .name cs => octs hi (2 * cs.length) ++ cs.flatMap (octs hi)
def ItemOk : Item → Prop
  | .port p => p < 65536
  | .name cs => cs.length ≤ 3 ∧ ∀ c ∈ cs, c < 4096
def hiOf (k : Nat) : Nat := 128 * (k % 2)
theorem hiOf_or (k : Nat) : hiOf k = 0 ∨ hiOf k = 128 := by unfold hiOf; omega
def encFrom : Nat → List Item → List Nat
  | _, [] => []
  | k, it :: r => enc (hiOf k) it ++ encFrom (k + 1) r
def tellFrom : Nat → Nat → List Item → List Item
  | _, _, [] => []
  | k, c, it :: r => if (enc (hiOf k) it).length ≤ c then it :: tellFrom (k + 1) (c - (enc (hiOf k) it).length) r else []
theorem enc_pos (hi : Nat) (it : Item) : 0 < (enc hi it).length := by
  cases it with
  | port p => exact octs_pos _ _
  | name cs => simp only [enc, List.length_append]; have := octs_pos hi (2 * cs.length); omega
theorem heard_all {hi : Nat} (h : hi = 0 ∨ hi = 128) (f : Nat) (it : Item) (ok : ItemOk it) (r : List Nat) : heard (f + 1) (enc hi it ++ r) = (heard f r).map (it :: ·) := by
  cases it with
  | port p =>
    have hp : p < 65536 := ok
    rw [heard, enc, varint_octs h]
    dsimp only
    rw [if_pos (by omega), if_pos (by omega), show (2 * p + 1) / 2 = p by omega]
  | name cs =>
    rw [heard, enc, List.append_assoc, varint_octs h]
    dsimp only
    rw [if_neg (by omega), show 2 * cs.length / 2 = cs.length by omega, if_pos ok.1, signs_octs h cs r ok.2]
theorem heard_cut1 {hi : Nat} (h : hi = 0 ∨ hi = 128) (f : Nat) (it : Item) (ok : ItemOk it) (c : Nat) (hc : c < (enc hi it).length) : heard (f + 1) ((enc hi it).take c) = some [] := by
  cases it with
  | port p =>
    rw [heard, enc, varint_cut h _ _ hc]
  | name cs =>
    rw [enc] at hc ⊢
    by_cases h1 : c < (octs hi (2 * cs.length)).length
    · rw [List.take_append_of_le_length (by omega), heard, varint_cut h _ _ h1]
    · obtain ⟨e, rfl⟩ : ∃ e, c = (octs hi (2 * cs.length)).length + e := ⟨c - (octs hi (2 * cs.length)).length, by omega⟩
      rw [List.take_length_add_append, heard, varint_octs h]
      dsimp only
      rw [if_neg (by omega), show 2 * cs.length / 2 = cs.length by omega, if_pos ok.1, signs_cut h cs e ok.2 (by rw [List.length_append] at hc; omega)]
theorem heard_cut : ∀ (items : List Item) (k c f : Nat), (∀ it ∈ items, ItemOk it) → ((encFrom k items).take c).length < f → heard f ((encFrom k items).take c) = some (tellFrom k c items)
  | [], k, c, 0, _, hf => by omega
  | [], k, c, f + 1, _, _ => by simp [encFrom, tellFrom, heard, varint]
  | it :: r, k, c, 0, _, hf => by omega
  | it :: r, k, c, f + 1, ok, hf => by
    rw [encFrom, tellFrom] at *
    by_cases h1 : (enc (hiOf k) it).length ≤ c
    · obtain ⟨e, rfl⟩ : ∃ e, c = (enc (hiOf k) it).length + e := ⟨c - (enc (hiOf k) it).length, by omega⟩
      rw [List.take_length_add_append] at hf ⊢
      rw [if_pos h1, heard_all (hiOf_or k) f it (ok it (.head _)), show (enc (hiOf k) it).length + e - (enc (hiOf k) it).length = e by omega]
      rw [List.length_append] at hf
      have := enc_pos (hiOf k) it
      rw [heard_cut r (k + 1) e f (fun x hx => ok x (.tail _ hx)) (by omega)]
      rfl
    · rw [if_neg h1, List.take_append_of_le_length (by omega)]
      exact heard_cut1 (hiOf_or k) f it (ok it (.head _)) c (by omega)
end Mine
end

/-! Lens -/
section
open PySem PySem.W
namespace Mine
theorem hiDigs_len1 {n : Nat} (h : n < 64) : (hiDigs n).length ≤ 1 := by
  by_cases h0 : n = 0
  · subst h0; rw [hiDigs_zero]; simp
  · rw [hiDigs_pos h0, show n / 64 = 0 by omega, hiDigs_zero]; simp
theorem hiDigs_len2 {n : Nat} (h : n < 4096) : (hiDigs n).length ≤ 2 := by
  by_cases h0 : n = 0
  · subst h0; rw [hiDigs_zero]; simp
  · rw [hiDigs_pos h0, List.length_append]
    have := hiDigs_len1 (n := n / 64) (by omega)
    show _ + 1 ≤ 2
    omega
theorem octs_len3 {hi n : Nat} (h : n < 262144) : (octs hi n).length ≤ 3 := by
  have := hiDigs_len2 (n := n / 64) (by omega)
  simp only [octs, digs, List.length_map, List.length_append, List.length_cons, List.length_nil]; omega
theorem octs_len2 {hi n : Nat} (h : n < 4096) : (octs hi n).length ≤ 2 := by
  have := hiDigs_len1 (n := n / 64) (by omega)
  simp only [octs, digs, List.length_map, List.length_append, List.length_cons, List.length_nil]; omega
theorem octs_len1 {hi n : Nat} (h : n < 64) : (octs hi n).length ≤ 1 := by
  rw [octs, digs, show n / 64 = 0 by omega, hiDigs_zero]; simp
theorem flat_len2 (hi : Nat) : ∀ l : List Nat, (∀ c ∈ l, c < 4096) → (l.flatMap (octs hi)).length ≤ 2 * l.length
  | [], _ => Nat.le_refl _
  | c :: r, h => by
    have h1 := flat_len2 hi r fun d hd => h d (.tail _ hd)
    have h2 := octs_len2 (hi := hi) (h c (.head _))
    simp only [List.flatMap_cons, List.length_append, List.length_cons]
    omega
theorem enc_len7 (hi : Nat) (it : Item) (ok : ItemOk it) : (enc hi it).length ≤ 7 := by
  cases it with
  | port p => have h : p < 65536 := ok; have := octs_len3 (hi := hi) (n := 2 * p + 1) (by omega); rw [enc]; omega
  | name cs =>
    have h1 := flat_len2 hi cs ok.2
    have h2 := ok.1
    have h3 := octs_len1 (hi := hi) (n := 2 * cs.length) (by omega)
    rw [enc, List.length_append]; omega
theorem encFrom_len : ∀ (its : List Item) (k : Nat), (∀ it ∈ its, ItemOk it) → (encFrom k its).length ≤ 7 * its.length
  | [], _, _ => Nat.le_refl _
  | it :: r, k, h => by
    have h1 := encFrom_len r (k + 1) fun x hx => h x (.tail _ hx)
    have h2 := enc_len7 (hiOf k) it (h it (.head _))
    rw [encFrom, List.length_append, List.length_cons]; omega
end Mine
end

/-! TItem -/
section
open PySem PySem.W PySem.Calls PyProof.Rows PySem.Spec PySem.AutoIntOps
set_option maxRecDepth 100000
set_option maxHeartbeats 8000000
namespace Mine
local macro_rules | `(tactic| k_steps) => `(tactic| repeat' ((fail_if_success (with_reducible show wpAny _ _ (exec (Stmt.While _ _ _ _) _) _ _ _)); (fail_if_success (with_reducible show wpAny _ _ (call (Value.ref _) _) _ _ _)); (fail_if_success (with_reducible show wpAny _ _ (eval (Expr.ListComp _ _ _ _) _) _ _ _)); (fail_if_success (with_reducible show wpAny _ _ (pyIter _) _ _ _)); (fail_if_success ((with_reducible show (ite _ _ _)); (fail_if_success k_closed))); first | (k_unfold; (try dsimp only)) | (k_end; wrow_close) | walk1 | (dsimp only; walk1) | (leave1; walk_say "STEP leave1"; try dsimp only) | fail "no step"))
theorem nm_local {M : Model} {A : Around} {E : Value → Shared → Prop} {s : Shared} {env : Env} {m : Str → Option Value} {x : Str} {pos : Pos} {v : Value} {Q : Value → Shared → Prop} (hn : s.heap.Ns env.locals m) (hv : m x = some v) (h : Q v s)
    (hk : env.scope.kind = .function) (hx : env.kindOf x = some .local) (hd : (x == ("__debug__" : Str)) = false) : wpAny M A (eval (.Name x pos) env) Q E s := wpAny_Name (wpAny_loadName_local hk hx hn hv h) hd
theorem pow5 {prog : Program} {w : World} {A : Around} {E : Value → Shared → Prop} {s : Shared} {t u : Tok} {Q : Value → Shared → Prop} (i : Nat) (hi : i < 3)
    (h : ∀ d t' k, (d = 1 ∨ d = 5 ∨ d = 25) → Q (.int d t') { s with toks := k }) : wpAny (model prog w) A (binaryOp .Pow (.int 5 t) (.int (i : Nat) u)) Q E s := by
  have h3 : i = 0 ∨ i = 1 ∨ i = 2 := by omega
  rcases h3 with rfl | rfl | rfl
  · exact pow_0 (by decide) (by decide) (h 1 _ _ (.inl rfl))
  · exact pow_4 (by decide) (by decide) (by decide) (by decide) (by decide +kernel) (h 5 _ _ (.inr (.inl rfl)))
  · exact pow_4 (by decide) (by decide) (by decide) (by decide) (by decide +kernel) (h 25 _ _ (.inr (.inr rfl)))
theorem at_list {prog : Program} {w : World} {A : Around} {E : Value → Shared → Prop} {s : Shared} {value slice : PySem.Expr} {l : Addr} {vs : List Value} {k : Int} {u : Tok} {v : Value} {Q : Value → Shared → Prop}
    (hl : s.heap.IsList l vs.toArray) (h0 : 0 ≤ k) (hhi : k < 2 ^ 63) (hx : vs[k.toNat]? = some v) (h : Q v s)
    (hs : subscripted slice false (.ref l) (.int k u) = operate [.ref l, .int k u] (getItem (.ref l) (.int k u)) := by with_unfolding_all rfl) :
    wpAny (model prog w) A (subscriptTail value slice (.ref l) (.int k u)) Q E s :=
  tail_any hl.typeIs slot_list_getitem.lookup (wpAny_getItem_list hl h0 hhi (by simpa using hx) h) hs
theorem pick5 {t0 t1 t2 t3 t4 : Tok} (q : Nat) (hq : q < 4096) (k : Int) (h0 : 0 ≤ k) (h5 : k < 5) :
    ∃ ch tc, [Value.str (Str.ofString "\"") t0, .str (Str.ofString "a") t1, .str (Str.ofString "/") t2, .str (Str.ofString " ") t3, .str ⟨#[q]⟩ t4][k.toNat]? = some (.str ⟨#[ch]⟩ tc) ∧ ch < 4096 := by
  have hk : k = 0 ∨ k = 1 ∨ k = 2 ∨ k = 3 ∨ k = 4 := by omega
  rcases hk with rfl | rfl | rfl | rfl | rfl
  · exact ⟨34, t0, by rw [show Str.ofString "\"" = Str.mk #[34] from by decide +kernel]; rfl, by decide⟩
  · exact ⟨97, t1, by rw [show Str.ofString "a" = Str.mk #[97] from by decide +kernel]; rfl, by decide⟩
  · exact ⟨47, t2, by rw [show Str.ofString "/" = Str.mk #[47] from by decide +kernel]; rfl, by decide⟩
  · exact ⟨32, t3, by rw [show Str.ofString " " = Str.mk #[32] from by decide +kernel]; rfl, by decide⟩
  · exact ⟨q, t4, rfl, hq⟩
theorem join_one : ∀ cs : List Nat, Str.join (Str.mk #[]) (cs.map fun c => Str.mk #[c]) = Str.mk cs.toArray
  | [] => rfl
  | [c] => rfl
  | c :: d :: r => by
    have ih := join_one (d :: r)
    simp only [List.map_cons] at ih ⊢
    rw [Str.join, ih]
    · refine Str.ext' (Array.toList_inj.mp ?_)
      simp [Str.cps_append]
    · simp
theorem join_signs (cs : List Nat) : Txt.join (Str.ofString "") (cs.map fun c => Str.mk #[c]) = Str.mk cs.toArray := by
  rw [show Str.ofString "" = Str.mk #[] from by decide +kernel]
  unfold Txt.join
  rw [StrLaws.glued_eq_join, join_one]
def VIs (v : Value) : Item → Prop
  | .port p => ∃ t, v = .int ((p : Nat) : Int) t
  | .name cs => ∃ t, v = .str ⟨cs.toArray⟩ t
theorem c_item {w : World} {dp un : Nat} {fr : Option (List Env)} {gd : Option (List Code)} {s : Shared} {Q E : Value → Shared → Prop} {mean : ExcName → Option Value} {mg mb : Str → Option Value} (x : Int) (t1 : Tok)
   (X : (hd.heap_39 w.params).In s.heap) (T : Top hd.view_39 (looseW hd.view_39 []) mean mg mb s.heap) (hdep : dp + 10 < recursionLimit) (hu : un + 60 < cLine)
   (h : ∀ h' tk' v it, ItemOk it → VIs v it → s.heap.StaysIn h' → Q v { s with heap := h', toks := tk'}) :
   wpAny (model PySem.Challenge.rw_ny0030_01.row.prog w) ⟨none, dp, fr, gd, un⟩ (call (.ref 77) [.int x t1]) Q E s := by
  refine' enterC (binds := [(Str.ofString "x", .int x t1)]) X T ?k6 ?k7 ?k8 ?k9 ?kB ?kD ?_ ?c2 ?c3 ?c4
  case k6 => k_is
  case k7 => k_is
  case k8 => exact Nat.lt_of_le_of_lt (Nat.le_add_right _ _) hdep
  case k9 => exact BindsTo.of_eq rfl
  case kB => exact rfl
  case kD => decide +kernel
  case c2 => exact rfl
  case c3 => exact rfl
  case c4 => exact rfl
  intro L' h' tk' cells' F' N' Y'
  k_cells Y'
  (try simp only [List.cons_append, List.nil_append] at N')
  (try dsimp only)
  w_on
  k_steps
  by_cases hodd : (x.fmod 2 == 1) = true
  · refine ite_pos hodd ?_
    k_steps
    dsimp only
    rename Fr _ _ _ _ => F2
    have e : (x.fdiv 2).fmod 65536 = (((x.fdiv 2).fmod 65536).toNat : Int) := by
      rw [Int.fmod_eq_emod_of_nonneg _ (by decide)]
      have := Int.emod_nonneg (x.fdiv 2) (show (65536 : Int) ≠ 0 by decide)
      omega
    rw [e]
    refine h _ _ _ (.port ((x.fdiv 2).fmod 65536).toNat) ?_ ⟨_, rfl⟩ F2.keep
    show ((x.fdiv 2).fmod 65536).toNat < 65536
    rw [Int.fmod_eq_emod_of_nonneg _ (by decide)]
    have := Int.emod_lt_of_pos (x.fdiv 2) (show (0 : Int) < 65536 by decide)
    omega
  · refine ite_neg hodd ?_
    k_steps
    rw [eval_ListComp]
    refine wpAny_comprehension_free rfl (fun _ => rfl) rfl rfl (by decide) ?_
    dsimp only [firstIter]
    k_steps
    rename Fr _ _ _ _ => F2
    rename News _ _ _ _ => N2
    rename IsRange _ _ _ _ _ _ _ _ => R2
    have hn0 : 0 ≤ (x.fdiv 2).fmod 4 := by
      rw [Int.fmod_eq_emod_of_nonneg _ (by decide)]; exact Int.emod_nonneg _ (by decide)
    have hn4 : (x.fdiv 2).fmod 4 < 4 := by
      rw [Int.fmod_eq_emod_of_nonneg _ (by decide)]; exact Int.emod_lt_of_pos _ (by decide)
    refine comp_range (n := ((x.fdiv 2).fmod 4).toNat) (L := L') (fun i ys _ => ∃ cs : List Nat, cs.length = i ∧ (∀ c ∈ cs, c < 4096) ∧ StrsAre ys (cs.map fun c => Str.mk #[c])) rfl R2 (by omega) (by omega) (by decide) rfl rfl ?_ ⟨[], rfl, (fun _ h => nomatch h), .nil⟩ ?_ ?_
    · obtain ⟨o, _, _, ho, _⟩ := F2.ns; exact ⟨o, ho⟩
    · intro i tv hi C ys h4 tk4 m4 hC hCL S4 hled hn hm
      have F4 := Fr.comp F2 S4 hC hn
      have N4 := News.comp N2 S4 hC
      refine wpAny_tests_nil ?_
      rw [if_pos rfl]
      clear F2 N2
      iterate 10 (first | walk1 | (dsimp only; walk1))
      refine nm_local hn hm ?_ rfl rfl (by decide)
      dsimp only
      refine pow5 i (by omega) ?_
      intro d td kd hd
      dsimp only
      have hd0 : d ≠ 0 := by rcases hd with e | e | e <;> subst e <;> decide
      iterate 3 (first | walk1 | (dsimp only; walk1))
      have e0 : 0 ≤ ((x.fdiv 8).fdiv d).fmod 5 := by rw [Int.fmod_eq_emod_of_nonneg _ (by decide)]; exact Int.emod_nonneg _ (by decide)
      have e5 : ((x.fdiv 8).fdiv d).fmod 5 < 5 := by rw [Int.fmod_eq_emod_of_nonneg _ (by decide)]; exact Int.emod_lt_of_pos _ (by decide)
      have q0 : 0 ≤ (x.fdiv 1000).fmod 4096 := by rw [Int.fmod_eq_emod_of_nonneg _ (by decide)]; exact Int.emod_nonneg _ (by decide)
      have q5 : (x.fdiv 1000).fmod 4096 < 4096 := by rw [Int.fmod_eq_emod_of_nonneg _ (by decide)]; exact Int.emod_lt_of_pos _ (by decide)
      obtain ⟨ch, tc, hch, hlt⟩ := pick5 ((x.fdiv 1000).fmod 4096).toNat (by omega) (((x.fdiv 8).fdiv d).fmod 5) e0 e5
      refine at_list (vs := [_, _, _, _, _]) ⟨_, (N4 _ (.head _)).1, rfl, _, rfl⟩ e0 (by omega) hch ?_
      refine ⟨h4, _, [], rfl, Stp.refl _ _, (fun _ h => nomatch h), ?_⟩
      rintro led ⟨cs, hc1, hc2, hc3⟩
      refine ⟨cs ++ [ch], by simp [hc1], ?_, ?_⟩
      · intro c hc
        rcases List.mem_append.mp hc with hc | hc
        · exact hc2 c hc
        · rw [List.mem_singleton.mp hc]; exact hlt
      · rw [List.map_append]
        exact hc3.append' (.cons _ _ .nil)
    · refine done_none ?_
      intro D h5 tk5 ys k led hDs hD hDL hDo S5 l1 l2 hK
      obtain ⟨cs, hc1, hc2, hc3⟩ := hK
      have F5 := Fr.stp F2 S5
      have N5 := newsAddS F2 N2 S5 hD hDo
      have hcs3 : cs.length ≤ 3 := by omega
      clear F2 N2
      dsimp only
      iterate 1 (first | walk1 | (dsimp only; walk1))
      refine join_list ⟨_, (N5 _ (.head _)).1, rfl, _, rfl⟩ (by simpa using hc3) ?_ ?_
      · have e1 : ((cs.map fun c => Str.mk #[c]).map (·.length)).sum = cs.length := by
          rw [List.map_map]
          clear hc1 hc2 hc3 hcs3
          induction cs with
          | nil => rfl
          | cons c r ih => simp only [List.map_cons, List.sum_cons, ih, List.length_cons]; show 1 + r.length = _; omega
        have e2 : (Str.ofString "").length = 0 := by decide +kernel
        rw [e1, e2, List.length_map]; omega
      · intro t6 k6
        rw [join_signs]
        exact h _ _ _ (.name cs) ⟨hcs3, hc2⟩ ⟨_, rfl⟩ F5.keep
end Mine
end

/-! Rows -/
section
open PySem PySem.W PySem.Calls PyProof.Rows PySem.Spec
namespace Mine
def Item.plain : Item → Dat
  | .port p => .int ((p : Nat) : Int)
  | .name cs => .str ⟨cs.toArray⟩
theorem vis_in {v : Value} {it : Item} (h : VIs v it) (led : List (Addr × Obj)) : DatIn led v it.plain := by
  cases it with
  | port p => obtain ⟨t, rfl⟩ := h; exact .int _ _
  | name cs => obtain ⟨t, rfl⟩ := h; exact .str _ _
theorem vis_of {v : Value} {it : Item} {led : List (Addr × Obj)} (h : DatIn led v it.plain) : VIs v it := by
  cases it with
  | port p => cases h; exact ⟨_, rfl⟩
  | name cs => cases h; exact ⟨_, rfl⟩
def fixedItems : List Item := [.name [97, 34], .port 4660, .name [], .name [34], .port 65535]
theorem fixed_ok : ∀ it ∈ fixedItems, ItemOk it := by
  intro it h
  simp only [fixedItems, List.mem_cons, List.not_mem_nil, or_false] at h
  rcases h with rfl | rfl | rfl | rfl | rfl <;> simp [ItemOk]
theorem fixed_dat {t1 t2 t3 t4 t5 : Tok} : DatAll [] [Value.str (Str.ofString "a\"") t1, .int 4660 t2, .str (Str.ofString "") t3, .str (Str.ofString "\"") t4, .int 65535 t5] (fixedItems.map Item.plain) := by
  rw [show Str.ofString "a\"" = Str.mk [97, 34].toArray from by decide +kernel, show Str.ofString "" = Str.mk ([] : List Nat).toArray from by decide +kernel, show Str.ofString "\"" = Str.mk [34].toArray from by decide +kernel]
  exact .cons (.str _ _) (.cons (.int _ _) (.cons (.str _ _) (.cons (.str _ _) (.cons (.int _ _) .nil))))
def intsDat (l : List Nat) : Dat := .list (l.map fun n => Dat.int ((n : Nat) : Int))
theorem ints_dat (led : List (Addr × Obj)) : ∀ {vs : List Value} {l : List Nat}, IntsAre vs (l.map fun n : Nat => (n : Int)) → DatAll led vs (l.map fun n => Dat.int ((n : Nat) : Int))
  | _, [], h => by cases h; exact .nil
  | _, n :: r, h => by
    cases h with
    | cons _ t h => exact .cons (.int _ t) (ints_dat led h)
theorem dat_ints {led : List (Addr × Obj)} : ∀ {vs : List Value} {l : List Nat}, DatAll led vs (l.map fun n => Dat.int ((n : Nat) : Int)) → IntsAre vs (l.map fun n : Nat => (n : Int))
  | _, [], h => by cases h; exact .nil
  | _, n :: r, h => by
    cases h with
    | cons h1 h2 => cases h1; exact .cons _ _ (dat_ints h2)
theorem list_in {led : List (Addr × Obj)} {a : Addr} {vs : List Value} {n : Nat} {l : List Nat} (hm : (a, listOf vs.toArray n) ∈ led) (h : IntsAre vs (l.map fun n : Nat => (n : Int))) : DatIn led (.ref a) (intsDat l) :=
  .list hm (ints_dat led h)
/-- the rows of octets -/
def rowsFrom : Nat → List Item → List (List Nat)
  | _, [] => []
  | k, it :: r => enc (hiOf k) it :: rowsFrom (k + 1) r
theorem rows_len : ∀ (its : List Item) (k : Nat), (rowsFrom k its).length = its.length
  | [], _ => rfl
  | _ :: r, k => by simp [rowsFrom, rows_len r (k + 1)]
theorem rows_get : ∀ (its : List Item) (k i : Nat) (it : Item), its[i]? = some it → (rowsFrom k its)[i]? = some (enc (hiOf (k + i)) it)
  | [], _, i, it, h => by simp at h
  | x :: r, k, 0, it, h => by simp at h; subst h; rfl
  | x :: r, k, i + 1, it, h => by
    have := rows_get r (k + 1) i it (by simpa using h)
    simp only [rowsFrom, List.getElem?_cons_succ, this]
    rw [show k + 1 + i = k + (i + 1) by omega]
theorem rows_flat : ∀ (its : List Item) (k : Nat), (rowsFrom k its).flatten = encFrom k its
  | [], _ => rfl
  | x :: r, k => by simp [rowsFrom, encFrom, rows_flat r (k + 1)]
theorem frame_at {h₀ h : Heap} {L : Addr} {m : Str → Option Value} (F : Fr h₀ L h m) : ∃ o, h.get? L = some o := by
  obtain ⟨o, _, _, ho, _⟩ := F.ns; exact ⟨o, ho⟩
theorem len_vs {prog : Program} {w : World} {A : Around} {E : Value → Shared → Prop} {s : Shared} {l : Addr} {vs : List Value} {Q : Value → Shared → Prop} (hl : s.heap.IsList l vs.toArray) (hfit : vs.length ≤ 1000000)
    (h : Q (.int (vs.length : Nat) (s.toks + 1)) { s with toks := s.toks + 1 + 1 }) : wpAny (model prog w) A (call (.builtin "len") [.ref l]) Q E s := by
  have e : vs.toArray.size = vs.length := by simp
  refine len_list hl (by rw [e]; omega) ?_
  rw [e]; exact h
theorem hiOf_le (k : Nat) : hiOf k ≤ 128 := by unfold hiOf; omega
theorem hiOf_int (i : Nat) : 128 * (i : Int).fmod 2 = ((hiOf i : Nat) : Int) := by
  rw [Int.fmod_eq_emod_of_nonneg _ (by decide)]
  unfold hiOf
  simp
theorem c_kept {w : World} {dp un : Nat} {fr : Option (List Env)} {gd : Option (List Code)} {s : Shared} {Q E : Value → Shared → Prop} {mean : ExcName → Option Value} {mg mb : Str → Option Value} (it : Item) (v : Value) (k : Nat) (t2 : Tok) (hv : VIs v it) (ok : ItemOk it)
   (X : (hd.heap_39 w.params).In s.heap) (T : Top hd.view_39 (looseW hd.view_39 []) mean mg mb s.heap) (hdep : dp + 10 < recursionLimit) (hu : un + 60 < cLine)
   (h : ∀ h' tk' a vs n, s.heap.StaysIn h' → s.heap.get? a = none → h'.get? a = some (listOf vs.toArray n) → IntsAre vs ((enc (hiOf k) it).map fun n : Nat => (n : Int)) → Q (.ref a) { s with heap := h', toks := tk'}) :
   wpAny (model PySem.Challenge.rw_ny0030_01.row.prog w) ⟨none, dp, fr, gd, un⟩ (call (.ref 91) [v, .int (128 * (k : Int).fmod 2) t2]) Q E s := by
  rw [hiOf_int]
  cases it with
  | port p =>
    obtain ⟨t, rfl⟩ := hv
    exact c_keptP p (hiOf k) t t2 ok (hiOf_le k) X T hdep hu h
  | name cs =>
    obtain ⟨t, rfl⟩ := hv
    exact c_keptN cs (hiOf k) t t2 ok.1 ok.2 (hiOf_le k) X T hdep hu h
theorem ledNe {h₀ h h' : Heap} {L : Addr} {led news : List (Addr × Obj)} (N : News h₀ L h news) (l : LedIn h h' led) : ∀ q ∈ news, ∀ p ∈ led, p.1 ≠ q.1 := fun q hq p hp e => by
  have := (l p hp).2
  rw [e, (N q hq).1] at this; cases this
theorem newsTail {h₀ h h' : Heap} {L a : Addr} {m : Str → Option Value} {o : Obj} {led news : List (Addr × Obj)} (F : Fr h₀ L h m) (N : News h₀ L h news) (S : Stp L h h') (fr : h.get? a = none) (ha : h'.get? a = some o) (l : LedIn h h' led) : News h₀ L h' ((a, o) :: (news ++ led)) := by
  refine List.forall_mem_cons.mpr ⟨newsAddS F N S fr ha _ (.head _), fun p hp => ?_⟩
  rcases List.mem_append.mp hp with hp | hp
  · exact News.stp N S p hp
  · exact newsLed F News.nil S l p (List.mem_append_left _ hp)
theorem rows_vals {led : List (Addr × Obj)} {h : Heap} (N : ∀ p ∈ led, h.get? p.1 = some p.2) : ∀ {zs : List Value} {rows : List (List Nat)}, DatAll led zs (rows.map intsDat) →
    ∃ rv : List (List Value), zs.length = rv.length ∧ (∀ (i : Nat) (v : Value), zs[i]? = some v → ∃ (r : Addr) (vs : List Value), v = .ref r ∧ rv[i]? = some vs ∧ h.IsList r vs.toArray) ∧ IntsAre rv.flatten (rows.flatten.map fun n : Nat => (n : Int))
  | _, [], hd => by cases hd; exact ⟨[], rfl, fun i v hv => by simp at hv, .nil⟩
  | _, row :: rows, hd => by
    cases hd with
    | cons h1 h2 =>
      obtain ⟨rv, e1, e2, e3⟩ := rows_vals N h2
      cases h1 with
      | list hm hall =>
        rename_i a vs n
        refine ⟨vs :: rv, by simp [e1], ?_, ?_⟩
        · intro i v hv
          cases i with
          | zero =>
            simp at hv
            exact ⟨a, vs, hv.symm, rfl, ⟨_, N _ hm, rfl, _, rfl⟩⟩
          | succ i => exact e2 i v (by simpa using hv)
        · rw [List.flatten_cons, List.flatten_cons, List.map_append]
          exact (dat_ints hall).append e3
theorem sum_vs {prog : Program} {w : World} {A : Around} {E : Value → Shared → Prop} {s : Shared} {l : Addr} {vs : List Value} {ns : List Int} {Q : Value → Shared → Prop} (hh : A.handled = none) (hl : s.heap.IsList l vs.toArray) (hi : IntsAre vs ns)
    (h : ∀ h' tk t', s.heap.StaysIn h' → Q (.int ns.sum t') { s with heap := h', toks := tk }) : wpAny (model prog w) A (call (.builtin "sum") [.ref l]) Q E s := by
  obtain ⟨xs, e⟩ := hi.allInts.items
  have hn := hi.numsOf
  rw [e] at hl
  have hn2 : numsOf (intItems xs).toList = ns := by rw [← e]; exact hn
  rw [nums_intItems] at hn2
  refine sum_intListG hh hl fun h' tk t' hk => ?_
  rw [preSum_eq, List.take_of_length_le (by simp), hn2]
  exact h h' tk t' hk
end Mine
end

/-! CompTwo -/
section
open PySem PySem.W PySem.Calls PyProof.Rows
set_option maxRecDepth 100000
namespace Mine
section
variable {prog : Program} {w : World} {A : Around} {R : Result → Shared → Prop} {s : Shared}

theorem turn_one (elt t0 i0 t1 i1 : Expr) (scope : Scope) (pos : Pos) (it acc : Value) (env : Env) :
    compTurn (.ListComp elt [⟨t0, i0, [], 0⟩, ⟨t1, i1, [], 0⟩] scope pos) 1 it acc env = (standAt i1.pos >>= fun _ => pyNext it >>= fun r => match r with
      | none => pure (.done .next)
      | some v => letOwnedTupleGo t1 it v >>= fun _ => assign t1 env v >>= fun _ =>
        (eval elt env >>= fun x => call (.builtin "list.append") [acc, x] >>= fun _ => pure ()) >>= fun _ =>
          again (.compLoop (.ListComp elt [⟨t0, i0, [], 0⟩, ⟨t1, i1, [], 0⟩] scope pos) 1 it acc env)) := by rfl
theorem turn_zero (elt t0 i0 t1 i1 : Expr) (scope : Scope) (pos : Pos) (it acc : Value) (env : Env) :
    compTurn (.ListComp elt [⟨t0, i0, [], 0⟩, ⟨t1, i1, [], 0⟩] scope pos) 0 it acc env = (standAt i0.pos >>= fun _ => pyNext it >>= fun r => match r with
      | none => pure (.done .next)
      | some v => letOwnedTupleGo t0 it v >>= fun _ => assign t0 env v >>= fun _ =>
        eval i1 env >>= fun x => standAt i1.pos >>= fun _ => foldedSetIterable i1 env x >>= fun x => holding [x] (pyIter x) >>= fun j =>
          runOwn (.compStart (.ListComp elt [⟨t0, i0, [], 0⟩, ⟨t1, i1, [], 0⟩] scope pos) 1 j acc env) env >>= fun _ =>
          again (.compLoop (.ListComp elt [⟨t0, i0, [], 0⟩, ⟨t1, i1, [], 0⟩] scope pos) 0 it acc env)) := by rfl

/-- the inner loop: each item of the row goes onto the list -/
theorem inner_loop {t0 i0 i1 : Expr} {x : Str} {px py : Pos} {scope : Scope} {pos : Pos} {I D : Addr} {fp : List Addr} {vs ys₀ : List Value} {k₀ : Nat} {St : Nat → Heap → Prop} {cenv : Env} {m : Str → Option Value}
    (W : Walks prog w A I (I :: fp) [I] vs.length (fun i v => vs[i]? = some v) St) (hsz : ys₀.length + vs.length ≤ sizeLine)
    (hx : cenv.kindOf x = some .local) (hdb : (x == ("__debug__" : Str)) = false) (hk : cenv.scope.kind = .function)
    (hDC : D ≠ cenv.locals) (hDI : D ≠ I) (hCI : cenv.locals ≠ I) (hDf : D ∉ fp) (hCf : cenv.locals ∉ fp)
    (hst : St 0 s.heap) (hacc : s.heap.get? D = some (listOf ys₀.toArray k₀)) (hn : s.heap.Ns cenv.locals m)
    (done : ∀ h' tk k m', h'.Ns cenv.locals m' → h'.get? D = some (listOf (ys₀ ++ vs).toArray k) → (∀ b o, b ≠ cenv.locals → b ≠ I → b ≠ D → s.heap.get? b = some o → h'.get? b = some o) → R (.ok .next) { s with heap := h', toks := tk }) :
    codeAny (model prog w) A (.compLoop (.ListComp (.Name x py) [⟨t0, i0, [], 0⟩, ⟨.Name x px, i1, [], 0⟩] scope pos) 1 (.ref I) (.ref D) cenv) R s := by
  have hp : (cenv.scope.kind == .class || (cenv.scope.kind == .module && cenv.locals != cenv.globals)) = false := by rw [hk]; rfl
  refine codeAny_loop rfl (fun q s' => ∃ i h' tk m' k, s' = { s with heap := h', toks := tk } ∧ i ≤ vs.length ∧ q = vs.length + 1 - i ∧ St i h' ∧ h'.get? D = some (listOf (ys₀ ++ vs.take i).toArray k) ∧ h'.Ns cenv.locals m' ∧
    (∀ b o, b ≠ cenv.locals → b ≠ I → b ≠ D → s.heap.get? b = some o → h'.get? b = some o)) ?_ (vs.length + 1) ⟨0, s.heap, s.toks, m, k₀, rfl, Nat.zero_le _, rfl, hst, by simpa using hacc, hn, fun _ _ _ _ _ e => e⟩
  rintro q s' ⟨i, H, tk, m', k, rfl, hi, rfl, hst', hacc', hn', hkp⟩
  show wpAny _ _ ((compTurn _ 1 _ _ _).onRaise (fun x => do noteFrame x cenv; theTreesLotGoes x)) _ _ _
  refine wpAny_noted ?_
  rw [turn_one]
  refine wpAny_bind (wpAny_standAt (wpAny_bind ?_))
  by_cases hlt : i < vs.length
  · refine W.item i _ _ _ hlt hst' fun v h₁ tk₁ hPv hst₁ hk₁ => ?_
    dsimp only
    have hCw : cenv.locals ∉ [I] := fun h => hCI (List.mem_singleton.mp h)
    have hDw : D ∉ [I] := fun h => hDI (List.mem_singleton.mp h)
    refine wpAny_bind (wpAny_of_eq (show letOwnedTupleGo (.Name x px) (.ref I) v = pure () from rfl) (wpAny_bind ?_))
    refine wpAny_assign_Name (wpAny_storeName_local hx (hn'.at' fun o e => hk₁ _ o hCw e) (fun h₂ hn₂ hs₂ => ?_) hp)
    refine wpAny_bind (wpAny_bind ?_)
    refine wpAny_Name (wpAny_loadName_local hk hx hn₂ (v := v) (by simp) ?_) hdb
    refine wpAny_bind ?_
    have up₂ : ∀ b o, b ≠ cenv.locals → b ∉ [I] → H.get? b = some o → h₂.get? b = some o := fun b o hbC hbf e => hs₂.extBut b o hbC (hk₁ b o hbf e)
    refine append_at (hsz := by rw [List.size_toArray, List.length_append, List.length_take]; omega) (up₂ D _ hDC hDw hacc') fun h₅ hs₅ ho₅ => ?_
    refine wpAny_pure (wpAny_pure ⟨rfl, vs.length + 1 - (i + 1), by omega, i + 1, h₅, _, _, k + 1, rfl, hlt, rfl, ?_, ?_, hn₂.sameBut hs₅ (Ne.symm hDC), ?_⟩)
    · refine W.frame _ _ _ hst₁ fun b hb o e => ?_
      have hbC : b ≠ cenv.locals := by
        rintro rfl
        rcases List.mem_cons.mp hb with e | hb
        · exact hCI e
        · exact hCf hb
      have hbD : b ≠ D := by
        rintro rfl
        rcases List.mem_cons.mp hb with e | hb
        · exact hDI e
        · exact hDf hb
      exact hs₅.extBut b o hbD (hs₂.extBut b o hbC e)
    · rw [List.push_toArray, List.append_assoc] at ho₅
      rw [List.take_add_one, hPv]
      simpa using ho₅
    · intro b o hbC hbI hbD e
      exact hs₅.extBut b o hbD (up₂ b o hbC (fun h => hbI (List.mem_singleton.mp h)) (hkp b o hbC hbI hbD e))
  · have hin : i = vs.length := by omega
    subst hin
    refine W.done _ _ _ hst' fun h₁ tk₁ hk₁ => ?_
    dsimp only
    refine wpAny_pure ?_
    exact done h₁ tk₁ k m' (hn'.at' fun o e => hk₁ _ o (fun h => hCI (List.mem_singleton.mp h)) e) (by have := hk₁ D _ (fun h => hDI (List.mem_singleton.mp h)) hacc'; simpa using this)
      fun b o hbC hbI hbD e => hk₁ b o (fun h => hbI (List.mem_singleton.mp h)) (hkp b o hbC hbI hbD e)
theorem start_one {elt t0 i0 t1 i1 : Expr} {scope : Scope} {pos : Pos} {it acc : Value} {env : Env}
    (h0 : codeAny (model prog w) A (.compLoop (.ListComp elt [⟨t0, i0, [], 0⟩, ⟨t1, i1, [], 0⟩] scope pos) 1 it acc env) R s)
    (h : wpAny (model prog w) A (pyIter it) (fun it' s' => codeAny (model prog w) A (.compLoop (.ListComp elt [⟨t0, i0, [], 0⟩, ⟨t1, i1, [], 0⟩] scope pos) 1 it' acc env) R s')
      (notedBy (model prog w) A env fun x s' => R (.error x) s') s) :
    codeAny (model prog w) A (.compStart (.ListComp elt [⟨t0, i0, [], 0⟩, ⟨t1, i1, [], 0⟩] scope pos) 1 it acc env) R s := by
  refine codeAny_of_tree ?_
  show wpAny _ _ ((compStart (.ListComp elt [⟨t0, i0, [], 0⟩, ⟨t1, i1, [], 0⟩] scope pos) 1 it acc env).onRaise (fun x => do noteFrame x env; standAt theWindowsPlace)) _ _ s
  refine wpAny_notedAt ?_
  unfold compStart
  show wpAny _ _ (ask >>= _) _ _ s
  refine wpAny_bind (wpAny_askSetting (wpAny_ite ?_))
  split
  · first
      | exact wpAny_bind (wpAny_pure (wpAny_pure (And.intro rfl h0)))
      | exact wpAny_pure (And.intro rfl h0)
  · first
      | exact wpAny_bind (wpAny_rule (wpAny_bind (wpAny_standAt (wpAny_bind (wpAny_mono h (fun it' s' h' => wpAny_pure (And.intro rfl h')) fun _ _ x => x)))))
      | (refine wpAny_bind (wpAny_rule ?_); show wpAny _ _ (standAt i1.pos >>= _) _ _ s; exact wpAny_bind (wpAny_standAt (wpAny_bind (wpAny_mono h (fun it' s' h' => wpAny_pure (And.intro rfl h')) fun _ _ x => x))))

theorem outer_loop {i0 : Expr} {x y : Str} {px py pz pw : Pos} {scope : Scope} {pos : Pos} {I D : Addr} {fp : List Addr} {ls : List Value} {rows : List (List Value)} {St : Nat → Heap → Prop} {cenv : Env} {m : Str → Option Value}
    (hh : A.handled = none) (W : Walks prog w A I (I :: fp) [I] ls.length (fun i v => ls[i]? = some v) St) (hsz : rows.flatten.length ≤ sizeLine) (hlr : ls.length = rows.length)
    (hx : cenv.kindOf x = some .local) (hy : cenv.kindOf y = some .local) (hdx : (x == ("__debug__" : Str)) = false) (hdy : (y == ("__debug__" : Str)) = false) (hk : cenv.scope.kind = .function) (hxy : y ≠ x)
    (hfs : ∀ v, foldedSetIterable (.Name y pw) cenv v = pure v)
    (hDC : D ≠ cenv.locals) (hDI : D ≠ I) (hCI : cenv.locals ≠ I) (hDf : D ∉ fp) (hCf : cenv.locals ∉ fp)
    (hrows : ∀ (i : Nat) (v : Value), ls[i]? = some v → ∃ (r : Addr) (vs : List Value), v = .ref r ∧ rows[i]? = some vs ∧ s.heap.IsList r vs.toArray ∧ r ≠ cenv.locals ∧ r ≠ D ∧ r ≠ I)
    (hfl : ∀ b ∈ I :: fp, ∃ o, s.heap.get? b = some o) (hst : St 0 s.heap) (hacc : s.heap.get? D = some (listOf #[] 0)) (hn : s.heap.Ns cenv.locals m)
    (done : ∀ h' tk k m', h'.Ns cenv.locals m' → h'.get? D = some (listOf rows.flatten.toArray k) → (∀ b o, b ≠ cenv.locals → b ≠ I → b ≠ D → s.heap.get? b = some o → h'.get? b = some o) → R (.ok .next) { s with heap := h', toks := tk }) :
    codeAny (model prog w) A (.compLoop (.ListComp (.Name x py) [⟨.Name y pz, i0, [], 0⟩, ⟨.Name x px, .Name y pw, [], 0⟩] scope pos) 0 (.ref I) (.ref D) cenv) R s := by
  have hp : (cenv.scope.kind == .class || (cenv.scope.kind == .module && cenv.locals != cenv.globals)) = false := by rw [hk]; rfl
  refine codeAny_loop rfl (fun q s' => ∃ i h' tk m' k, s' = { s with heap := h', toks := tk } ∧ i ≤ ls.length ∧ q = ls.length + 1 - i ∧ St i h' ∧ h'.get? D = some (listOf ((rows.take i).flatten).toArray k) ∧ h'.Ns cenv.locals m' ∧
    (∀ b o, b ≠ cenv.locals → b ≠ I → b ≠ D → s.heap.get? b = some o → h'.get? b = some o)) ?_ (ls.length + 1) ⟨0, s.heap, s.toks, m, 0, rfl, Nat.zero_le _, rfl, hst, by simpa using hacc, hn, fun _ _ _ _ _ e => e⟩
  rintro q s' ⟨i, H, tk, m', k, rfl, hi, rfl, hst', hacc', hn', hkp⟩
  show wpAny _ _ ((compTurn _ 0 _ _ _).onRaise (fun x => do noteFrame x cenv; theTreesLotGoes x)) _ _ _
  refine wpAny_noted ?_
  rw [turn_zero]
  refine wpAny_bind (wpAny_standAt (wpAny_bind ?_))
  have hCw : cenv.locals ∉ [I] := fun h => hCI (List.mem_singleton.mp h)
  have hDw : D ∉ [I] := fun h => hDI (List.mem_singleton.mp h)
  by_cases hlt : i < ls.length
  · refine W.item i _ _ _ hlt hst' fun v h₁ tk₁ hPv hst₁ hk₁ => ?_
    dsimp only
    obtain ⟨r, vs, rfl, hrv, hrl, hrC, hrD, hrI⟩ := hrows i v hPv
    refine wpAny_bind (wpAny_of_eq (show letOwnedTupleGo (.Name y pz) (.ref I) (.ref r) = pure () from rfl) (wpAny_bind ?_))
    refine wpAny_assign_Name (wpAny_storeName_local hy (hn'.at' fun o e => hk₁ _ o hCw e) (fun h₂ hn₂ hs₂ => ?_) hp)
    refine wpAny_bind ?_
    refine wpAny_Name (wpAny_loadName_local hk hy hn₂ (v := Value.ref r) (by simp) ?_) hdy
    refine wpAny_bind (wpAny_standAt (wpAny_bind (wpAny_of_eq (hfs _) (wpAny_bind (wpAny_holding ?_)))))
    have up₂ : ∀ b o, b ≠ cenv.locals → b ∉ [I] → H.get? b = some o → h₂.get? b = some o := fun b o hbC hbf e => hs₂.extBut b o hbC (hk₁ b o hbf e)
    have hrl₂ : h₂.IsList r vs.toArray := hrl.at fun o e => up₂ r o hrC (fun h => hrI (List.mem_singleton.mp h)) (hkp r o hrC hrI hrD e)
    have hD₂ := up₂ D _ hDC hDw hacc'
    have hst₂ : St (i + 1) h₂ := W.frame _ _ _ hst₁ fun b hb o e => hs₂.extBut b o (by
      rintro rfl
      rcases List.mem_cons.mp hb with e | hb
      · exact hCI e
      · exact hCf hb) e
    obtain ⟨orr, horr, _⟩ := id hrl₂
    have hrlt := Heap.lt_size horr
    have hDlt := Heap.lt_size hD₂
    have hClt := hn₂.lt
    refine wpAny_pyIter_list hrl₂ ?_
    have W1 := Walks.list (prog := prog) (w := w) hh h₂.objs.size r (Nat.ne_of_lt hrlt) vs.toArray
    rw [show vs.toArray.size = vs.length by simp] at W1
    have W2 : Walks prog w A h₂.objs.size [h₂.objs.size, r] [h₂.objs.size] vs.length (fun i v => vs[i]? = some v) (fun i h => h.IsListIter h₂.objs.size r i ∧ h.IsList r vs.toArray) := by simpa using W1
    have hstI : (h₂.push { cls := .type "list_iterator", data := .fields #[.ref r, .int 0 0] }).IsListIter h₂.objs.size r 0 ∧ (h₂.push { cls := .type "list_iterator", data := .fields #[.ref r, .int 0 0] }).IsList r vs.toArray :=
      ⟨⟨_, Heap.get?_push_size _ rfl, rfl, rfl⟩, hrl₂.at fun o e => Heap.get?_push_of_some _ e⟩
    refine wpAny_bind (wpAny_runOwn ?_)
    show codeAny _ A _ _ _
    have hfin : ((rows.take i).flatten ++ vs) = (rows.take (i + 1)).flatten := by
      rw [List.take_add_one, hrv]; simp
    have hlen : ((rows.take i).flatten).length + vs.length ≤ sizeLine := by
      rw [← List.length_append, hfin]
      refine Nat.le_trans ?_ hsz
      conv => rhs; rw [← List.take_append_drop (i + 1) rows, List.flatten_append, List.length_append]
      exact Nat.le_add_right _ _
    refine start_one (inner_loop W2 hlen hx hdx hk hDC (Nat.ne_of_lt hDlt) (Nat.ne_of_lt hClt) ?d1 ?d2 hstI (Heap.get?_push_of_some _ hD₂) (hn₂.at' fun o e => Heap.get?_push_of_some _ e) ?fin) (W2.self 0 _ _ _ hstI (inner_loop W2 hlen hx hdx hk hDC (Nat.ne_of_lt hDlt) (Nat.ne_of_lt hClt) ?d1 ?d2 hstI (Heap.get?_push_of_some _ hD₂) (hn₂.at' fun o e => Heap.get?_push_of_some _ e) ?fin))
    case d1 => exact fun h => hrD (List.mem_singleton.mp h).symm
    case d2 => exact fun h => hrC (List.mem_singleton.mp h).symm
    case fin =>
      intro h₄ tk₄ k₄ m₄ hn₄ hD₄ hk₄
      dsimp only
      rw [hfin] at hD₄
      have up₄ : ∀ b o, b ≠ cenv.locals → b ≠ D → h₂.get? b = some o → h₄.get? b = some o := fun b o hbC hbD e =>
        hk₄ b o hbC (Nat.ne_of_lt (Heap.lt_size e)) hbD (Heap.get?_push_of_some _ e)
      refine wpAny_pure ⟨rfl, ls.length + 1 - (i + 1), by omega, i + 1, h₄, tk₄, m₄, k₄, rfl, hlt, rfl, ?_, hD₄, hn₄, ?_⟩
      · refine W.frame _ _ _ hst₂ fun b hb o e => up₄ b o ?_ ?_ e
        · rintro rfl
          rcases List.mem_cons.mp hb with e | hb
          · exact hCI e
          · exact hCf hb
        · rintro rfl
          rcases List.mem_cons.mp hb with e | hb
          · exact hDI e
          · exact hDf hb
      · intro b o hbC hbI hbD e
        exact up₄ b o hbC hbD (up₂ b o hbC (fun h => hbI (List.mem_singleton.mp h)) (hkp b o hbC hbI hbD e))
  · have hin : i = ls.length := by omega
    subst hin
    refine W.done _ _ _ hst' fun h₁ tk₁ hk₁ => ?_
    dsimp only
    refine wpAny_pure ?_
    exact done h₁ tk₁ k m' (hn'.at' fun o e => hk₁ _ o hCw e) (by have := hk₁ D _ hDw hacc'; rw [hlr, List.take_length] at this; exact this)
      fun b o hbC hbI hbD e => hk₁ b o (fun h => hbI (List.mem_singleton.mp h)) (hkp b o hbC hbI hbD e)
theorem comp_two {E : Value → Shared → Prop} {env : Env} {i0 : Expr} {x y : Str} {px py pz pw : Pos} {scope : Scope} {cl : List (Str × Addr)} {pos : Pos} {s₁ : Shared} {L l : Addr} {ls : List Value} {rows : List (List Value)} {RR : Value → Addr → Result → Shared → Prop}
    (hh : A.handled = none) (hl : s₁.heap.IsList l ls.toArray) (hlL : l ≠ L) (hsz : rows.flatten.length ≤ sizeLine) (hlr : ls.length = rows.length)
    (hcell : ∀ z ∈ scope.names, z.2 ≠ .cell) (hkind : scope.kind = .function) (hx : scope.names.lookup x = some .local) (hy : scope.names.lookup y = some .local) (hdx : (x == ("__debug__" : Str)) = false) (hdy : (y == ("__debug__" : Str)) = false) (hxy : y ≠ x)
    (hfs : ∀ C v, foldedSetIterable (.Name y pw) (compEnvC scope cl C env) v = pure v) (hL : ∃ o, s₁.heap.get? L = some o)
    (hrows : ∀ (i : Nat) (v : Value), ls[i]? = some v → ∃ (r : Addr) (vs : List Value), v = .ref r ∧ rows[i]? = some vs ∧ s₁.heap.IsList r vs.toArray)
    (hRR : DoneOk L (fun _ ys _ => ys = rows.flatten) s₁ 0 RR) :
    wpAny (model prog w) A (pyIter (.ref l)) (fun it s₂ => wpAny (model prog w) A (newList []) (fun acc s₃ => wpAny (model prog w) A (newFunctionEnv scope env.globals cl [] env.qual none .none (some env)) (fun cenv s₄ =>
      codeAny (model prog w) A (.compStart (.ListComp (.Name x py) [⟨.Name y pz, i0, [], 0⟩, ⟨.Name x px, .Name y pw, [], 0⟩] scope pos) 0 it acc { cenv with scope := relabel scope env }) (RR acc cenv.locals) s₄) E s₃) E s₂) E s₁ := by
  obtain ⟨ol, hol, r1⟩ := id hl
  have hlt := Heap.lt_size hol
  obtain ⟨oL, hoL⟩ := hL
  have hLlt := Heap.lt_size hoL
  refine wpAny_pyIter_list hl ?_
  have W := Walks.list (prog := prog) (w := w) hh s₁.heap.objs.size l (Nat.ne_of_lt hlt) ls.toArray
  rw [show ls.toArray.size = ls.length by simp] at W
  have W0 : Walks prog w A s₁.heap.objs.size [s₁.heap.objs.size, l] [s₁.heap.objs.size] ls.length (fun i v => ls[i]? = some v) (fun i h => h.IsListIter s₁.heap.objs.size l i ∧ h.IsList l ls.toArray) := by simpa using W
  refine wpAny_newObj_type (wpAny_newFunctionEnv hcell (by intro y hy; simp at hy) (fun h₁ hns₁ hsb₁ => ?_) hkind)
  dsimp only at hns₁ hsb₁ ⊢
  generalize hH1 : s₁.heap.push { cls := .type "list_iterator", data := .fields #[.ref l, .int 0 0] } = H1 at hns₁ hsb₁ ⊢
  generalize hH2 : H1.push { cls := .type "list", dict := none, data := .seq ([] : List Value).toArray } = H2 at hns₁ hsb₁ ⊢
  have e1 : H1.objs.size = s₁.heap.objs.size + 1 := by rw [← hH1, Heap.size_push]
  have e2 : H2.objs.size = s₁.heap.objs.size + 2 := by rw [← hH2, Heap.size_push, e1]
  have up1 : ∀ b o, H1.get? b = some o → h₁.get? b = some o := fun b o e => hsb₁.extBut b o (neN (by have := ltN (Heap.lt_size e); omega)) (Heap.get?_push_of_some _ (hH2 ▸ Heap.get?_push_of_some _ e))
  have up0 : ∀ b o, s₁.heap.get? b = some o → h₁.get? b = some o := fun b o e => up1 b o (hH1 ▸ Heap.get?_push_of_some _ e)
  have hacc : h₁.get? H1.objs.size = some (listOf #[] 0) := hsb₁.extBut _ _ (neN (by omega)) (Heap.get?_push_of_some _ (hH2 ▸ Heap.get?_push_size _ rfl))
  have hst : h₁.IsListIter s₁.heap.objs.size l 0 ∧ h₁.IsList l ls.toArray := ⟨⟨_, up1 _ _ (hH1 ▸ Heap.get?_push_size _ rfl), rfl, rfl⟩, hl.at fun o e => up0 _ o e⟩
  have fresh : ∀ a, s₁.heap.objs.size ≤ a → s₁.heap.get? a = none := fun a ha => by
    cases e : s₁.heap.get? a with
    | none => rfl
    | some o' => exact absurd (Heap.lt_size e) (Nat.not_lt.mpr ha)
  have loop : ∀ s₃ : Shared, s₃ = { s₁ with heap := h₁, toks := s₁.toks + ([] : List (Str × Value)).length } →
      codeAny (model prog w) A (.compLoop (.ListComp (.Name x py) [⟨.Name y pz, i0, [], 0⟩, ⟨.Name x px, .Name y pw, [], 0⟩] scope pos) 0 (.ref s₁.heap.objs.size) (.ref H1.objs.size) (compEnvC scope cl H2.objs.size env))
        (RR (.ref H1.objs.size) H2.objs.size) s₃ := by
    rintro s₃ rfl
    refine outer_loop (fp := [l]) (cenv := compEnvC scope cl H2.objs.size env) hh W0 hsz hlr (lookup_relabel_local hx) (lookup_relabel_local hy) hdx hdy hkind hxy (hfs _) (neN (show H1.objs.size ≠ H2.objs.size by omega)) (neN (show H1.objs.size ≠ s₁.heap.objs.size by omega)) (neN (show H2.objs.size ≠ s₁.heap.objs.size by omega))
      (fun h => by have h2 := List.mem_singleton.mp h; have h3 := ltN hlt; rw [← h2] at h3; omega) (fun h => by have h2 : H2.objs.size = l := List.mem_singleton.mp h; have h3 := ltN hlt; rw [← h2] at h3; omega) ?_ ?_ hst hacc hns₁ ?_
    · intro i v hv
      obtain ⟨r, vs, e, hr, hrl⟩ := hrows i v hv
      obtain ⟨o, ho, _⟩ := id hrl
      have hr3 := ltN (Heap.lt_size ho)
      refine ⟨r, vs, e, ‹_›, hrl.at fun o e => up0 _ o e, ?_, ?_, ?_⟩
      · show r ≠ H2.objs.size; exact neN (by omega)
      · exact neN (by omega)
      · exact neN (by omega)
    · intro b hb
      rcases List.mem_cons.mp hb with rfl | hb
      · obtain ⟨⟨o, ho, _⟩, _⟩ := hst; exact ⟨o, ho⟩
      · rw [List.mem_singleton.mp hb]; exact ⟨ol, up0 _ _ hol⟩
    · intro h' tk k m' hn' hD' hk'
      have S : Stp L s₁.heap h' := Stp.of fun b o e => hk' b o (show b ≠ H2.objs.size from neN (by have := ltN (Heap.lt_size e); omega)) (neN (by have := ltN (Heap.lt_size e); omega)) (neN (by have := ltN (Heap.lt_size e); omega)) (up0 b o e)
      exact hRR H1.objs.size H2.objs.size h' tk m' rows.flatten k [] (show s₁.heap.objs.size ≤ H1.objs.size by omega) (fresh _ (show s₁.heap.objs.size ≤ H1.objs.size by omega)) (fresh _ (show s₁.heap.objs.size ≤ H2.objs.size by omega)) (neN (by omega)) (neN (by have := ltN hLlt; omega)) (neN (by have := ltN hLlt; omega)) hn' hD' S (fun _ h => nomatch h) (fun _ h => nomatch h) rfl
  exact codeAny_compStart_list (loop _ rfl) (W0.self 0 _ _ _ hst (loop _ rfl))
end
end Mine
end

/-! Ends -/
section
open PySem PySem.W PySem.Calls PyProof.Rows PySem.Spec
namespace Mine
theorem pick_upto (vs : List Value) (k : Nat) : slicePick vs.toArray none (some ((k : Nat) : Int)) none = (vs.take k).toArray := by
  rw [kms_pick_eq]
  unfold kms_pick kms_lo kms_hi
  simp only [List.drop_zero, Nat.sub_zero]
  rw [if_neg (by omega), Int.toNat_natCast, kmk_take_min]
theorem slice_upto {prog : Program} {w : World} {A : Around} {E : Value → Shared → Prop} {s : Shared} {value slice : PySem.Expr} {l : Addr} {vs : List Value} {k : Nat} {y : Int} {t : Tok} {Q : Value → Shared → Prop}
    (hl : s.heap.IsList l vs.toArray) (hy : y = ((k : Nat) : Int)) (hsz : vs.length ≤ 1000000)
    (h : ∀ D h', s.heap.StaysIn h' → s.heap.get? D = none → h'.get? D = some (listOf (vs.take k).toArray 0) → Q (.ref D) { s with heap := h' })
    (hs : subscripted slice false (.ref l) (.ref s.heap.objs.size) = operate [.ref s.heap.objs.size, .ref l] (getItem (.ref l) (.ref s.heap.objs.size)) := by with_unfolding_all rfl)
    (ht : ∀ r, letTemporaryGo value (.ref l) r = pure () := by intro _; with_unfolding_all rfl) :
    wpAny (model prog w) A (subscriptTail value slice (.ref l) (.ref s.heap.objs.size)) Q E { s with heap := s.heap.push { cls := .type "slice", data := .fields #[.none, .int y t, .none] } } := by
  subst hy
  refine subscriptTail_ops (Heap.IsList.typeIs (s := { s with heap := s.heap.push { cls := .type "slice", data := .fields #[.none, .int ((k : Nat) : Int) t, .none] } }) (hl.push _)) list_getitem_lookup
    (wpAny_getItem_list_slice (hl.push _) (Heap.IsSliceOf.new ..) .none (.int _ _) .none (by simp) ?_ (Nat.le_trans (by simpa using hsz) (show 1000000 ≤ sizeLine by decide))) hs ht
  rw [pick_upto]
  refine h _ _ (fun b o e => Heap.get?_push_of_some _ (Heap.get?_push_of_some _ e)) ?_ (Heap.get?_push_size _ rfl)
  cases e : s.heap.get? (s.heap.push { cls := .type "slice", data := .fields #[.none, .int ((k : Nat) : Int) t, .none] }).objs.size with
  | none => rfl
  | some o => have := ltN (Heap.lt_size e); rw [Heap.size_push] at this; omega
theorem row_at {led : List (Addr × Obj)} {h : Heap} (N : ∀ p ∈ led, h.get? p.1 = some p.2) : ∀ {zs : List Value} {rows : List (List Nat)}, DatAll led zs (rows.map intsDat) → ∀ {i : Nat} {v : Value}, zs[i]? = some v →
    ∃ (r : Addr) (vs : List Value) (row : List Nat), v = .ref r ∧ h.IsList r vs.toArray ∧ rows[i]? = some row ∧ vs.length = row.length
  | _, [], hd, i, v, hv => by cases hd; simp at hv
  | _, row :: rows, hd, i, v, hv => by
    cases hd with
    | cons h1 h2 =>
      cases i with
      | succ i => exact row_at N h2 (i := i) (by simpa using hv)
      | zero =>
        simp at hv; subst hv
        cases h1 with
        | list hm hall => exact ⟨_, _, row, rfl, ⟨_, N _ hm, rfl, _, rfl⟩, rfl, by have := hall.length; simpa using this⟩
theorem lens_step {us : List Value} {rows : List (List Nat)} {row : List Nat} {i : Nat} {n t : Nat} (h : IntsAre us (((rows.take i).map fun r => r.length).map fun n : Nat => (n : Int))) (hr : rows[i]? = some row) (hn : n = row.length) :
    IntsAre (us ++ [.int (n : Nat) t]) (((rows.take (i + 1)).map fun r => r.length).map fun n : Nat => (n : Int)) := by
  subst hn
  rw [List.take_add_one, hr, Option.toList_some, List.map_append, List.map_append]
  exact h.append (.cons _ _ .nil)
theorem lens_sum (rows : List (List Nat)) : ((rows.map fun r => r.length).map fun n : Nat => (n : Int)).sum = ((rows.flatten.length : Nat) : Int) := by
  induction rows with
  | nil => rfl
  | cons r rs ih => simp only [List.map_cons, List.sum_cons, ih, List.flatten_cons, List.length_append]; omega
theorem Stp.down {L D : Addr} {h h' : Heap} (S : Stp L h h') (e : h'.get? D = none) : h.get? D = none := by
  cases q : h.get? D with
  | none => rfl
  | some o =>
    by_cases hD : D = L
    · subst hD
      obtain ⟨sl, e1⟩ := S.slot o q
      rw [e] at e1; cases e1
    · rw [S.keep _ _ hD q] at e; cases e
theorem ends_step {us : List Value} {i t : Nat} {f : Nat → Nat} {x : Int} (h : IntsAre us (((List.range i).map f).map fun n : Nat => (n : Int))) (hx : x = ((f i : Nat) : Int)) : IntsAre (us ++ [.int x t]) (((List.range (i + 1)).map f).map fun n : Nat => (n : Int)) := by
  subst hx
  rw [List.range_succ, List.map_append, List.map_append]
  exact h.append (.cons _ _ .nil)
theorem take_get {α : Type} {l : List α} {n j : Nat} {v : α} (h : (l.take n)[j]? = some v) : l[j]? = some v := by
  rw [List.getElem?_take] at h
  split at h
  · exact h
  · cases h
theorem row_len : ∀ {rows : List (List Nat)} {i : Nat} {row : List Nat}, rows[i]? = some row → row.length ≤ rows.flatten.length
  | [], _, _, h => by simp at h
  | r :: rs, 0, row, h => by simp at h; subst h; simp
  | r :: rs, i + 1, row, h => by have := row_len (rows := rs) (i := i) (row := row) (by simpa using h); simp only [List.flatten_cons, List.length_append]; omega
theorem dats_step {led led' : List (Addr × Obj)} {qs : List Value} {all : List Item} {i : Nat} {it : Item} {v : Value} (h : DatAll led qs ((all.take i).map Item.dat)) (hi : all[i]? = some it) (hv : DatIn (led' ++ led) v it.dat) : DatAll (led' ++ led) (qs ++ [v]) ((all.take (i + 1)).map Item.dat) := by
  rw [List.take_add_one, hi, Option.toList_some, List.map_append]
  exact (h.mono fun p hp => List.mem_append_right _ hp).append (.one hv)
theorem freshSz (h : Heap) : h.get? h.objs.size = none := by
  cases e : h.get? h.objs.size with
  | none => rfl
  | some o => exact absurd (Heap.lt_size e) (Nat.lt_irrefl _)
theorem far_app {led led' : List (Addr × Obj)} {x : Addr} (f : ∀ p ∈ led, p.1 ≠ x) (g : ∀ p ∈ led', p.1 ≠ x) : ∀ p ∈ led ++ led', p.1 ≠ x := fun p hp => (List.mem_append.mp hp).elim (f p) (g p)
end Mine
end

/-! Told -/
section
open PySem PySem.W PySem.Calls PyProof.Rows PySem.Spec
namespace Mine
theorem hiDigs_lt (n : Nat) : ∀ b ∈ hiDigs n, b < 128 := by
  induction n using Nat.strongRecOn with
  | _ n ih =>
    by_cases h : n = 0
    · subst h; rw [hiDigs_zero]; intro b hb; cases hb
    · rw [hiDigs_pos h]
      intro b hb
      rcases List.mem_append.mp hb with hb | hb
      · exact ih (n / 64) (by omega) b hb
      · rw [List.mem_singleton.mp hb]; omega
theorem octs_lt {hi : Nat} (h : hi ≤ 128) (n : Nat) : ∀ b ∈ octs hi n, b < 256 := by
  intro b hb
  simp only [octs, digs, List.mem_map, List.mem_append, List.mem_singleton] at hb
  obtain ⟨a, ha, rfl⟩ := hb
  rcases ha with ha | rfl
  · have := hiDigs_lt _ a ha; omega
  · omega
theorem enc_lt {hi : Nat} (h : hi ≤ 128) (it : Item) : ∀ b ∈ enc hi it, b < 256 := by
  cases it with
  | port p => exact octs_lt h _
  | name cs =>
    intro b hb
    rw [enc] at hb
    rcases List.mem_append.mp hb with hb | hb
    · exact octs_lt h _ b hb
    · obtain ⟨c, _, hc⟩ := List.mem_flatMap.mp hb
      exact octs_lt h _ b hc
theorem encFrom_lt : ∀ (its : List Item) (k : Nat), ∀ b ∈ encFrom k its, b < 256
  | [], _, b, hb => by cases hb
  | it :: r, k, b, hb => by
    rw [encFrom] at hb
    rcases List.mem_append.mp hb with hb | hb
    · exact enc_lt (hiOf_le k) it b hb
    · exact encFrom_lt r (k + 1) b hb
section
variable {prog : Program} {w : World} {A : Around} {E : Value → Shared → Prop} {s : Shared} {env : Env}
theorem assign_used {elt iter : Expr} {x y : Str} {px py : Pos} {scope : Scope} {cl : List (Str × Addr)} {pos spos : Pos} {Q : Flow → Shared → Prop}
    (hsw : swapsWith (.ListComp elt [⟨.Name x px, iter, [], 0⟩] scope pos) (some (.Name y py)) spos.line env = pure true)
    (hclos : closureFor scope env = pure cl) (hkind : scope.kind = .function)
    (hnames : ∀ z ∈ scope.names, z.2 = .local → scope.names.lookup z.1 = some .local)
    (hs : ∀ x, foldedSetIterable iter env x = pure x)
    (h : wpAny (model prog w) A (eval iter env) (fun x₁ s₁ => wpAny (model prog w) A (pyIter x₁) (fun it s₂ => wpAny (model prog w) A (newList []) (fun acc s₃ => wpAny (model prog w) A (newFunctionEnv scope env.globals cl [] env.qual none .none (some env)) (fun cenv s₄ =>
      codeAny (model prog w) A (.compStart (.ListComp elt [⟨.Name x px, iter, [], 0⟩] scope pos) 0 it acc { cenv with scope := relabel scope env }) (compPost (model prog w) A E (some (assign (.Name y py) env)) (fun _ s' => Q .next s') acc cenv.locals) s₄) E s₃) E s₂) E s₁) E s) :
    wpAny (model prog w) A (exec (.Assign [.Name y py] (.ListComp elt [⟨.Name x px, iter, [], 0⟩] scope pos) spos) env) Q E s := by
  rw [exec_Assign_Name_used _ _ _ _ hsw]
  refine wpAny_bind (wpAny_standAt (wpAny_bind ?_))
  show wpAny _ A (do let _ ← comprehension (.ListComp elt [⟨.Name x px, iter, [], 0⟩] scope pos) scope env _ (newList []) false (eval iter env) (some (assign (.Name y py) env))) _ _ s
  exact wpAny_bind (wpAny_mono (wpAny_comprehension_free (use := some (assign (.Name y py) env)) (Q := fun _ s' => Q .next s') rfl hs hclos hkind hnames h) (fun _ s' hq => wpAny_pure (wpAny_pure hq)) fun _ _ e => e)
end
theorem Ns.stp {h h' : Heap} {L : Addr} {m : Str → Option Value} (n : h.Ns L m) (S : Stp L h h') : h'.Ns L m := by
  obtain ⟨o, es, ep, ho, hd, hk⟩ := n
  obtain ⟨sl, hs⟩ := S.slot o ho
  exact ⟨_, es, ep, hs, hd, hk⟩
theorem done_some {M : Model} {A : Around} {E : Value → Shared → Prop} {Q : Value → Shared → Prop} {L : Addr} {K : Nat → List Value → List (Addr × Obj) → Prop} {s₁ : Shared} {n : Nat} {env : Env} {y : Str} {py : Pos} {m : Str → Option Value}
    (hL : env.locals = L) (hns : s₁.heap.Ns L m) (hy : env.kindOf y = some .local) (hp : (env.scope.kind == .class || (env.scope.kind == .module && env.locals != env.globals)) = false)
    (h : ∀ D h' tk ys k led, s₁.heap.objs.size ≤ D → s₁.heap.get? D = none → D ≠ L → h'.get? D = some (listOf ys.toArray k) → h'.Ns L (fun z => if z = y then some (.ref D) else m z) → (∀ b o, b ≠ L → s₁.heap.get? b = some o → h'.get? b = some o) →
      LedIn s₁.heap h' led → (∀ p ∈ led, p.1 ≠ D) → K n ys led → Q .none { s₁ with heap := h', toks := tk }) :
    DoneOk L K s₁ n (compPost M A E (some (assign (.Name y py) env)) Q) := by
  intro D C h5 tk5 m5 ys k led hDs hD hC hDC hDL hCL hn5 hDo S5 l1 l2 hK
  have hns5 := Ns.stp hns S5
  refine wpAny_assign_Name (wpAny_storeName_local hy (hL ▸ hns5) (fun h₂ hn₂ hs₂ => ?_) hp)
  rw [hL] at hn₂ hs₂
  refine ⟨m5, hn5.sameBut hs₂ hCL, fun h6 hs6 => ?_⟩
  have hledL : ∀ p ∈ led, p.1 ≠ L := fun p hp e => by
    obtain ⟨o, _, _, ho, _⟩ := hns
    have := (l1 p hp).2; rw [e, ho] at this; cases this
  exact h D h6 _ ys k led hDs hD hDL (hs6.extBut _ _ hDC (hs₂.extBut _ _ hDL hDo)) (hn₂.sameBut hs6 (Ne.symm hCL))
    (fun b o hb e => hs6.extBut b o (fun q => by rw [q, hC] at e; cases e) (hs₂.extBut b o hb (S5.keep b o hb e)))
    (fun p hp => ⟨hs6.extBut _ _ (l2 p hp).1 (hs₂.extBut _ _ (hledL p hp) (l1 p hp).1), (l1 p hp).2⟩) (fun p hp => (l2 p hp).2) hK
theorem Fr.turnB {h₀ h h' : Heap} {L : Addr} {m m' : Str → Option Value} (F : Fr h₀ L h m) (n : h'.Ns L m') (k : ∀ b o, b ≠ L → h.get? b = some o → h'.get? b = some o) : Fr h₀ L h' m' :=
  ⟨n, fun b o e => k b o (fun hb => by rw [hb, kts_self F] at e; cases e) (F.keep b o e), F.above⟩
theorem newsTailB {h₀ h h' : Heap} {L a : Addr} {m : Str → Option Value} {o : Obj} {led news : List (Addr × Obj)} (F : Fr h₀ L h m) (N : News h₀ L h news) (k : ∀ b o, b ≠ L → h.get? b = some o → h'.get? b = some o) (fr : h.get? a = none) (ha : h'.get? a = some o) (l : LedIn h h' led) :
    News h₀ L h' ((a, o) :: (news ++ led)) := by
  obtain ⟨oL, _, _, hL, _⟩ := F.ns
  have fresh : ∀ b, h.get? b = none → b ≠ L ∧ h₀.get? b = none := fun b e => by
    refine ⟨fun hb => ?_, ?_⟩
    · rw [hb, hL] at e; cases e
    · cases q : h₀.get? b with
      | none => rfl
      | some o => rw [F.keep _ _ q] at e; cases e
  refine List.forall_mem_cons.mpr ⟨⟨ha, fresh a fr⟩, fun p hp => ?_⟩
  rcases List.mem_append.mp hp with hp | hp
  · exact ⟨k _ _ (N p hp).2.1 (N p hp).1, (N p hp).2⟩
  · exact ⟨(l p hp).1, fresh _ (l p hp).2⟩
theorem below_law {h₀ h : Heap} {L : Addr} {m : Str → Option Value} {dp un : Nat} {gd : Option (List Code)} {env : Env} (F : Fr h₀ L h m) (hk : env.scope.kind = .function) (hf : env.frame = some L) : Below ⟨none, dp, some [env], gd, un⟩ h₀ [env] h :=
  ⟨rfl, F.keep, .cons (by rw [hk]; decide) hf F.ns (kts_self F) trivial⟩
theorem dicts_law {h₀ h : Heap} {L : Addr} {m : Str → Option Value} {env : Env} (F : Fr h₀ L h m) (hf : env.frame = some L) : KtsDicts ([env].filterMap (·.frame)) h := by
  intro b hb
  obtain ⟨o, es, ep, ho, hd, _⟩ := F.ns
  simp only [List.filterMap_cons, hf, List.filterMap_nil, List.mem_singleton] at hb
  subst hb
  exact ⟨o, es, ep, ho, hd⟩
theorem heard_at {all : List Item} (hok : ∀ it ∈ all, ItemOk it) (i : Nat) : heard (((encFrom 0 all).take i).length + 1) ((encFrom 0 all).take i) = some (tellFrom 0 i all) :=
  heard_cut all 0 i _ hok (Nat.lt_succ_self _)
theorem told_step {led led' : List (Addr × Obj)} {vs vals : List Value} {i n : Nat} {a : Addr} {ds : List Dat} {f : Nat → Dat} (h : DatAll led vs ((List.range i).map f)) (hm : (a, listOf vals.toArray n) ∈ led') (hv : DatAll led' vals ds) (hf : f i = .list ds) :
    DatAll (led' ++ led) (vs ++ [.ref a]) ((List.range (i + 1)).map f) := by
  rw [List.range_succ, List.map_append]
  refine (h.mono fun p hp => List.mem_append_right _ hp).append (.one ?_)
  rw [hf]
  exact .list (List.mem_append_left _ hm) (hv.mono fun p hp => List.mem_append_left _ hp)
end Mine
end

/-! CompCell -/
section
open PySem PySem.W PySem.Calls PyProof.Rows
set_option maxRecDepth 100000
namespace Mine
section
variable {prog : Program} {w : World} {A : Around} {E : Value → Shared → Prop} {env : Env}

theorem Stp.none {L D : Addr} {h h' : Heap} (S : Stp L h h') (e : h'.get? D = none) : h.get? D = none := by
  cases q : h.get? D with
  | none => rfl
  | some o =>
    by_cases hD : D = L
    · subst hD
      obtain ⟨sl, e1⟩ := S.slot o q
      rw [e] at e1; cases e1
    · rw [S.keep _ _ hD q] at e; cases e
theorem newEnvCell {s : Shared} {scope : Scope} {cl : List (Str × Addr)} {x : Str} {Q : Env → Shared → Prop}
    (hcells : ∀ k : Addr, cellsFrom k scope.names cl = (x, k) :: cl) (hpush : ∀ h : Heap, pushCells h scope.names = h.push { cls := .type "cell", data := .cell none })
    (h : Q { scope, locals := s.heap.objs.size, globals := env.globals, cells := (x, s.heap.objs.size + 1) :: cl, qual := env.qual, func := none, code := env.code, frame := env.frame, builtins := env.builtins }
      { s with heap := (s.heap.push { cls := .type "dict", data := .dict #[] }).push { cls := .type "cell", data := .cell none } }) :
    wpAny (model prog w) A (newFunctionEnv scope env.globals cl [] env.qual none .none (some env)) Q E s := by
  simp only [newFunctionEnv, Option.isSome_some, if_true]
  refine wpAny_bind (wpAny_alloc ?_)
  refine wpAny_bind (wpAny_layCells _ (fun name kind cells => by cases hkc : kind == NameKind.cell <;> simp [hkc]) _ _ _ _ ?_)
  rw [hcells, hpush]
  rw [show ({ s with heap := s.heap.push { cls := .type "dict", data := .dict #[] } } : Shared).heap.objs.size = s.heap.objs.size + 1 from Heap.size_push ..]
  exact wpAny_bind (wpAny_pure (wpAny_pure h))

theorem comp_cell {elt iter : Expr} {x : Str} {px : Pos} {scope : Scope} {cl : List (Str × Addr)} {pos : Pos} {s₁ : Shared} {L r : Addr} {n : Nat} {b : Int} {t u v : Tok} {RR : Value → Addr → Result → Shared → Prop} (K : Nat → List Value → List (Addr × Obj) → Prop)
    (hh : A.handled = none) (hr : IsRange s₁.heap r 0 b 1 t u v) (hb : b = (n : Nat)) (hn : n ≤ 1000000)
    (hcells : ∀ k : Addr, cellsFrom k scope.names cl = (x, k) :: cl) (hpush : ∀ h : Heap, pushCells h scope.names = h.push { cls := .type "cell", data := .cell none })
    (hkind : scope.kind = .function) (hx : ∀ C c : Addr, (compEnvC scope ((x, c) :: cl) C env).kindOf x = some .cell) (hL : ∃ o, s₁.heap.get? L = some o) (hK0 : K 0 [] [])
    (turn : ∀ (i : Nat) tv, i < n → ∀ C c ys h tk m₂, s₁.heap.objs.size ≤ C → s₁.heap.objs.size ≤ c → C ≠ L → c ≠ L → Stp L s₁.heap h → h.Ns C m₂ → h.IsCell c (some (.int (i : Nat) tv)) →
      wpAny (model prog w) A (eval elt (compEnvC scope ((x, c) :: cl) C env)) (fun y s₄ => ∃ h' tk' led', s₄ = { s₁ with heap := h', toks := tk' } ∧ Stp L h h' ∧ LedIn h h' led' ∧ ∀ led, K i ys led → K (i + 1) (ys ++ [y]) (led' ++ led)) (fun _ _ => False) { s₁ with heap := h, toks := tk })
    (hRR : DoneOk L K s₁ n RR) :
    wpAny (model prog w) A (pyIter (.ref r)) (fun it s₂ => wpAny (model prog w) A (newList []) (fun acc s₃ => wpAny (model prog w) A (newFunctionEnv scope env.globals cl [] env.qual none .none (some env)) (fun cenv s₄ =>
      codeAny (model prog w) A (.compStart (.ListComp elt [⟨.Name x px, iter, [], 0⟩] scope pos) 0 it acc { cenv with scope := relabel scope env }) (RR acc cenv.locals) s₄) E s₃) E s₂) E s₁ := by
  subst hb
  refine wpAny_pyIter_range hr (small_one (by decide) (by decide) (by omega) (by omega)) ?_
  have hsz : Builtin.Range.rangeSize 0 ((n : Nat) : Int) 1 = ((n : Nat) : Int) := by rw [rangeSize_nat]; omega
  rw [hsz]
  have W := Walks.range (prog := prog) (w := w) hh s₁.heap.objs.size 0 1 n
  have hst0 : IsRangeIter (s₁.heap.push { cls := .type "range_iterator", data := .fields #[rawInt 0, rawInt ((n : Nat) : Int), rawInt 1] }) s₁.heap.objs.size (0 + ((0 : Nat) : Int) * 1) (((n : Nat) : Int) - ((0 : Nat) : Int)) 1 := by
    show IsRangeIter _ _ _ _ _
    simpa using Heap.get?_push_size _ rfl
  have up1 : ∀ b o, s₁.heap.get? b = some o → (s₁.heap.push { cls := .type "range_iterator", data := .fields #[rawInt 0, rawInt ((n : Nat) : Int), rawInt 1] }).get? b = some o := fun b o e => Heap.get?_push_of_some _ e
  have e1 : (s₁.heap.push { cls := .type "range_iterator", data := .fields #[rawInt 0, rawInt ((n : Nat) : Int), rawInt 1] }).objs.size = s₁.heap.objs.size + 1 := Heap.size_push ..
  refine wpAny_newObj_type (newEnvCell hcells hpush ?_)
  dsimp only
  generalize s₁.heap.push { cls := .type "range_iterator", data := .fields #[rawInt 0, rawInt ((n : Nat) : Int), rawInt 1] } = H1 at hst0 up1 e1 ⊢
  generalize hH2 : H1.push { cls := .type "list", dict := none, data := .seq ([] : List Value).toArray } = H2
  have e2 : H2.objs.size = s₁.heap.objs.size + 2 := by rw [← hH2, Heap.size_push, e1]
  generalize hH3 : H2.push { cls := .type "dict", data := .dict #[] } = H3
  have e3 : H3.objs.size = s₁.heap.objs.size + 3 := by rw [← hH3, Heap.size_push, e2]
  generalize hH4 : H3.push { cls := .type "cell", data := .cell none } = H4
  have up2 : ∀ b o, H1.get? b = some o → H2.get? b = some o := fun b o e => hH2 ▸ Heap.get?_push_of_some _ e
  have up3 : ∀ b o, H2.get? b = some o → H3.get? b = some o := fun b o e => hH3 ▸ Heap.get?_push_of_some _ e
  have up4 : ∀ b o, H3.get? b = some o → H4.get? b = some o := fun b o e => hH4 ▸ Heap.get?_push_of_some _ e
  have hacc : H4.get? H1.objs.size = some (listOf #[] 0) := up4 _ _ (up3 _ _ (hH2 ▸ Heap.get?_push_size _ rfl))
  have hns : H4.Ns H2.objs.size fun _ => none := (hH3 ▸ Heap.Ns.new H2 (.type "dict") : H3.Ns H2.objs.size fun _ => none).at' fun o e => up4 _ o e
  have hcl0 : H4.IsCell (H2.objs.size + 1) none := by
    refine ⟨{ cls := .type "cell", data := .cell none }, ?_, rfl⟩
    rw [show H2.objs.size + 1 = H3.objs.size by omega]; exact hH4 ▸ Heap.get?_push_size _ rfl
  have hst : IsRangeIter H4 s₁.heap.objs.size (0 + ((0 : Nat) : Int) * 1) (((n : Nat) : Int) - ((0 : Nat) : Int)) 1 := W.frame 0 _ _ hst0 fun b _ o e => up4 _ _ (up3 _ _ (up2 _ _ e))
  obtain ⟨oL, hoL⟩ := hL
  have hLlt := ltN (Heap.lt_size hoL)
  have fresh : ∀ a, s₁.heap.objs.size ≤ a → s₁.heap.get? a = none := fun a ha => by
    cases e : s₁.heap.get? a with
    | none => rfl
    | some o' => exact absurd (Heap.lt_size e) (Nat.not_lt.mpr ha)
  generalize hI : s₁.heap.objs.size = I at *
  generalize hD : H1.objs.size = D at *
  generalize hCC : H2.objs.size = C at *
  generalize hcc : C + 1 = c at *
  have nDI : D ≠ I := neN (by omega)
  have nCI : C ≠ I := neN (by omega)
  have ncI : c ≠ I := neN (by omega)
  have nDC : D ≠ C := neN (by omega)
  have nDc : D ≠ c := neN (by omega)
  have ncC : c ≠ C := neN (by omega)
  have nIL : I ≠ L := neN (by omega)
  have nDL : D ≠ L := neN (by omega)
  have nCL : C ≠ L := neN (by omega)
  have ncL : c ≠ L := neN (by omega)
  have old : ∀ b o, s₁.heap.get? b = some o → b ≠ I ∧ b ≠ D ∧ b ≠ C ∧ b ≠ c := fun b o e => by
    have := ltN (Heap.lt_size e)
    exact ⟨neN (by omega), neN (by omega), neN (by omega), neN (by omega)⟩
  have loop : ∀ tk : Nat, codeAny (model prog w) A (.compLoop (.ListComp elt [⟨.Name x px, iter, [], 0⟩] scope pos) 0 (.ref I) (.ref D) (compEnvC scope ((x, c) :: cl) C env)) (RR (.ref D) C) { s₁ with heap := H4, toks := tk } := by
    intro tk0
    refine codeAny_compLoop_tests
      (fun q s' => ∃ i h' tk ys k v₀, s' = { s₁ with heap := h', toks := tk } ∧ i ≤ n ∧ q = n + 1 - i ∧ IsRangeIter h' I (0 + ((i : Nat) : Int) * 1) (((n : Nat) : Int) - ((i : Nat) : Int)) 1 ∧ h'.get? D = some (listOf ys.toArray k) ∧ ys.length ≤ i ∧ h'.Ns C (fun _ => none) ∧ h'.IsCell c v₀ ∧
        Stp L s₁.heap h' ∧ ∃ led, LedIn s₁.heap h' led ∧ (∀ p ∈ led, p.1 ≠ C ∧ p.1 ≠ c ∧ p.1 ≠ D ∧ p.1 ≠ I) ∧ K i ys led) ?_ (n + 1)
      ⟨0, H4, tk0, [], 0, none, rfl, Nat.zero_le _, rfl, hst, hacc, Nat.le_refl _, hns, hcl0, Stp.of fun b o e => up4 _ _ (up3 _ _ (up2 _ _ (up1 _ _ e))), [], (fun _ h => nomatch h), (fun _ h => nomatch h), hK0⟩
    rintro q s' ⟨i, H, tk, ys, k, v₀, rfl, hi, rfl, hst', hacc', hyl, hn', hc', S, led, l1, l2, l3⟩
    have hlive : ∀ p ∈ led, p.1 ≠ L := fun p hp e => by have := (l1 p hp).2; rw [e, hoL] at this; cases this
    by_cases hlt : i < n
    · refine W.item i _ _ _ hlt hst' fun v h₁ tk₁ hPv hst₁ hk₁ => ?_
      obtain ⟨tv, rfl⟩ := hPv
      have hv0 : (0 : Int) + (i : Int) * 1 = ((i : Nat) : Int) := by omega
      rw [hv0]
      have nI : ∀ {b : Addr}, b ≠ I → b ∉ [I] := fun h m => h (List.mem_singleton.mp m)
      have hc₁ : h₁.IsCell c v₀ := by
        obtain ⟨o, ho, hd⟩ := hc'
        exact ⟨o, hk₁ c o (nI ncI) ho, hd⟩
      refine wpAny_assign_Name (wpAny_storeName_cell hkind (hx C c) (show List.lookup x ((x, c) :: cl) = some c by simp) hc₁ fun h₂ hc₂ hs₂ => ?_)
      refine wpAny_tests_nil ?_
      rw [if_pos rfl]
      have up : ∀ b o, b ≠ I → b ≠ c → H.get? b = some o → h₂.get? b = some o := fun b o hb1 hb2 e => hs₂.extBut b o hb2 (hk₁ b o (nI hb1) e)
      have S₂ : Stp L s₁.heap h₂ := ⟨fun b o hb e => up b o (old b o e).1 (old b o e).2.2.2 (S.keep b o hb e), fun o e => by
        obtain ⟨sl, e1⟩ := S.slot o e
        exact ⟨sl, up L _ (Ne.symm nIL) (Ne.symm ncL) e1⟩⟩
      have hn₂ : h₂.Ns C (fun _ => none) := hn'.at' fun o e => up C o nCI (Ne.symm ncC) e
      have hD₂ := up D _ nDI nDc hacc'
      have hst₂ := W.frame (i + 1) _ h₂ hst₁ fun b hb o e => hs₂.extBut b o (fun q => ncI (by rw [← q]; exact List.mem_singleton.mp hb)) e
      refine wpAny_mono (turn i tv hlt C c ys h₂ tk₁ _ (by omega) (by omega) nCL ncL S₂ hn₂ hc₂) (fun y s₄ h₄ => ?_) fun _ _ e => e.elim
      obtain ⟨h₄, tk₄, led', rfl, S₄, l4, hk⟩ := h₄
      have hD₄ := S₄.keep _ _ nDL hD₂
      have hq : 1000000 ≤ sizeLine := by decide
      refine append_at (hsz := by rw [List.size_toArray]; omega) hD₄ fun h₅ hs₅ ho₅ => ?_
      rw [List.push_toArray] at ho₅
      have live2 : ∀ b, h₂.get? b = none → b ≠ C ∧ b ≠ c ∧ b ≠ D ∧ b ≠ I := fun b e => by
        obtain ⟨oC, _, _, hoC, _⟩ := hn₂
        obtain ⟨oc, hoc, _⟩ := hc₂
        have hoI : ∃ o, h₂.get? I = some o := ⟨_, hst₂⟩
        obtain ⟨oI, hoI⟩ := hoI
        refine ⟨fun q => ?_, fun q => ?_, fun q => ?_, fun q => ?_⟩
        · rw [q, hoC] at e; cases e
        · rw [q, hoc] at e; cases e
        · rw [q, hD₂] at e; cases e
        · rw [q, hoI] at e; cases e
      refine ⟨n + 1 - (i + 1), by omega, i + 1, h₅, tk₄, ys ++ [y], k + 1, some (.int (i : Nat) tv), rfl, hlt, rfl, ?_, ho₅, by simp; omega, ?_, ?_, ?_, led' ++ led, ?_, ?_, hk led l3⟩
      · exact W.frame (i + 1) _ h₅ hst₂ fun b hb o e => hs₅.extBut b o (fun q => nDI (by rw [← q]; exact List.mem_singleton.mp hb)) (S₄.keep b o (fun q => nIL (by rw [← q]; exact (List.mem_singleton.mp hb).symm)) e)
      · exact (hn₂.at' fun o e => S₄.keep _ o nCL e).sameBut hs₅ (Ne.symm nDC)
      · obtain ⟨o, ho, hd⟩ := hc₂
        exact ⟨o, hs₅.extBut _ _ (Ne.symm nDc) (S₄.keep _ o ncL ho), hd⟩
      · exact (S₂.trans S₄).same (fresh D (by omega)) nDL hs₅
      · intro p hp
        rcases List.mem_append.mp hp with hp | hp
        · exact ⟨hs₅.extBut _ _ (live2 _ (l4 p hp).2).2.2.1 (l4 p hp).1, S₂.none (l4 p hp).2⟩
        · exact ⟨hs₅.extBut _ _ (l2 p hp).2.2.1 (S₄.keep _ _ (hlive p hp) (up _ _ (l2 p hp).2.2.2 (l2 p hp).2.1 (l1 p hp).1)), (l1 p hp).2⟩
      · intro p hp
        rcases List.mem_append.mp hp with hp | hp
        · exact live2 _ (l4 p hp).2
        · exact l2 p hp
    · have hin : i = n := by omega
      subst hin
      refine W.done _ _ _ hst' fun h₁ tk₁ hk₁ => ?_
      dsimp only
      have nI : ∀ {b : Addr}, b ≠ I → b ∉ [I] := fun h m => h (List.mem_singleton.mp m)
      refine hRR D C h₁ tk₁ _ ys k led (by omega) (fresh D (by omega)) (fresh C (by omega)) nDC nDL nCL (hn'.at' fun o e => hk₁ C o (nI nCI) e) (hk₁ D _ (nI nDI) hacc')
        ⟨fun b o hb e => hk₁ b o (nI (old b o e).1) (S.keep b o hb e), fun o e => ?_⟩ (fun p hp => ⟨hk₁ _ _ (nI (l2 p hp).2.2.2) (l1 p hp).1, (l1 p hp).2⟩) (fun p hp => ⟨(l2 p hp).1, (l2 p hp).2.2.1⟩) l3
      obtain ⟨sl, e1⟩ := S.slot o e
      exact ⟨sl, hk₁ L _ (nI (Ne.symm nIL)) e1⟩
  exact codeAny_compStart_list (loop _) (W.self 0 _ _ _ hst (loop _))
end
end Mine
end

/-! Sel -/
section
open PySem PySem.W PySem.Calls PyProof.Rows PySem.Spec
namespace Mine
/-- where the octets of item j end -/
def endFrom (k : Nat) (its : List Item) (j : Nat) : Nat := ((rowsFrom k its).take (j + 1)).flatten.length
/-- those of the first j items whose octets end by c -/
def selFrom (k : Nat) (its : List Item) (c : Nat) : Nat → List Item
  | 0 => []
  | j + 1 => if endFrom k its j ≤ c then selFrom k its c j ++ its[j]?.toList else selFrom k its c j
theorem sel_succ (k : Nat) (its : List Item) (c j : Nat) : selFrom k its c (j + 1) = if endFrom k its j ≤ c then selFrom k its c j ++ its[j]?.toList else selFrom k its c j := rfl
theorem endFrom_zero (k : Nat) (it : Item) (r : List Item) : endFrom k (it :: r) 0 = (enc (hiOf k) it).length := by
  simp [endFrom, rowsFrom]
theorem endFrom_succ (k : Nat) (it : Item) (r : List Item) (j : Nat) : endFrom k (it :: r) (j + 1) = (enc (hiOf k) it).length + endFrom (k + 1) r j := by
  simp only [endFrom, rowsFrom, List.take_succ_cons, List.flatten_cons, List.length_append]
theorem sel_cons (k : Nat) (it : Item) (r : List Item) (c : Nat) : ∀ j, selFrom k (it :: r) c (j + 1) = if (enc (hiOf k) it).length ≤ c then it :: selFrom (k + 1) r (c - (enc (hiOf k) it).length) j else []
  | 0 => by
    rw [sel_succ k (it :: r), endFrom_zero]
    split
    · rfl
    · rfl
  | j + 1 => by
    rw [sel_succ k (it :: r), sel_cons k it r c j, endFrom_succ]
    by_cases h : (enc (hiOf k) it).length ≤ c
    · rw [if_pos h, if_pos h, sel_succ]
      by_cases h2 : endFrom (k + 1) r j ≤ c - (enc (hiOf k) it).length
      · rw [if_pos h2, if_pos (by omega)]
        simp
      · rw [if_neg h2, if_neg (by omega)]
    · rw [if_neg h, if_neg h, if_neg (by omega)]
theorem sel_tell : ∀ (its : List Item) (k c : Nat), selFrom k its c its.length = tellFrom k c its
  | [], _, _ => rfl
  | it :: r, k, c => by
    rw [List.length_cons, sel_cons, tellFrom, sel_tell r (k + 1)]
theorem nm_cell {M : Model} {A : Around} {E : Value → Shared → Prop} {s : Shared} {env : Env} {x : Str} {pos : Pos} {c : Addr} {v : Value} {Q : Value → Shared → Prop} (hv : s.heap.IsCell c (some v)) (h : Q v s)
    (hk : env.scope.kind = .function) (hx : env.kindOf x = some .cell) (hc : env.cells.lookup x = some c) (hd : (x == ("__debug__" : Str)) = false) : wpAny M A (eval (.Name x pos) env) Q E s := wpAny_Name (wpAny_loadName_cell hk hx hc hv h) hd
theorem ints_at : ∀ {us : List Value} {ns : List Int} {j : Nat} {n : Int}, IntsAre us ns → ns[j]? = some n → ∃ t, us[j]? = some (.int n t)
  | _, [], j, n, h, hn => by simp at hn
  | _, m :: ms, j, n, h, hn => by
    cases h with
    | cons _ t h =>
      cases j with
      | zero => simp at hn; subst hn; exact ⟨t, rfl⟩
      | succ j => obtain ⟨t', e⟩ := ints_at (j := j) h (by simpa using hn); exact ⟨t', by simpa using e⟩
theorem ends_at {us : List Value} {n j : Nat} {f : Nat → Nat} (h : IntsAre us (((List.range n).map f).map fun n : Nat => (n : Int))) (hj : j < n) : ∃ t, us[j]? = some (.int ((f j : Nat) : Int) t) :=
  ints_at h (by simp [hj])
theorem sel_yes {led : List (Addr × Obj)} {ps : List Value} {all : List Item} {c j : Nat} {it : Item} {v : Value} (h : DatAll led ps ((selFrom 0 all c j).map Item.dat)) (hc : endFrom 0 all j ≤ c) (hj : all[j]? = some it) (hv : DatIn led v it.dat) : DatAll led (ps ++ [v]) ((selFrom 0 all c (j + 1)).map Item.dat) := by
  rw [sel_succ, if_pos hc, hj, Option.toList_some, List.map_append]
  exact h.append (.one hv)
theorem sel_no {led : List (Addr × Obj)} {ps : List Value} {all : List Item} {c j : Nat} (h : DatAll led ps ((selFrom 0 all c j).map Item.dat)) (hc : ¬ endFrom 0 all j ≤ c) : DatAll led ps ((selFrom 0 all c (j + 1)).map Item.dat) := by
  rw [sel_succ, if_neg hc]; exact h
theorem last_step {led ledU : List (Addr × Obj)} {bs ps : List Value} {i k : Nat} {a : Addr} {f : Nat → List Dat} (h : DatAll (led ++ ledU) bs ((List.range i).map fun c => Dat.list (f c))) (hv : DatAll ledU ps (f i)) :
    DatAll (([(a, listOf ps.toArray k)] ++ led) ++ ledU) (bs ++ [.ref a]) ((List.range (i + 1)).map fun c => Dat.list (f c)) := by
  rw [List.range_succ, List.map_append]
  exact (h.mono fun p hp => .tail _ hp).append (.one (.list (.head _) (hv.mono fun p hp => .tail _ (List.mem_append_right _ hp))))
theorem tell_sub : ∀ (its : List Item) (k c : Nat), ∀ it ∈ tellFrom k c its, it ∈ its
  | [], _, _, it, h => by cases h
  | x :: r, k, c, it, h => by
    rw [tellFrom] at h
    split at h
    · rcases List.mem_cons.mp h with rfl | h
      · exact .head _
      · exact .tail _ (tell_sub r _ _ it h)
    · cases h
theorem item_kqd (it : Item) (ok : ItemOk it) : kqdOk 7 it.dat = true := by
  cases it with
  | port p => simp only [Item.dat, kqdOk, List.all_cons, List.all_nil, Bool.and_true]; decide +kernel
  | name cs =>
    simp only [Item.dat, kqdOk]
    simp only [PyData.strOk, List.all_toArray, List.all_eq_true]
    intro c hc
    have := ok.2 c hc
    exact decide_eq_true (by omega)
theorem tells_ok {all : List Item} (hok : ∀ it ∈ all, ItemOk it) (n : Nat) : ∀ d ∈ (List.range n).map (fun c => Dat.list ((tellFrom 0 c all).map Item.dat)), kqdOk 8 d = true := by
  intro d hd
  obtain ⟨c, _, rfl⟩ := List.mem_map.mp hd
  simp only [kqdOk, List.all_eq_true]
  intro e he
  obtain ⟨it, hit, rfl⟩ := List.mem_map.mp he
  exact item_kqd it (hok it (tell_sub all 0 c it hit))
theorem sels_eq (all : List Item) (n : Nat) : ((List.range n).map fun c => Dat.list ((selFrom 0 all c all.length).map Item.dat)) = (List.range n).map fun c => Dat.list ((tellFrom 0 c all).map Item.dat) := by
  refine List.map_congr_left fun c _ => ?_
  rw [sel_tell]
theorem eq_told {prog : Program} {w : World} {A : Around} {E : Value → Shared → Prop} {s : Shared} {h₀ : Heap} {L a b : Addr} {news n₁ n₂ : List (Addr × Obj)} {xs ys : List Value} {ka kb n : Nat} {all : List Item} {Q : Value → Shared → Prop} (N : News h₀ L s.heap news)
    (ma : (a, listOf xs.toArray ka) ∈ news) (Da : DatAll n₁ xs ((List.range n).map fun c => Dat.list ((tellFrom 0 c all).map Item.dat))) (sa : ∀ p ∈ n₁, p ∈ news)
    (mb : (b, listOf ys.toArray kb) ∈ news) (Db : DatAll n₂ ys ((List.range n).map fun c => Dat.list ((selFrom 0 all c all.length).map Item.dat))) (sb : ∀ p ∈ n₂, p ∈ news)
    (hok : ∀ it ∈ all, ItemOk it) (hu : A.units + 64 < cLine) (h : Q (.bool true) s) : wpAny (model prog w) A (compareOp .Eq (.ref a) (.ref b)) Q E s := by
  rw [sels_eq] at Db
  refine kqd_eq N ma rfl rfl Da sa mb rfl rfl Db sb (tells_ok hok n) (tells_ok hok n) hu ?_
  simp only [decide_true]
  exact h
end Mine
end

/-! Law -/
section
open PySem PySem.W PySem.Calls PyProof.Rows PySem.Spec
set_option maxRecDepth 100000
set_option maxHeartbeats 8000000
namespace Mine
local macro_rules | `(tactic| k_steps) => `(tactic| repeat' ((fail_if_success (with_reducible show wpAny _ _ (exec (Stmt.While _ _ _ _) _) _ _ _)); (fail_if_success (with_reducible show wpAny _ _ (call (Value.ref _) _) _ _ _)); (fail_if_success (with_reducible show wpAny _ _ (eval (Expr.ListComp _ _ _ _) _) _ _ _)); (fail_if_success (with_reducible show wpAny _ _ (pyIter _) _ _ _)); (fail_if_success (with_reducible show wpAny _ _ (call (Value.builtin "len") [Value.ref _]) _ _ _)); (fail_if_success (with_reducible show wpAny _ _ (binaryOp Operator.Add (Value.ref _) (Value.ref _)) _ _ _)); (fail_if_success (with_reducible show wpAny _ _ (compareOp CmpOp.Eq (Value.ref _) (Value.ref _)) _ _ _)); (fail_if_success ((with_reducible show (ite _ _ _)); (fail_if_success k_closed))); first | (k_unfold; (try dsimp only)) | (k_end; wrow_close) | walk1 | (dsimp only; walk1) | (leave1; walk_say "STEP leave1"; try dsimp only) | fail "no step"))
local macro_rules | `(tactic| k_all) => `(tactic| with_reducible assumption)
theorem lawx : PySem.Challenge.rw_ny0030_01.Holds := hd (by
  w_strict (k_go0; (all_goals try k_fold); k_steps)
  rw [eval_ListComp]
  refine wpAny_comprehension_free rfl (fun _ => rfl) rfl rfl (by decide) ?_
  dsimp only [firstIter]
  k_steps
  rename Fr _ _ _ _ => F1
  rename News _ _ _ _ => N1
  rename Frag.In _ _ => KX
  rename Top _ _ _ _ _ _ => TT
  rename IntsAre _ _ => I1
  rename_i D1 ws1 hh1 _ _ _
  have hws : ws1.length ≤ 2 := by rw [I1.length, List.length_take]; omega
  refine comp_list (fun i ys _ => ∃ its : List Item, its.length = i ∧ (∀ it ∈ its, ItemOk it) ∧ DatAll [] ys (its.map Item.plain)) rfl ⟨_, (N1 _ (.head _)).1, rfl, _, rfl⟩ (N1 _ (.head _)).2.1 (Nat.le_trans hws (by decide)) (by decide) rfl rfl ?_ ⟨[], rfl, (fun _ h => nomatch h), .nil⟩ ?_ ?_
  · obtain ⟨o, _, _, ho, _⟩ := F1.ns; exact ⟨o, ho⟩
  · intro i v hv C ys h4 tk4 m4 hC hCL S4 hled hn hm
    have F4 := Fr.comp F1 S4 hC hn
    have N4 := News.comp N1 S4 hC
    refine wpAny_tests_nil ?_
    rw [if_pos rfl]
    iterate 5 (first | walk1 | (dsimp only; walk1))
    refine nm_local hn hm ?_ rfl rfl (by decide)
    iterate 1 (first | walk1 | (dsimp only; walk1))
    refine ⟨KX.keeps F4.keep, ?_⟩
    obtain ⟨n1, t1, rfl, _⟩ := I1.at i v hv
    refine c_item n1 t1 (KX.keeps F4.keep) (TT.keeps F4.keep) (by decide) (by decide) ?_
    intro h6 tk6 v6 it6 ok6 vis6 st6
    refine ⟨h6, tk6, [], rfl, Stp.of st6, (fun _ h => nomatch h), ?_⟩
    rintro led ⟨its, hi1, hi2, hi3⟩
    refine ⟨its ++ [it6], by simp [hi1], ?_, ?_⟩
    · intro it hit
      rcases List.mem_append.mp hit with hit | hit
      · exact hi2 it hit
      · rw [List.mem_singleton.mp hit]; exact ok6
    · rw [List.map_append]
      exact hi3.append (.one (vis_in vis6 _))
  · refine done_none ?_
    intro D2 h5 tk5 ys k led hDs hD hDL hDo S5 l1 l2 hK
    obtain ⟨its, hi1, hi2, hi3⟩ := hK
    have F5 := Fr.stp F1 S5
    have N5 := newsAddS F1 N1 S5 hD hDo
    have lt5 := newsBelow N1 hDs
    k_lt lt5
    clear F1 N1
    dsimp only
    k_steps
    rename Fr _ _ _ _ => F6
    rename News _ _ _ _ => N6
    have hysl : ys.length = its.length := by have := hi3.length; simpa using this
    refine kmk_add_lit (its := ys.toArray) F6 N6 ⟨_, (N6 _ (.tail _ (.head _))).1, rfl, _, rfl⟩ ⟨_, (N6 _ (.head _)).1, rfl, _, rfl⟩ rfl ?_ ?_
    · intro D3 h7 F7 N7 lt7
      k_lt lt7
      clear F6 N6
      dsimp only
      k_steps
      rename Fr _ _ _ _ => F8
      rename News _ _ _ _ => N8
      generalize hws : ys ++ (_ : List Value) = ws at N8
      have hwd : DatAll [] ws ((its ++ fixedItems).map Item.plain) := by
        subst hws
        rw [List.map_append]
        exact hi3.append fixed_dat
      have hok : ∀ it ∈ its ++ fixedItems, ItemOk it := fun it h => (List.mem_append.mp h).elim (hi2 it) (fixed_ok it)
      have hal : (its ++ fixedItems).length ≤ 7 := by rw [List.length_append]; show its.length + 5 ≤ 7; omega
      generalize its ++ fixedItems = all at hwd hok hal
      have hwl : ws.length = all.length := by have := hwd.length; simpa using this
      rw [eval_ListComp]
      refine wpAny_comprehension_free rfl (fun _ => rfl) rfl rfl (by decide) ?_
      dsimp only [firstIter]
      k_steps
      refine len_vs (vs := ws) ⟨_, (N8 _ (.head _)).1, rfl, _, rfl⟩ (by omega) ?_
      dsimp only
      k_steps
      rename Fr _ _ _ _ => F9
      rename News _ _ _ _ => N9
      rename IsRange _ _ _ _ _ _ _ _ => R9
      refine comp_range (n := ws.length) (fun i zs led => ∃ rows : List (List Nat), rows = (rowsFrom 0 all).take i ∧ DatAll led zs (rows.map intsDat)) rfl R9 rfl (by omega) (by decide) rfl rfl (frame_at F9) ⟨[], rfl, .nil⟩ ?_ ?_
      · intro i tv hi C zs hA tkA mA hC hCL SA hled hn hm
        have FA := Fr.comp F9 SA hC hn
        have NA := News.comp N9 SA hC
        refine wpAny_tests_nil ?_
        rw [if_pos rfl]
        iterate 7 (first | walk1 | (dsimp only; walk1))
        refine nm_local hn hm ?_ rfl rfl (by decide)
        (try dsimp only)
        have hia : i < all.length := by omega
        obtain ⟨v, hv, hvd⟩ := hwd.get (k := i) (by simpa using hia)
        have hvis : VIs v all[i] := vis_of (led := []) (by simpa using hvd)
        have hrow := rows_get all 0 i all[i] (by simp [hia])
        have hitok := hok _ (List.getElem_mem hia)
        refine at_list (vs := ws) ⟨_, (NA _ (.head _)).1, rfl, _, rfl⟩ (by omega) (by omega) (by simpa using hv) ?_
        (try dsimp only)
        iterate 4 (first | walk1 | (dsimp only; walk1))
        refine nm_local hn hm ?_ rfl rfl (by decide)
        (try dsimp only)
        iterate 4 (first | walk1 | (dsimp only; walk1))
        refine ⟨KX.keeps FA.keep, ?_⟩
        refine c_kept all[i] v i _ hvis hitok (KX.keeps FA.keep) (TT.keeps FA.keep) (by decide) (by decide) ?_
        intro hE tkE aE vsE nE stE frE haE hIE
        refine ⟨hE, tkE, [(aE, listOf vsE.toArray nE)], rfl, Stp.of stE, ?_, ?_⟩
        · intro p hp; rw [List.mem_singleton.mp hp]; exact ⟨haE, frE⟩
        · rintro led ⟨rows, rfl, hrd⟩
          rw [Nat.zero_add] at hrow
          refine ⟨_, rfl, ?_⟩
          rw [List.take_add_one, hrow, Option.toList_some, List.map_append]
          exact (hrd.mono fun p hp => .tail _ hp).append (.one (list_in (.head _) hIE))
      · refine done_none ?_
        intro D4 hB tkB zs kB led hDs hD hDL hDo SB l1 l2 hK
        obtain ⟨rows, rfl, hrd⟩ := hK
        have FB := Fr.stp F9 SB
        have NB := newsTail F9 N9 SB hD hDo l1
        have lt9 := newsBelow N9 hDs
        k_lt lt9
        have hfar := ledNe N9 l1
        simp only [List.forall_mem_cons, List.not_mem_nil, false_implies, implies_true, and_true] at hfar
        simp only [List.cons_append, List.nil_append] at NB
        obtain ⟨f1, f2, f3, f4, f5, f6, f7, f8, f9⟩ := hfar
        clear F9 N9
        dsimp only
        iterate 1 (first | walk1 | (dsimp only; walk1))
        k_steps
        rw [eval_ListComp]
        refine wpAny_comprehension_free rfl (fun _ => rfl) rfl rfl (by decide) ?_
        dsimp only [firstIter]
        k_steps
        rename Fr _ _ _ _ => FC
        rename News _ _ _ _ => NC
        have hrt : (rowsFrom 0 all).take ws.length = rowsFrom 0 all := by rw [hwl, ← rows_len all 0, List.take_length]
        rw [hrt] at hrd
        obtain ⟨rv, er1, er2, er3⟩ := rows_vals (h := _) (fun p hp => (NC p (by simp only [List.mem_cons]; exact .inr (.inr (.inr (.inr (.inr (.inr (.inr (.inr (.inr (.inr hp))))))))))).1) hrd
        rw [rows_flat] at er3
        have hol := encFrom_len all 0 hok
        have hrvl : rv.flatten.length = (encFrom 0 all).length := by have := er3.length; simpa using this
        refine comp_two (rows := rv) rfl ⟨_, (NC _ (.head _)).1, rfl, _, rfl⟩ (NC _ (.head _)).2.1 (Nat.le_trans (show rv.flatten.length ≤ 49 by omega) (by decide)) er1 (by decide) rfl rfl rfl (by decide) (by decide) (by decide) (fun _ _ => rfl) (frame_at FC) er2 ?_
        refine done_none ?_
        intro D5 hG tkG os kG led5 hDs5 hD5 hDL5 hDo5 SG l15 l25 hK5
        subst hK5
        have FG := Fr.stp FC SG
        have NG := newsAddS FC NC SG hD5 hDo5
        have lt5c := newsBelow NC hDs5
        k_lt lt5c
        clear FC NC
        dsimp only
        iterate 1 (first | walk1 | (dsimp only; walk1))
        k_steps
        have hzl : zs.length = all.length := by have := hrd.length; rw [List.length_map, rows_len] at this; exact this
        rw [eval_ListComp]
        refine wpAny_comprehension_free rfl (fun _ => rfl) rfl rfl (by decide) ?_
        dsimp only [firstIter]
        k_steps
        rename Fr _ _ _ _ => FH
        rename News _ _ _ _ => NH
        refine len_vs (vs := zs) ⟨_, (NH _ (.tail _ (.head _))).1, rfl, _, rfl⟩ (by omega) ?_
        dsimp only
        k_steps
        rename Fr _ _ _ _ => FI
        rename News _ _ _ _ => NI
        rename IsRange _ _ _ _ _ _ _ _ => RI
        refine comp_range (n := zs.length) (fun i us _ => ∃ ns : List Nat, ns = (List.range i).map (fun k => ((rowsFrom 0 all).take (k + 1)).flatten.length) ∧ IntsAre us (ns.map fun n : Nat => (n : Int))) rfl RI rfl (by omega) (by decide) rfl rfl (frame_at FI) ⟨[], rfl, .nil⟩ ?_ ?_
        · intro i tv hi C us hA tkA mA hC hCL SA hled hn hm
          have FA := Fr.comp FI SA hC hn
          have NA := News.comp NI SA hC
          refine wpAny_tests_nil ?_
          rw [if_pos rfl]
          k_steps
          rw [eval_ListComp]
          refine wpAny_comprehension_free rfl (fun _ => rfl) rfl rfl (by decide) ?_
          dsimp only [firstIter]
          iterate 10 (first | walk1 | (dsimp only; walk1))
          refine' slice_upto (vs := zs) (k := i + 1) ?q1 ?q2 ?q3 ?q4 ?q5 ?q6
          case q1 => exact ⟨_, (NA _ (.tail _ (.head _))).1, rfl, _, rfl⟩
          case q2 => omega
          case q3 => omega
          case q5 => with_unfolding_all rfl
          case q6 => intro _; with_unfolding_all rfl
          intro D6 hJ stJ frJ haJ
          have SJ := SA.trans (Stp.of stJ)
          have FJ := Fr.stp FI SJ
          have NJ := newsAddS FI NI SJ (SA.down frJ) haJ
          k_steps
          refine comp_list (fun j us2 _ => IntsAre us2 ((((rowsFrom 0 all).take j).map fun r => r.length).map fun n : Nat => (n : Int))) rfl ⟨_, haJ, rfl, _, rfl⟩ (NJ _ (.head _)).2.1 (Nat.le_trans (by rw [List.length_take]; omega) (show 7 ≤ sizeLine by decide)) (by decide) rfl rfl (frame_at FJ) .nil ?_ ?_
          · intro j v hv C2 us2 hM tkM mM hC2 hCL2 SM hled2 hn2 hm2
            have FM := Fr.comp FJ SM hC2 hn2
            have NM := News.comp NJ SM hC2
            refine wpAny_tests_nil ?_
            rw [if_pos rfl]
            obtain ⟨r, rvs, row, rfl, hrl, hrr, hlr⟩ := row_at (h := hM) (fun p hp => (NM p (by repeat (first | exact hp | apply List.Mem.tail))).1) hrd (take_get hv)
            have hrl7 : rvs.length ≤ 1000000 := by have := row_len hrr; rw [rows_flat] at this; omega
            k_steps
            refine len_vs (vs := rvs) hrl hrl7 ?_
            refine ⟨_, _, [], rfl, Stp.refl _ _, (fun _ h => nomatch h), ?_⟩
            intro led0 hK0
            exact lens_step hK0 hrr hlr
          · refine done_none ?_
            intro D7 hP tkP us2 kP ledP hDsP hDP hDLP hDoP SP l1P l2P hKP
            iterate 1 (first | walk1 | (dsimp only; walk1))
            refine sum_vs rfl ⟨_, hDoP, rfl, _, rfl⟩ hKP ?_
            intro hR tkR tR stR
            refine ⟨hR, tkR, [], rfl, ((Stp.of stJ).trans SP).trans (Stp.of stR), (fun _ h => nomatch h), ?_⟩
            rintro led0 ⟨ns, rfl, hns⟩
            refine ⟨_, rfl, ends_step hns ?_⟩
            rw [lens_sum, List.length_take, Nat.min_eq_left (by omega)]
        · refine done_none ?_
          intro D6 hJ tkJ us kJ led6 hDs6 hD6 hDL6 hDo6 SJ l16 l26 hK6
          obtain ⟨ns, hns1, hns⟩ := hK6
          have FJ := Fr.stp FI SJ
          have NJ := newsAddS FI NI SJ hD6 hDo6
          have lt6c := newsBelow NI hDs6
          k_lt lt6c
          clear FI NI
          dsimp only
          iterate 1 (first | walk1 | (dsimp only; walk1))
          k_steps
          rw [eval_ListComp]
          refine wpAny_comprehension_free rfl (fun _ => rfl) rfl rfl (by decide) ?_
          dsimp only [firstIter]
          k_steps
          rename Fr _ _ _ _ => FK
          rename News _ _ _ _ => NK
          refine comp_list (fun i qs led => DatAll led qs ((all.take i).map Item.dat)) rfl ⟨_, (NK _ (.tail _ (.tail _ (.tail _ (.head _))))).1, rfl, _, rfl⟩ (NK _ (.tail _ (.tail _ (.tail _ (.head _))))).2.1 (Nat.le_trans (show ws.length ≤ 7 by omega) (by decide)) (by decide) rfl rfl (frame_at FK) .nil ?_ ?_
          · intro i v hv C qs hA tkA mA hC hCL SA hled hn hm
            have FA := Fr.comp FK SA hC hn
            have NA := News.comp NK SA hC
            have hia : i < all.length := by have := (List.getElem?_eq_some_iff.mp hv).1; omega
            have hvis : VIs v all[i] := by
              obtain ⟨v', hv', hvd⟩ := hwd.get (k := i) (by simpa using hia)
              rw [hv] at hv'; cases hv'
              exact vis_of (led := []) (by simpa using hvd)
            have hai : all[i]? = some all[i] := by simp [hia]
            generalize all[i] = it at hvis hai
            refine wpAny_tests_nil ?_
            rw [if_pos rfl]
            cases it with
            | port p =>
              obtain ⟨tp, rfl⟩ := hvis
              iterate 20 (first | walk1 | (dsimp only; walk1))
              refine wpAny_newTuple ?_ (show 2 ≤ sizeLine by decide)
              refine ⟨_, _, [(hA.objs.size, { cls := .type "tuple", data := .seq [Value.str (Str.ofString "host") tkA, Value.int ((p : Nat) : Int) tp].toArray })], rfl, Stp.of (fun b o e => Heap.get?_push_of_some _ e), ?_, ?_⟩
              · intro q hq
                rw [List.mem_singleton.mp hq]
                exact ⟨Heap.get?_push_size _ rfl, freshSz _⟩
              · intro led0 hK0
                exact dats_step hK0 hai (.tuple (.head _) (.cons (.str _ _) (.cons (.int _ _) .nil)))
            | name cs =>
              obtain ⟨tp, rfl⟩ := hvis
              iterate 15 (first | walk1 | (dsimp only; walk1))
              refine ⟨_, _, [], rfl, Stp.refl _ _, (fun _ h => nomatch h), ?_⟩
              intro led0 hK0
              exact dats_step hK0 hai (.str _ _)
          · refine done_none ?_
            intro D7 hL7 tkL qs kL led7 hDs7 hD7 hDL7 hDo7 SL l17 l27 hK7
            have FL := Fr.stp FK SL
            have NL := newsTail FK NK SL hD7 hDo7 l17
            have lt7c := newsBelow NK hDs7
            k_lt lt7c
            have hfar7 := ledNe NK l17
            simp only [List.forall_mem_cons] at hfar7
            simp only [List.cons_append, List.nil_append] at NL
            obtain ⟨g1, g2, g3, g4, g5, g6, g7, g8, g9, g10, g11, g12, -⟩ := hfar7
            have e5 := far_app f5 g8
            have e6 := far_app f6 g9
            have e7 := far_app f7 g10
            have e8 := far_app f8 g11
            have e9 := far_app f9 g12
            clear f1 f2 f3 f4 f5 f6 f7 f8 f9 g1 g2 g3 g4 g5 g6 g7 g8 g9 g10 g11 g12
            have hrd2 := hrd.mono (news' := led ++ led7) fun p hp => List.mem_append_left _ hp
            have hqd := hK7.mono (news' := led ++ led7) fun p hp => List.mem_append_right _ hp
            rw [hwl, List.take_length] at hqd
            clear hrd hK7 FK NK
            generalize hLT : led ++ led7 = ledT at NL e5 e6 e7 e8 e9 hrd2 hqd
            dsimp only
            iterate 3 (first | walk1 | (dsimp only; walk1))
            refine assign_used rfl rfl rfl (by decide) (fun _ => rfl) ?_
            k_steps
            rename Fr _ _ _ _ => FN
            rename News _ _ _ _ => NN
            refine len_vs (vs := rv.flatten) ⟨_, (NN _ (.tail _ (.tail _ (.head _)))).1, rfl, _, rfl⟩ (by omega) ?_
            dsimp only
            k_steps
            rename Fr _ _ _ _ => FO
            rename News _ _ _ _ => NO
            rename IsRange _ _ _ _ _ _ _ _ => RO
            refine comp_range (n := rv.flatten.length + 1) (fun i vs led => DatAll led vs ((List.range i).map fun c => Dat.list ((tellFrom 0 c all).map Item.dat))) rfl RO (by omega) (by omega) (by decide) rfl rfl (frame_at FO) .nil ?_ ?_
            · intro i tv hi C vs hA tkA mA hC hCL SA hled hn hm
              have FA := Fr.comp FO SA hC hn
              have NA := News.comp NO SA hC
              refine wpAny_tests_nil ?_
              rw [if_pos rfl]
              iterate 12 (first | walk1 | (dsimp only; walk1))
              refine' slice_upto (vs := rv.flatten) (k := i) ?qq1 ?qq2 ?qq3 ?qq4 ?qq5 ?qq6
              case qq1 => exact ⟨_, (NA _ (.tail _ (.tail _ (.head _)))).1, rfl, _, rfl⟩
              case qq2 => rfl
              case qq3 => omega
              case qq5 => with_unfolding_all rfl
              case qq6 => intro _; with_unfolding_all rfl
              intro D8 hJ8 stJ8 frJ8 haJ8
              have SJ8 := SA.trans (Stp.of stJ8)
              have FJ8 := Fr.stp FO SJ8
              iterate 1 (first | walk1 | (dsimp only; walk1))
              refine ⟨KX.keeps FJ8.keep, ?_⟩
              refine c_heard ((encFrom 0 all).take i) (tellFrom 0 i all) (heard_at hok i) (fun b hb => encFrom_lt all 0 b (List.mem_of_mem_take hb)) (by rw [List.length_take]; omega) (KX.keeps FJ8.keep) (TT.keeps FJ8.keep) (by decide) (by decide) rfl rfl (below_law FJ8 rfl rfl) KX TT (dicts_law FJ8 rfl) ⟨_, haJ8, rfl, _, rfl⟩ (by rw [List.map_take]; exact er3.take i) ?_
              intro hQ tkQ aQ valsQ nQ ledQ kQ sQ lQ mQ dQ
              refine ⟨hQ, tkQ, ledQ, rfl, (Stp.of stJ8).trans ⟨kQ, sQ⟩, ?_, ?_⟩
              · intro p hp
                exact ⟨(lQ p hp).1, (Stp.of (L := 0) stJ8).down (lQ p hp).2⟩
              · intro led0 hK0
                exact told_step hK0 mQ dQ rfl
            · refine done_some rfl FO.ns rfl rfl ?_
              intro D8 hP tkP vs kP led8 hDs8 hD8 hDL8 hDo8 nsP kpP l18 l28 hK8
              have FP := Fr.turnB FO nsP kpP
              have NP := newsTailB FO NO kpP hD8 hDo8 l18
              have lt8c := newsBelow NO hDs8
              k_lt lt8c
              have hfar8 := ledNe NO l18
              simp only [List.forall_mem_cons] at hfar8
              simp only [List.cons_append] at NP
              obtain ⟨g1, g2, g3, g4, g5, g6, g7, g8, g9, g10, g11, g12, g13, -⟩ := hfar8
              have j5 := far_app e5 g9
              have j6 := far_app e6 g10
              have j7 := far_app e7 g11
              have j8 := far_app e8 g12
              have j9 := far_app e9 g13
              clear e5 e6 e7 e8 e9 g1 g2 g3 g4 g5 g6 g7 g8 g9 g10 g11 g12 g13
              have hqd2 := hqd.mono (news' := ledT ++ led8) fun p hp => List.mem_append_left _ hp
              have hvd := hK8.mono (news' := ledT ++ led8) fun p hp => List.mem_append_right _ hp
              clear hqd hK8 hrd2 FO NO
              generalize hLU : ledT ++ led8 = ledU at NP j5 j6 j7 j8 j9 hqd2 hvd
              dsimp only
              k_steps
              rw [eval_ListComp]
              refine wpAny_comprehension_free rfl (fun _ => rfl) rfl rfl (by decide) ?_
              dsimp only [firstIter]
              k_steps
              refine len_vs (vs := rv.flatten) ⟨_, (NP _ (.tail _ (.tail _ (.tail _ (.head _))))).1, rfl, _, rfl⟩ (by omega) ?_
              dsimp only
              k_steps
              rename Fr _ _ _ _ => FR
              rename News _ _ _ _ => NR
              rename IsRange _ _ _ _ _ _ _ _ => RR
              refine comp_cell (n := rv.flatten.length + 1) (fun i bs led => DatAll (led ++ ledU) bs ((List.range i).map fun c => Dat.list ((selFrom 0 all c all.length).map Item.dat))) rfl RR (by omega) (by omega) (fun _ => rfl) (fun _ => rfl) rfl (fun _ _ => rfl) (frame_at FR) .nil ?_ ?_
              · intro i tv hi C c bs hA tkA mA hC hc hCL hcL SA hn hcell
                have FA := Fr.comp FR SA hC hn
                have NA := News.comp NR SA hC
                rw [eval_ListComp]
                refine wpAny_comprehension_free rfl (fun _ => rfl) rfl rfl (by decide) ?_
                dsimp only [firstIter]
                k_steps
                refine len_vs (vs := ws) ⟨_, (NA _ (.tail _ (.tail _ (.tail _ (.tail _ (.tail _ (.head _))))))).1, rfl, _, rfl⟩ (by omega) ?_
                dsimp only
                k_steps
                rename_i kpS
                have SS := SA.trans (Stp.of kpS)
                have FS := Fr.stp FR SS
                have NS := News.stp NR SS
                rename IsRange _ _ _ _ _ _ _ _ => RS
                refine comp_range (n := ws.length) (fun j ps _ => DatAll ledU ps ((selFrom 0 all i j).map Item.dat)) rfl RS rfl (by omega) (by decide) rfl rfl (frame_at FS) .nil ?_ ?_
                · intro j tj hj C2 ps hB2 tkB2 mB2 hC2 hCL2 SB2 hled2 hn2 hm2
                  have FB2 := Fr.comp FS SB2 hC2 hn2
                  have NB2 := News.comp NS SB2 hC2
                  refine wpAny_tests_one ?_
                  iterate 3 (first | walk1 | (dsimp only; walk1))
                  refine nm_local hn2 hm2 ?_ rfl rfl (by decide)
                  (try dsimp only)
                  obtain ⟨te, hte⟩ := ends_at (j := j) (hns1 ▸ hns) (by omega)
                  have hte' : us[((j : Nat) : Int).toNat]? = some (.int ((endFrom 0 all j : Nat) : Int) te) := by rw [Int.toNat_natCast]; exact hte
                  refine at_list (vs := us) ⟨_, (NB2 _ (.tail _ (.tail _ (.head _)))).1, rfl, _, rfl⟩ (by omega) (by omega) hte' ?_
                  (try dsimp only)
                  have hcellB : hB2.IsCell c (some (.int ((i : Nat) : Int) tv)) := by
                    obtain ⟨o, ho, hd⟩ := hcell
                    exact ⟨o, SB2.keep _ _ hcL (kpS _ _ ho), hd⟩
                  refine nm_cell hcellB ?_ rfl rfl rfl (by decide)
                  (try dsimp only)
                  iterate 2 (first | walk1 | (dsimp only; walk1))
                  have hja : j < all.length := by omega
                  obtain ⟨vq, hvq, hvqd⟩ := hqd2.get (k := j) (by simpa using hja)
                  have haj : all[j]? = some all[j] := by simp [hja]
                  have hvqd' : DatIn ledU vq all[j].dat := by simpa using hvqd
                  have hvq' : qs[((j : Nat) : Int).toNat]? = some vq := by rw [Int.toNat_natCast]; exact hvq
                  by_cases hce : endFrom 0 all j ≤ i
                  · rw [if_pos (decide_eq_true (Int.ofNat_le.mpr hce))]
                    iterate 2 (first | walk1 | (dsimp only; walk1))
                    refine nm_local hn2 hm2 ?_ rfl rfl (by decide)
                    (try dsimp only)
                    refine at_list (vs := qs) ⟨_, (NB2 _ (.tail _ (.head _))).1, rfl, _, rfl⟩ (by omega) (by omega) hvq' ?_
                    refine ⟨_, _, [], rfl, Stp.refl _ _, (fun _ h => nomatch h), ?_⟩
                    intro led0 hK0
                    exact sel_yes hK0 hce haj hvqd'
                  · rw [if_neg (fun h => hce (Int.ofNat_le.mp (of_decide_eq_true h)))]
                    refine ⟨_, _, rfl, Stp.refl _ _, ?_⟩
                    intro led0 hK0
                    exact sel_no hK0 hce
                · refine done_none ?_
                  intro D10 hX tkX ps kX led10 hDs10 hD10 hDL10 hDo10 SX l110 l210 hK10
                  refine ⟨hX, tkX, [(D10, listOf ps.toArray kX)], rfl, (Stp.of kpS).trans SX, ?_, ?_⟩
                  · intro p hp
                    rw [List.mem_singleton.mp hp]
                    exact ⟨hDo10, (Stp.of (L := 0) kpS).down hD10⟩
                  · intro led0 hK0
                    rw [hwl] at hK10
                    exact last_step hK0 hK10
              · refine done_none ?_
                intro D9 hX tkX bs kX led9 hDs9 hD9 hDL9 hDo9 SX l19 l29 hK9
                have FX := Fr.stp FR SX
                have NX := newsTail FR NR SX hD9 hDo9 l19
                refine eq_told NX (List.mem_cons_of_mem _ (List.mem_append_left _ (.head _))) hvd ?_ (.head _) hK9 ?_ hok (Nat.le_of_ble_eq_true rfl) ?_
                · intro p hp
                  refine List.mem_cons_of_mem _ (List.mem_append_left _ ?_)
                  repeat (first | exact hp | apply List.Mem.tail)
                · intro p hp
                  refine List.mem_cons_of_mem _ ?_
                  rcases List.mem_append.mp hp with hp | hp
                  · exact List.mem_append_right _ hp
                  · refine List.mem_append_left _ ?_
                    repeat (first | exact hp | apply List.Mem.tail)
                k_steps
    · refine Nat.le_trans (show ys.length + 5 ≤ 7 by omega) (by decide))
end Mine
end

theorem PySem.Challenge.cw_ny0030_01_holds : PySem.Challenge.rw_ny0030_01.Holds := by
  exact Mine.lawx
