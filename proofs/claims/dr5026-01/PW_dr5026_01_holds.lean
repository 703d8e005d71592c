import PyProof.Rows.All
import Wide.All
import OpenK.AllK
import Wide.FinOn
import PyProof.FactsAll.zip_0
import KE.KSortTup
import Lean
import PySem.Challenge.RW_dr5026_01
set_option Elab.async false
section
open PySem PySem.W PyProof.Rows
set_option maxRecDepth 100000
set_option maxHeartbeats 8000000
namespace Mine
open_top hd for PySem.Challenge.rw_dr5026_01
end Mine
end
section
open PySem PySem.W PyProof.Rows
set_option maxRecDepth 100000
set_option maxHeartbeats 4000000
namespace Mine

/-- strs as a list of values -/
def StrsAre : List Value → List Str → Prop
  | [], [] => True
  | v :: vs, x :: xs => (∃ t, v = .str x t) ∧ StrsAre vs xs
  | _, _ => False

theorem StrsAre.length : ∀ {vs : List Value} {xs : List Str}, StrsAre vs xs → vs.length = xs.length
  | [], [], _ => rfl
  | _ :: _, _ :: _, h => by simp [StrsAre.length h.2]
  | [], _ :: _, h => h.elim
  | _ :: _, [], h => h.elim

theorem StrsAre.get : ∀ {vs : List Value} {xs : List Str}, StrsAre vs xs → ∀ (i : Nat) (v : Value), vs[i]? = some v → ∃ x t, xs[i]? = some x ∧ v = .str x t
  | [], [], _, i, v, h => by simp at h
  | v0 :: _, x0 :: _, ⟨⟨t, e⟩, _⟩, 0, v, h => by
    simp at h; subst h; exact ⟨x0, t, by simp, e⟩
  | v0 :: _, x0 :: _, ⟨_, r⟩, i + 1, v, h => by
    simp only [List.getElem?_cons_succ] at h ⊢
    exact StrsAre.get r i v h
  | [], _ :: _, h, _, _, _ => h.elim
  | _ :: _, [], h, _, _, _ => h.elim

theorem StrsAre.snoc : ∀ {vs : List Value} {xs : List Str} {x : Str} {t : Tok}, StrsAre vs xs → StrsAre (vs ++ [.str x t]) (xs ++ [x])
  | [], [], x, t, _ => ⟨⟨t, rfl⟩, trivial⟩
  | _ :: _, _ :: _, x, t, h => ⟨h.1, StrsAre.snoc h.2⟩
  | [], _ :: _, _, _, h => h.elim
  | _ :: _, [], _, _, h => h.elim

theorem StrsAre.one {x : Str} {t : Tok} : StrsAre [.str x t] [x] := ⟨⟨t, rfl⟩, trivial⟩
theorem StrsAre.two {x y : Str} {t u : Tok} : StrsAre [.str x t, .str y u] [x, y] := ⟨⟨t, rfl⟩, ⟨u, rfl⟩, trivial⟩

def dstep (l : List Str) (k : Str) : List Str := if l.any (· == k) then l else l ++ [k]
def dedup (xs : List Str) : List Str := xs.foldl dstep []

theorem dstep_any (l : List Str) (v k : Str) : (dstep l v).any (· == k) = (l.any (· == k) || decide (k = v)) := by
  unfold dstep
  by_cases h : l.any (· == v) = true
  · rw [if_pos h]
    by_cases e : k = v
    · subst e; rw [h]; simp
    · simp [e]
  · rw [if_neg h, List.any_append]
    by_cases e : k = v
    · subst e; simp
    · have hb : (v == k) = false := by simpa [beq_iff_eq] using (fun h' : v = k => e h'.symm)
      simp [hb, e]
theorem dstep_length (l : List Str) (v : Str) : (dstep l v).length = if l.any (· == v) then l.length else l.length + 1 := by
  unfold dstep; split <;> simp

theorem foldl_dstep_le : ∀ (xs l : List Str), (xs.foldl dstep l).length ≤ l.length + xs.length
  | [], l => by simp
  | x :: xs, l => by
    have h := foldl_dstep_le xs (dstep l x)
    have h2 : (dstep l x).length ≤ l.length + 1 := by rw [dstep_length]; split <;> omega
    simp only [List.foldl_cons, List.length_cons]; omega

theorem setOf_cong {prog : Program} {w : World} {h : Heap} {a : Addr} {S S' : Str → Bool} {n n' : Nat} (x : h.SetOf (strKind prog w) a S n) (e : ∀ k, S k = S' k) (en : n = n') : h.SetOf (strKind prog w) a S' n' := by
  have : S = S' := funext e
  subst this; subst en; exact x

section
variable {prog : Program} {w : World} {A : Around} {E : Value → Shared → Prop} {s : Shared}

theorem strKind_is' (x : Str) (t : Tok) : (strKind prog w).is x (.str x t) = true := strKind_is prog w x t

/-- the loop of set.update over an iterator of strs -/
theorem set_loop_strs {R : Result → Shared → Prop} {I : Addr} {fp wr : List Addr} {G : Array GenState → Array GenState → Prop} {P : Nat → Value → Prop} {St : Nat → Shared → Prop} (xs : List Str)
    (W : WalksS prog w A.in1 I fp wr G xs.length P St) (S : Addr) (hSf : S ∉ fp)
    (hval : ∀ i v, P i v → ∃ x t, xs[i]? = some x ∧ v = .str x t) (hb : xs.length + 1 < scanBound) :
    ∀ (k i : Nat) (s : Shared), xs.length - i = k → i ≤ xs.length → St i s →
      s.heap.SetOf (strKind prog w) S (fun k' => (dedup (xs.take i)).any (· == k')) (dedup (xs.take i)).length →
      (∀ s', Moved (S :: wr) G s s' → s'.heap.SetOf (strKind prog w) S (fun k' => (dedup xs).any (· == k')) (dedup xs).length → R (.ok (.ret .none)) s') →
      codeAny (model prog w) A (.builtin "set.update.loop" ⟨[.ref S, .ref I], []⟩) R s := by
  have hSw : S ∉ wr := fun h => hSf (W.sub _ h)
  have hsub : ∀ b ∈ wr, b ∈ S :: wr := fun b hb => List.mem_cons_of_mem _ hb
  have keepS : ∀ {s s' : Shared} {X : Str → Bool} {n : Nat}, Moved wr G s s' → s.heap.SetOf (strKind prog w) S X n → s'.heap.SetOf (strKind prog w) S X n := by
    intro s s' X n hm hS
    obtain ⟨o, es, ep, t, ho, rest⟩ := hS
    exact ⟨o, es, ep, t, hm.heap S _ hSw ho, rest⟩
  intro k
  induction k with
  | zero =>
    intro i s hk hi hst hS hR
    have hin : i = xs.length := by omega
    subst hin
    rw [List.take_length] at hS
    refine codeAny_builtin PyProof.Rows.F.entry_set_update_loop ?_
    rw [Around.under_plainId PyProof.Rows.F.plain_set_update_loop _]
    show wpAny _ A.in1 (pyNext (.ref I) >>= _) _ _ s
    refine wpAny_bind (W.done s _ _ hst fun s' hm => ?_)
    show wpAny _ A.in1 (ret Value.none) _ _ s'
    exact wpAny_pure (hR s' (hm.mono hsub) (keepS hm hS))
  | succ k ih =>
    intro i s hk hi hst hS hR
    have hlt : i < xs.length := by omega
    refine codeAny_builtin PyProof.Rows.F.entry_set_update_loop ?_
    rw [Around.under_plainId PyProof.Rows.F.plain_set_update_loop _]
    show wpAny _ A.in1 (pyNext (.ref I) >>= _) _ _ s
    refine wpAny_bind (W.item i s _ _ hlt hst fun v s' hP hst' hm => ?_)
    obtain ⟨x, t, hx, rfl⟩ := hval i v hP
    have hS' := keepS hm hS
    show wpAny _ A.in1 (holding [Value.str x t] (setAdd S (.str x t)) >>= _) _ _ s'
    refine wpAny_bind (wpAny_holding ?_)
    unfold setAdd
    refine wpAny_holding ?_
    refine wpAny_bind ((strKind prog w).pyHash (k := x) (strKind_is prog w x t) ?_)
    have hroom : (dedup (xs.take i)).length + 1 < scanBound := by
      have h1 := foldl_dstep_le (xs.take i) []
      have h2 : (dedup (xs.take i)).length ≤ (xs.take i).length := by simpa [dedup] using h1
      have h3 : (xs.take i).length ≤ xs.length := by rw [List.length_take]; omega
      omega
    refine wpAny_setAddHashed_of (knd := strKind prog w) (s := { s' with toks := s'.toks + 1 }) (strKind_is prog w x t) rfl hS' hroom fun h' hsb hS2 => ?_
    have hd : dedup (xs.take (i + 1)) = dstep (dedup (xs.take i)) x := by
      unfold dedup
      rw [List.take_add_one, hx, List.foldl_append]; rfl
    have hSi : h'.SetOf (strKind prog w) S (fun k' => (dedup (xs.take (i + 1))).any (· == k')) (dedup (xs.take (i + 1))).length :=
      setOf_cong hS2 (fun k' => by rw [hd, dstep_any]) (by rw [hd, dstep_length])
    refine wpAny_pure ⟨plainId_quiet PyProof.Rows.F.plain_set_update_loop _, ih (i + 1) _ (by omega) hlt (W.frame _ s' _ _ hst' (Nat.le_succ _) fun b hb o e => ?_) hSi fun s'' hm'' hS'' => ?_⟩
    · rw [hsb.2 b (fun h : b = S => hSf (by rw [← h]; exact hb))]; exact e
    · refine hR s'' (Moved.trans W.gtrans ((hm.mono hsub).then_heap (Nat.le_succ _) fun b o hb e => ?_) hm'') hS''
      rw [hsb.2 b (fun h : b = S => hb (by rw [h]; exact List.mem_cons_self))]; exact e
end

theorem sub_tuple_set : isSubtype (.type "tuple") (.type "set") = pure false := by rw [isSubtype_type]; kernel_rfl
theorem sub_tuple_frozenset : isSubtype (.type "tuple") (.type "frozenset") = pure false := by rw [isSubtype_type]; kernel_rfl

section
variable {prog : Program} {w : World} {A : Around} {E : Value → Shared → Prop} {s : Shared}

theorem call_set_tup {l : Addr} {items : Array Value} {xs : List Str} {Q : Value → Shared → Prop}
    (hh : A.handled = none) (hl : s.heap.IsTuple l items) (hi : StrsAre items.toList xs) (hb : xs.length + 1 < scanBound)
    (h : ∀ (h' : Heap) (tk : Nat), h'.SetOf (strKind prog w) s.heap.objs.size (fun k' => (dedup xs).any (· == k')) (dedup xs).length →
      (∀ b o, b < s.heap.objs.size → s.heap.get? b = some o → h'.get? b = some o) → Q (.ref s.heap.objs.size) { s with heap := h', toks := tk }) :
    wpAny (model prog w) A (call (.type "set") [.ref l]) Q E s := by
  have hlen : items.size = xs.length := by have := hi.length; simpa using this
  obtain ⟨c, tl, hmro⟩ := PySem.F.called_set.mro
  have hmade := PySem.F.called_set.made
  have hsub := PySem.F.called_set.sub
  refine wpAny_call (codeAny_of_tree ?_)
  show wpAny _ _ (callAny (.type "set") _) _ _ _
  refine wpAny_pure ⟨Code.quiet_builtin _ (by decide +kernel), codeAny_builtin PySem.F.entry_type_call ?_⟩
  rw [Around.under_plain (weight_type_call_type "set" [.ref l] []) rfl]
  have h1 := PySem.F.called_set.notType
  have h2 := PySem.F.called_set.canCreate
  have hct := PySem.F.typeCall_set_1 (.ref l)
  repeat (any_goals (first | assumption | wp_step))
  refine codeAny_mono (code_set_new_1 (.ref l) (E := E) (Q₁ := fun obj s₁ => ∃ led : Bool, obj = .ref s.heap.objs.size ∧ s₁ = { s with heap := s.heap.push { cls := .type "set", dict := none, data := .set #[] 0 (.fresh 0 0 led) } }) fun led => ⟨led, rfl, rfl⟩) fun r s₁ hr => ?_
  cases r with
  | error e => exact hr
  | ok fl =>
    cases fl with
    | ret obj =>
      obtain ⟨led, rfl, rfl⟩ := hr
      have hS : (s.heap.push { cls := .type "set", dict := none, data := .set #[] 0 (.fresh 0 0 led) }).get? s.heap.objs.size = some { cls := .type "set", dict := none, data := .set #[] 0 (.fresh 0 0 led) } := Heap.get?_push_size _ rfl
      have hT : Shared.TypeIs { s with heap := s.heap.push { cls := .type "set", dict := none, data := .set #[] 0 (.fresh 0 0 led) } } (.ref s.heap.objs.size) "set" := ⟨_, hS, rfl⟩
      have hli := PySem.F.called_set.init.lookup
      have hbi := PySem.F.called_set.init.bind (.ref s.heap.objs.size)
      repeat (any_goals (first | assumption | wp_step))
      refine codeAny_mono (codeAny_call_builtin (R := wants (fun r s₂ => r = .none ∧ ∃ h' tk, s₂ = { s with heap := h', toks := tk } ∧
          h'.SetOf (strKind prog w) s.heap.objs.size (fun k' => (dedup xs).any (· == k')) (dedup xs).length ∧
          (∀ b o, b < s.heap.objs.size → s.heap.get? b = some o → h'.get? b = some o)) E) PySem.F.called_set.init.plain F.entry_set_init (check_set_init_1 hT ?_)) fun r₂ s₂ hr₂ => ?_
      · obtain ⟨ol, hol, hcl, nl, hdl⟩ := hl
        obtain ⟨ocls, odict, odata, oslots⟩ := ol
        simp only at hcl hdl
        subst hcl; subst hdl
        have hol' : (s.heap.push { cls := .type "set", dict := none, data := .set #[] 0 (.fresh 0 0 led) }).get? l = some { cls := .type "tuple", dict := odict, data := .seq items nl, slots := oslots } := Heap.get?_push_of_some _ hol
        have hsls := sub_tuple_set
        have hslf := sub_tuple_frozenset
        have hne : (Value.type "tuple" == Value.type "dict") = false := by decide
        have hl1 : (s.heap.push { cls := .type "set", dict := none, data := .set #[] 0 (.fresh 0 0 led) }).IsTuple l items := ⟨_, hol', rfl, nl, rfl⟩
        unfold Builtin.«set.__init__» noKeywords Builtin.Frozenset.updateFrom
        generalize hPI : pyIter = PI
        wp_walk
        subst hPI
        refine wpAny_pyIter_tuple hl1 ?_
        refine wpAny_bind (wpAny_runValue ?_)
        have hlS : l < s.heap.objs.size := Heap.lt_size hol
        have hh3 : A.in1.in1.in1.handled = none := by simp [hh]
        have hneI : l ≠ (s.heap.push { cls := .type "set", dict := none, data := .set #[] 0 (.fresh 0 0 led) }).objs.size := by
          rw [Heap.size_push]; exact Nat.ne_of_lt (Nat.lt_succ_of_lt hlS)
        have hSf : s.heap.objs.size ∉ [(s.heap.push { cls := .type "set", dict := none, data := .set #[] 0 (.fresh 0 0 led) }).objs.size, l] := by
          rw [Heap.size_push]; simp only [List.mem_cons, List.not_mem_nil, or_false, not_or]
          exact ⟨Nat.ne_of_lt (Nat.lt_succ_self _), Nat.ne_of_gt hlS⟩
        have hval : ∀ (i : Nat) (v : Value), items[i]? = some v → ∃ x t, xs[i]? = some x ∧ v = .str x t := fun i v hv =>
          hi.get i v (by rw [Array.getElem?_toList]; exact hv)
        have W0 := (Walks.tuple (prog := prog) (w := w) hh3 (s.heap.push { cls := .type "set", dict := none, data := .set #[] 0 (.fresh 0 0 led) }).objs.size l hneI items).toS
        rw [hlen] at W0
        refine set_loop_strs xs W0 s.heap.objs.size
          hSf hval hb (xs.length - 0) 0 _ (by omega) (Nat.zero_le _)
          ⟨⟨_, Heap.get?_push_size _ rfl, rfl, rfl⟩, (hl1.at fun o e => Heap.get?_push_of_some _ e)⟩ ?hS0 ?hR
        case hS0 =>
          have hget : ((s.heap.push { cls := .type "set", dict := none, data := .set #[] 0 (.fresh 0 0 led) }).push { cls := .type "tuple_iterator", data := .fields #[.ref l, .int 0 0] }).get? s.heap.objs.size
              = some { cls := .type "set", dict := none, data := .set #[] 0 (.fresh 0 0 led) } := Heap.get?_push_of_some _ hS
          exact setOf_cong ((PyProof.Rows.setObjOf_fresh (knd := strKind prog w) led).setOf hget (by unfold scanBound; omega)) (fun _ => rfl) rfl
        case hR =>
          intro s' hm hS'
          obtain ⟨h', g', d', tk', os'⟩ := s'
          have eg : g' = s.gens := hm.gens
          have ed : d' = s.drawn := hm.drawn
          have eo : os' = s.os := hm.os
          subst eg; subst ed; subst eo
          show wpAny _ _ _ _ _ _
          refine wpAny_pure ?_
          show wpAny _ _ (ret Value.none) _ _ _
          refine wpAny_pure ⟨rfl, h', tk', rfl, hS', fun b o hb e => ?_⟩
          have hb1 : b ≠ s.heap.objs.size := Nat.ne_of_lt hb
          have hb2 : b ≠ (s.heap.push { cls := .type "set", dict := none, data := .set #[] 0 (.fresh 0 0 led) }).objs.size := by
            rw [Heap.size_push]; exact Nat.ne_of_lt (Nat.lt_succ_of_lt hb)
          exact hm.heap b o (by simp only [List.mem_cons, List.not_mem_nil, or_false, not_or]; exact ⟨hb1, hb2⟩) (Heap.get?_push_of_some _ (Heap.get?_push_of_some _ e))
      · cases r₂ with
        | error e => exact hr₂
        | ok fl₂ =>
          cases fl₂ with
          | ret r =>
            obtain ⟨rfl, h', tk, rfl, hS', hk'⟩ := hr₂
            repeat (any_goals (first | assumption | wp_step))
            exact h _ _ hS' hk'
          | _ => exact hr₂.elim
    | _ => exact hr.elim

theorem set_tup_N {h₀ : Heap} {L l : Addr} {m : Str → Option Value} {news : List (Addr × Obj)} {vs : List Value} {n : Nat} {xs : List Str} {Q : Value → Shared → Prop} (F : Fr h₀ L s.heap m) (N : News h₀ L s.heap news)
    (hh : A.handled = none) (hl : (l, ({ cls := .type "tuple", data := .seq vs.toArray n } : Obj)) ∈ news) (hi : StrsAre vs xs) (hb : xs.length + 1 < scanBound)
    (h : ∀ D h' (tk : Nat) o, Fr h₀ L h' m → News h₀ L h' ((D, o) :: news) →
      o.SetObjOf (strKind prog w) (fun k' => (dedup xs).any (· == k')) (dedup xs).length → ((((dedup xs).length : Nat) : Int) < 2 ^ 63) → Q (.ref D) { s with heap := h', toks := tk }) :
    wpAny (model prog w) A (call (.type "set") [.ref l]) Q E s := by
  refine call_set_tup (items := vs.toArray) (xs := xs) hh ⟨_, (N _ hl).1, rfl, n, rfl⟩ (by simpa using hi) hb fun h' tk hS hk => ?_
  obtain ⟨o, ho, hso⟩ := hS.objOf
  obtain ⟨oL, _, _, hL, _⟩ := F.ns
  have hLlt : L < s.heap.objs.size := Heap.lt_size hL
  have hle := foldl_dstep_le xs []
  have hfit : ((((dedup xs).length : Nat) : Int) < 2 ^ 63) := by
    have h1 : (dedup xs).length ≤ xs.length := by simpa [dedup] using hle
    unfold scanBound at hb
    have h4 : (((dedup xs).length : Nat) : Int) < 4096 := by omega
    exact Int.lt_of_lt_of_le h4 (by decide)
  refine h s.heap.objs.size h' tk o ⟨F.ns.at' fun o' e => hk L o' hLlt e, fun b o' e => hk b o' (Heap.lt_size (F.keep b o' e)) (F.keep b o' e), F.above⟩ (fun p hp => ?_) hso hfit
  rcases List.mem_cons.mp hp with rfl | hp
  · refine ⟨ho, Nat.ne_of_gt hLlt, ?_⟩
    cases hq : h₀.get? s.heap.objs.size with
    | none => rfl
    | some o' => exact absurd (Heap.lt_size (F.keep _ _ hq)) (Nat.lt_irrefl _)
  · exact ⟨hk _ _ (Heap.lt_size (N p hp).1) (N p hp).1, (N p hp).2.1, (N p hp).2.2⟩

theorem len_set_N {h₀ : Heap} {L sa : Addr} {so : Obj} {S : Str → Bool} {n : Nat} {news : List (Addr × Obj)} {Q : Value → Shared → Prop} (N : News h₀ L s.heap news) (hm : (sa, so) ∈ news) (hso : so.SetObjOf (strKind prog w) S n) (hfit : (n : Int) < 2 ^ 63)
    (h : Q (.int n (s.toks + 1)) { s with toks := s.toks + 1 + 1 }) : wpAny (model prog w) A (call (.builtin "len") [.ref sa]) Q E s := by
  obtain ⟨hex, es, ep, t, hd, _, _, hn, hf⟩ := hso
  subst hn
  exact call_len_set (N _ hm).1 hex hd hf hfit h
end
end Mine
end
section
open PySem PySem.W PyProof.Rows PySem.Calls
set_option maxRecDepth 100000
set_option maxHeartbeats 4000000
namespace Mine

section
variable {prog : Program} {w : World} {A : Around} {E : Value → Shared → Prop} {s : Shared} {K : Frag} {h₀ : Heap} {L x C : Addr} {ox : Obj} {m : Str → Option Value} {es : List DictEntry} {n : Nat} {name : Str}

theorem findObj_sm {a g : Value} (hh : hasDictIn K C = true) (ha : findIn K (.ref C) name = some (some a)) (hg : specialIn K a "__get__" = some (some g)) (ht : takesIn K a = some false)
    (hc : copiedNames.contains name = false) (hl : getL name es = some none) : findObj K C (some (dictOf es n)) name = some (.bind g a) := by
  obtain ⟨cd, hc', hd⟩ := any_some hh
  unfold findObj
  have ho : PySem.W.ownOf cd (some (dictOf es n)) name = some none := by unfold PySem.W.ownOf; rw [if_pos hd]; exact hl
  rw [hc', Option.bind_some, ha, Option.bind_some]
  simp only [hg, ht, Option.bind_some, ho, hc, Bool.false_and, Bool.false_eq_true, if_false]

/-- a static method met through an object -/
theorem get_sm {expr : Bool} {p : Addr} {f : Value} {rest : List Value} {Q : Value → Shared → Prop} (F : Fr h₀ L s.heap m) (X₀ : K.In h₀) (I : InstAt s.heap x ox C (some (dictOf es n))) (hg : plainGet K C name = true) (hh : hasDictIn K C = true)
    (ha : findIn K (.ref C) name = some (some (.ref p))) (hn : specialIn K (.ref p) "__get__" = some (some (.builtin "staticmethod.__get__"))) (ht : takesIn K (.ref p) = some false)
    (hc : copiedNames.contains name = false) (hl : getL name es = some none) (hp : recIn K p "staticmethod" = some (f :: rest)) (hv : handedIn f = true)
    (h : Q f { s with toks := s.toks + 1 }) : wpAny (model prog w) A (getAttr (.ref x) name expr) Q E s :=
  get_bind (X₀.keeps F.keep) I (plainGet_of hg).1 (findObj_sm hh ha hn ht hc hl) (plainGet_of hg).2
    (wpAny_call (sm_get (s := { s with toks := s.toks + 1 }) (X₀.keeps F.keep) hp (handed_on hv h)))
end

theorem MethodCall_star {M : Model} {A : Around} {E : Value → Shared → Prop} {s : Shared} {env : Env} {name : Str} {o : Expr} {apos pos : Pos} {args : List Expr} {Q : Value → Shared → Prop}
    (h : wpAny M A (eval o env) (fun ov s₁ => wpAny M A (getAttr ov name true) (fun f s₂ => wpAny M A (callWith pos f [] (backTo pos (starEach args env)) []) Q E s₂) E s₁) E s)
    (he : eval (.Call (.Attribute o name apos) args [] pos) env = (do
      let ov ← eval o env
      standAt apos.atName
      let (f, first) ← holding [ov] (do pure (← getAttr ov name true, []))
      callWith pos f first (backTo pos (starEach args env)) []) := by rfl) :
    wpAny M A (eval (.Call (.Attribute o name apos) args [] pos) env) Q E s := by
  rw [he]
  refine wpAny_bind (wpAny_mono h (fun ov s₁ h₁ => wpAny_bind (wpAny_standAt (wpAny_bind (wpAny_holding (wpAny_bind (wpAny_mono h₁ (fun f s₂ h₂ => wpAny_pure ?_) fun _ _ x => x)))))) fun _ _ x => x)
  exact h₂

/-- a mark: which line serves a comprehension here -/
def MarkT : Prop := True

theorem pow3_ne (k : Nat) : (3 : Int) ^ k ≠ 0 := by
  have : (0 : Int) < 3 ^ k := Int.pow_pos (by decide)
  omega

theorem pow3_room {x k : Int} (h : k < 8) : Builtin.divisionGoesByPylong x ((3 : Int) ^ k.toNat) = false := by
  refine PyProof.noPylong_of_log2 ?_
  have h1 : k.toNat < 8 := by omega
  generalize k.toNat = j at h1
  have : j = 0 ∨ j = 1 ∨ j = 2 ∨ j = 3 ∨ j = 4 ∨ j = 5 ∨ j = 6 ∨ j = 7 := by omega
  rcases this with rfl | rfl | rfl | rfl | rfl | rfl | rfl | rfl <;> decide

/-- the heap only grew, and P of the answer -/
def Calm (s : Shared) (P : Value → Heap → Prop) (v : Value) (s' : Shared) : Prop :=
  ∃ h' tk', s' = { s with heap := h', toks := tk' } ∧ InElt s.heap h' ∧ P v h'

/-- what a call of the text's def with these arguments does, from any frame -/
def Does (r : Nat) (w : World) (f : Addr) (vs : List Value) (hid : List (Addr × Obj)) (H : Heap → Prop) (P : Heap → Value → Heap → Prop) : Prop :=
  ∀ (loose : List Str) (mean : ExcName → Option Value) (mg mb : Str → Option Value) (dp un : Nat) (gd : Option (List Code)) (cn : Str) (cs : Scope) (a : Addr) (ccd : Value) (cl : List (Str × Addr)) (outer : List Env) (A₀ : Around) (base h₀ : Heap) (L : Addr) (m : Str → Option Value) (s : Shared),
    Below A₀ base outer h₀ → Fr h₀ L s.heap m → (hd.heap_39 w.params).In h₀ → News h₀ L s.heap hid → Top hd.view_39 loose mean mg mb h₀ → cs.kind = .function → dp + r < recursionLimit → un + 10 * r < cLine → H s.heap →
    codeAny (model Challenge.rw_dr5026_01.row.prog w) (ktrTop dp un gd cn cs L a ccd cl outer) (.call (.ref f) ⟨vs, []⟩) (fun r s' => match r with | .ok (.ret v) => Calm s (P s.heap) v s' | .ok _ => False | .error _ => False) s

section
variable {prog : Program} {w : World} {A₀ A : Around} {s : Shared} {base h₀ : Heap} {outer : List Env} {L : Addr} {m : Str → Option Value} {env : Env} {news : List (Addr × Obj)}
  {R : Result → Shared → Prop} {name qual : Str} {params : Arguments} {body : List Stmt} {scope : Scope} {cl : List (Str × Addr)} {dV kV doc pm cdv ct : Value} {an : Option Addr} {f : Addr} {args : Args} {binds : List (Str × Value)}

theorem my_frame {E : Value → Shared → Prop} (B : Below A₀ base outer h₀) (F : Fr h₀ L s.heap m) (N : News h₀ L s.heap news) (hlim : h₀.NoLimit) (hA : A.frames = some (env :: outer)) (hf : env.frame = some L) (hke : env.scope.kind = .function)
    (hloc : ∀ y ∈ binds, scope.names.lookup y.1 = some .local)
    (h : ∀ g L' h₁, Fr h₀ L g m → Fr g L' h₁ (fun y => binds.reverse.lookup y) → News g L' h₁ news → Below A base (env :: outer) g → h₀.StaysIn g → GSub s.heap g (news.map (·.1)) →
      wpAny (model prog w) (A.deeper (envX qual scope L' f cdv cl)) (execs body (envX qual scope L' f cdv cl))
        (fun fl s' => LeaveK h₀ L m g R (match fl with | .ret v => v | _ => .none) s')
        (fun e s' => wpAny (model prog w) (A.deeper (envX qual scope L' f cdv cl)) (leaving (envX qual scope L' f cdv cl) e) (fun _ s'' => R (.error e) s'') (fun e' s'' => R (.error e') s'') s')
        { s with heap := h₁, toks := s.toks + binds.length })
    (hcell : ∀ x ∈ scope.names, x.2 ≠ .cell) (hk : scope.kind = .function) :
    wpAny (model prog w) A.in1 (newFunctionEnv scope mainGlobals cl binds (qual ++ ".<locals>.") (some f) cdv none builtinsNs) (fun env' s₂ => s₂.heap.NoLimit ∧ codeAny (model prog w) A (.func body env') R s₂) E s := by
  obtain ⟨FG, BG, st, lv⟩ := groundX (R := R) B F N hA hf hke
  refine wpAny_newFunctionEnv hcell hloc (fun h₁ hns hsb => ⟨(hlim.keeps F.keep).fresh _ hsb, codeAny_func ?_⟩) hk
  have hk₁ : ∀ b o, s.heap.get? b = some o → h₁.get? b = some o := fun b o e => hsb.extBut b o (Nat.ne_of_lt (Heap.lt_size e)) (Heap.get?_push_of_some _ e)
  show wpAny (model prog w) (A.deeper (envX qual scope s.heap.objs.size f cdv cl)) (execs body (envX qual scope s.heap.objs.size f cdv cl)) _ _ _
  exact wpAny_mono (h _ s.heap.objs.size h₁ FG ⟨hns, fun b o e => hk₁ b o (of_hideAll _ e), Nat.le_of_eq (hideAll_size _ _)⟩
    (fun p hp => ⟨hk₁ _ _ (N p hp).1, Nat.ne_of_lt (Heap.lt_size (N p hp).1), hideAll_none _ (List.mem_map_of_mem hp)⟩) BG st (fun b o e n => hideAll_get _ e n)) (fun fl s' hl => lv _ _ hl) fun _ _ y => y
end

section
theorem peek1_alloc {α : Type} {K : Frag} {M : Model} {A : Around} {E : Value → Shared → Prop} {Q : α → Shared → Prop} {s : Shared} {o : Obj} {r : Addr → α} (X : K.In s.heap)
    (q : Q (r s.heap.objs.size) { s with heap := s.heap.push o }) :
    ∀ (t : Sem α) (g : Addr → Option α), peek1 K ⟨M.prog, M.w.params⟩ t = some (o, g) → (∀ D, g D = some (r D)) → wpAny M A t Q E s := by
  intro t
  induction t with
  | rule _ k ih => intro g e hg Γ p hΓ; exact ih () g e hg Γ p hΓ
  | point _ k ih => intro g e hg Γ p hΓ; exact ih () g e hg Γ p hΓ
  | ask k ih => intro g e hg Γ p hΓ; exact ih _ g e hg Γ p hΓ
  | load a _ k ih =>
    intro g e hg Γ p hΓ
    simp only [peek1] at e
    split at e
    · rename_i ob ho; exact ⟨ob, X _ _ ho, ih ob g e hg Γ p hΓ⟩
    · cases e
  | alloc ob k _ =>
    intro g e hg
    have e : some (ob, fun D => peek K ⟨M.prog, M.w.params⟩ (k D)) = some (o, g) := e
    obtain ⟨e1, e2⟩ := Prod.mk.inj (Option.some.inj e)
    subst e1
    subst e2
    have X' : K.In (s.heap.push ob) := X.keeps fun b x hb => Heap.get?_push_of_some _ hb
    show wpAny M A (alloc ob >>= k) Q E s
    refine wpAny_bind (wpAny_alloc ?_)
    exact (Looks.of_peek (M := M) (h := s.heap.push ob) X' (hg s.heap.objs.size)).here (s := { s with heap := s.heap.push ob }) q
  | _ => intro g e; cases e
end

section
variable {prog : Program} {w : World} {A A₀ : Around} {s : Shared} {K : Frag} {L : Addr} {h₀ base : Heap} {m mg mb : Str → Option Value} {news : List (Addr × Obj)} {p : Program} {loose : List Str} {mean : ExcName → Option Value}

/-- a def with *rest -/
theorem my_rest {env : Env} {outer : List Env} {R : Result → Shared → Prop} {name qual : Str} {params : Arguments} {body : List Stmt} {scope : Scope} {dV kV doc pm cdv ct oc : Value} {an od : Option Addr} {osl : Array (Option Value)} {f : Addr} {args : Args} {vs : List Value} {g₁ : Addr → Option (List (Str × Value))} {binds : Addr → List (Str × Value)}
    (B : Below A₀ base outer h₀) (F : Fr h₀ L s.heap m) (X₀ : K.In h₀) (N : News h₀ L s.heap news) (T : Top p loose mean mg mb h₀) (hA : A.frames = some (env :: outer)) (hf : env.frame = some L) (hke : env.scope.kind = .function)
    (ho : K.lookup f = some ⟨oc, od, .func (fnOf name qual params body scope dV kV doc pm an cdv ct), osl⟩) (hcd : codeIn K cdv qual = true) (hroom : A.depth < recursionLimit)
    (hv : args.pos.drop (params.posonlyargs.length + params.args.length) = vs)
    (hp : peek1 K ⟨prog, w.params⟩ (bindArgs (fnOf name qual params body scope dV kV doc pm an cdv ct) args) = some (({ cls := .type "tuple", data := .seq vs.toArray } : Obj), g₁))
    (hg : ∀ D, g₁ D = some (binds D)) (hloc : ∀ D, ∀ y ∈ binds D, scope.names.lookup y.1 = some .local)
    (h : ∀ D g L' h₁, (∀ p ∈ news, p.1 < D) → Fr h₀ L g m → Fr g L' h₁ (fun y => (binds D).reverse.lookup y) → News g L' h₁ ((D, ({ cls := .type "tuple", data := .seq vs.toArray } : Obj)) :: news) → Below A base (env :: outer) g → K.In g → Top p loose mean mg mb g → GSub s.heap g (D :: news.map (·.1)) → s.heap.get? D = none →
      wpAny (model prog w) (A.deeper (envOf qual scope L' f cdv)) (execs body (envOf qual scope L' f cdv))
        (fun fl s' => LeaveK h₀ L m g R (match fl with | .ret v => v | _ => .none) s')
        (fun e s' => wpAny (model prog w) (A.deeper (envOf qual scope L' f cdv)) (leaving (envOf qual scope L' f cdv) e) (fun _ s'' => R (.error e) s'') (fun e' s'' => R (.error e') s'') s')
        { s with heap := h₁, toks := s.toks + (binds D).length })
    (hco : scope.isCoroutine = false) (hgen : scope.isGenerator = false) (hk : scope.kind = .function)
    (hcell : ∀ x ∈ scope.names, x.2 ≠ .cell) : codeAny (model prog w) A (.call (.ref f) args) R s := by
  have _ := hv
  refine codeAny_call_function (fd := fnOf name qual params body scope dV kV doc pm an cdv ct) (body := body) hroom ((X₀.keeps F.keep) _ _ ho) rfl hco hgen rfl (codeRec_of (X₀.keeps F.keep) hcd) ?_
  have hD : s.heap.get? s.heap.objs.size = none := by
    cases e : s.heap.get? s.heap.objs.size with
    | none => rfl
    | some o => exact absurd (Heap.lt_size e) (Nat.lt_irrefl _)
  have l : ∀ p ∈ news, p.1 < s.heap.objs.size := fun p hp => Heap.lt_size (N p hp).1
  refine peek1_alloc (o := ({ cls := .type "tuple", data := .seq vs.toArray } : Obj)) (X₀.keeps F.keep) (r := binds) ?_ _ g₁ hp hg
  exact my_frame (cl := []) (s := { s with heap := s.heap.push _ }) B (F.push _) (News.push F N _ rfl) T.nolimit hA hf hke (hloc _) (fun g L' h₁ FG FL NG BG st gs => h _ g L' h₁ l FG FL NG BG (X₀.keeps st) (T.keeps st) (fun b o e n => gs b o (Heap.get?_push_of_some _ e) n) hD) hcell hk

/-- a def whose locals are captured -/
theorem my_defC {env : Env} {outer : List Env} {R : Result → Shared → Prop} {name qual : Str} {params : Arguments} {body : List Stmt} {scope : Scope} {dV kV doc pm cdv ct oc : Value} {an od : Option Addr} {osl : Array (Option Value)} {f : Addr} {args : Args} {binds : List (Str × Value)}
    (B : Below A₀ base outer h₀) (F : Fr h₀ L s.heap m) (X₀ : K.In h₀) (N : News h₀ L s.heap news) (T : Top p loose mean mg mb h₀) (hA : A.frames = some (env :: outer)) (hf : env.frame = some L) (hke : env.scope.kind = .function)
    (ho : K.lookup f = some ⟨oc, od, .func (fnOf name qual params body scope dV kV doc pm an cdv ct), osl⟩) (hcd : codeIn K cdv qual = true) (hroom : A.depth < recursionLimit)
    (hbind : BindsTo s (fnOf name qual params body scope dV kV doc pm an cdv ct) args binds) (hkind : (binds.all fun y => scope.names.lookup y.1 == some .local || scope.names.lookup y.1 == some .cell) = true)
    (hnd : ((cellsFrom 0 scope.names []).map (·.1)).Nodup)
    (h : ∀ g L' h₁ tk cells, Fr h₀ L g m → Fr g L' h₁ (bindL (envOfC qual scope L' f cdv).kindOf binds fun _ => none) → News g L' h₁ (cells ++ news) →
      CellsAre (bindC (envOfC qual scope L' f cdv).kindOf binds fun _ => none) (cellsFrom (L' + 1) scope.names []) cells → Below A base (env :: outer) g → K.In g → Top p loose mean mg mb g → GSub s.heap g (news.map (·.1)) → (∀ p ∈ news, p.1 < L') →
      wpAny (model prog w) (A.deeper (envOfC qual scope L' f cdv)) (execs body (envOfC qual scope L' f cdv))
        (fun fl s' => LeaveK h₀ L m g R (match fl with | .ret v => v | _ => .none) s')
        (fun e s' => wpAny (model prog w) (A.deeper (envOfC qual scope L' f cdv)) (leaving (envOfC qual scope L' f cdv) e) (fun _ s'' => R (.error e) s'') (fun e' s'' => R (.error e') s'') s')
        { s with heap := h₁, toks := tk })
    (hco : scope.isCoroutine = false) (hgen : scope.isGenerator = false) (hk : scope.kind = .function) : codeAny (model prog w) A (.call (.ref f) args) R s := by
  obtain ⟨FG, BG, st, lv⟩ := groundX (R := R) B F N hA hf hke
  refine codeAny_call_function (fd := fnOf name qual params body scope dV kV doc pm an cdv ct) (body := body) hroom ((X₀.keeps F.keep) _ _ ho) rfl hco hgen rfl (codeRec_of (X₀.keeps F.keep) hcd) (hbind _ _ _ _ ?_)
  refine wpAny_newFunctionEnv_cells hk (kindsX hkind _) fun env' he s' x => ?_
  subst he
  refine ⟨(T.nolimit.keeps F.keep).keeps x.toInCall.keep, codeAny_func ?_⟩
  obtain ⟨h₁, tk, rfl, _⟩ := x.done
  have hk₁ := x.toInCall.keep
  obtain ⟨cells, NC, Y⟩ := Cl.news (h₀ := s.heap) (Nat.le_refl _) fun n c hm => ⟨x.cell n c (lookup_of_mem_nodup (cellsFrom_names scope.names 0 (s.heap.objs.size + 1) [] [] rfl ▸ hnd) hm), x.above n c hm⟩
  refine wpAny_mono (h _ s.heap.objs.size h₁ tk cells FG ⟨x.toInCall.ns, fun b o e => hk₁ b o (of_hideAll _ e), Nat.le_of_eq (hideAll_size _ _)⟩ (fun p hp => ?_) Y BG (X₀.keeps st) (T.keeps st) (fun b o e n => hideAll_get _ e n) (fun p hp => Heap.lt_size (N p hp).1)) (fun fl s' hl => lv _ _ hl) fun _ _ y => y
  rcases List.mem_append.mp hp with hp | hp
  · refine ⟨(NC p hp).1, (NC p hp).2.1, ?_⟩
    cases q : (hideAll s.heap (news.map (·.1))).get? p.1 with
    | none => rfl
    | some o => have := of_hideAll _ q; rw [(NC p hp).2.2] at this; cases this
  · exact ⟨hk₁ _ _ (N p hp).1, Nat.ne_of_lt (Heap.lt_size (N p hp).1), hideAll_none _ (List.mem_map_of_mem hp)⟩

/-- a def with *rest, whose locals are captured -/
theorem my_restC {env : Env} {outer : List Env} {R : Result → Shared → Prop} {name qual : Str} {params : Arguments} {body : List Stmt} {scope : Scope} {dV kV doc pm cdv ct oc : Value} {an od : Option Addr} {osl : Array (Option Value)} {f : Addr} {args : Args} {vs : List Value} {g₁ : Addr → Option (List (Str × Value))} {binds : Addr → List (Str × Value)}
    (B : Below A₀ base outer h₀) (F : Fr h₀ L s.heap m) (X₀ : K.In h₀) (N : News h₀ L s.heap news) (T : Top p loose mean mg mb h₀) (hA : A.frames = some (env :: outer)) (hf : env.frame = some L) (hke : env.scope.kind = .function)
    (ho : K.lookup f = some ⟨oc, od, .func (fnOf name qual params body scope dV kV doc pm an cdv ct), osl⟩) (hcd : codeIn K cdv qual = true) (hroom : A.depth < recursionLimit)
    (hv : args.pos.drop (params.posonlyargs.length + params.args.length) = vs)
    (hp : peek1 K ⟨prog, w.params⟩ (bindArgs (fnOf name qual params body scope dV kV doc pm an cdv ct) args) = some (({ cls := .type "tuple", data := .seq vs.toArray } : Obj), g₁))
    (hg : ∀ D, g₁ D = some (binds D)) (hkind : ∀ D, ((binds D).all fun y => scope.names.lookup y.1 == some .local || scope.names.lookup y.1 == some .cell) = true)
    (hnd : ((cellsFrom 0 scope.names []).map (·.1)).Nodup)
    (h : ∀ D g L' h₁ tk cells, (∀ p ∈ news, p.1 < D) → Fr h₀ L g m → Fr g L' h₁ (bindL (envOfC qual scope L' f cdv).kindOf (binds D) fun _ => none) → News g L' h₁ (cells ++ (D, ({ cls := .type "tuple", data := .seq vs.toArray } : Obj)) :: news) →
      CellsAre (bindC (envOfC qual scope L' f cdv).kindOf (binds D) fun _ => none) (cellsFrom (L' + 1) scope.names []) cells → Below A base (env :: outer) g → K.In g → Top p loose mean mg mb g → GSub s.heap g (D :: news.map (·.1)) → s.heap.get? D = none → D < L' →
      wpAny (model prog w) (A.deeper (envOfC qual scope L' f cdv)) (execs body (envOfC qual scope L' f cdv))
        (fun fl s' => LeaveK h₀ L m g R (match fl with | .ret v => v | _ => .none) s')
        (fun e s' => wpAny (model prog w) (A.deeper (envOfC qual scope L' f cdv)) (leaving (envOfC qual scope L' f cdv) e) (fun _ s'' => R (.error e) s'') (fun e' s'' => R (.error e') s'') s')
        { s with heap := h₁, toks := tk })
    (hco : scope.isCoroutine = false) (hgen : scope.isGenerator = false) (hk : scope.kind = .function) : codeAny (model prog w) A (.call (.ref f) args) R s := by
  have _ := hv
  refine codeAny_call_function (fd := fnOf name qual params body scope dV kV doc pm an cdv ct) (body := body) hroom ((X₀.keeps F.keep) _ _ ho) rfl hco hgen rfl (codeRec_of (X₀.keeps F.keep) hcd) ?_
  have hD : s.heap.get? s.heap.objs.size = none := by
    cases e : s.heap.get? s.heap.objs.size with
    | none => rfl
    | some o => exact absurd (Heap.lt_size e) (Nat.lt_irrefl _)
  have l : ∀ p ∈ news, p.1 < s.heap.objs.size := fun p hp => Heap.lt_size (N p hp).1
  refine peek1_alloc (o := ({ cls := .type "tuple", data := .seq vs.toArray } : Obj)) (X₀.keeps F.keep) (r := binds) ?_ _ g₁ hp hg
  have F2 := F.push ({ cls := .type "tuple", data := .seq vs.toArray } : Obj)
  have N2 := News.push F N ({ cls := .type "tuple", data := .seq vs.toArray } : Obj) rfl
  generalize hs2 : s.heap.push ({ cls := .type "tuple", data := .seq vs.toArray } : Obj) = H2 at F2 N2 ⊢
  have hlt2 : s.heap.objs.size < H2.objs.size := by rw [← hs2, Heap.size_push]; exact Nat.lt_succ_self _
  have hpush : ∀ b o, s.heap.get? b = some o → H2.get? b = some o := fun b o e => hs2 ▸ Heap.get?_push_of_some _ e
  obtain ⟨FG, BG, st, lv⟩ := groundX (s := { s with heap := H2 }) (R := R) B F2 N2 hA hf hke
  refine wpAny_newFunctionEnv_cells hk (kindsX (hkind _) _) fun env' he s' x => ?_
  subst he
  refine ⟨(T.nolimit.keeps F2.keep).keeps x.toInCall.keep, codeAny_func ?_⟩
  obtain ⟨h₁, tk, rfl, _⟩ := x.done
  have hk₁ := x.toInCall.keep
  obtain ⟨cells, NC, Y⟩ := Cl.news (h₀ := H2) (Nat.le_refl _) fun n c hm => ⟨x.cell n c (lookup_of_mem_nodup (cellsFrom_names scope.names 0 (H2.objs.size + 1) [] [] rfl ▸ hnd) hm), x.above n c hm⟩
  refine wpAny_mono (h _ _ H2.objs.size h₁ tk cells l FG ⟨x.toInCall.ns, fun b o e => hk₁ b o (of_hideAll _ e), Nat.le_of_eq (hideAll_size _ _)⟩ (fun p hp => ?_) Y BG (X₀.keeps st) (T.keeps st) (fun b o e n => hideAll_get _ (hpush b o e) n) hD hlt2) (fun fl s' hl => lv _ _ hl) fun _ _ y => y
  rcases List.mem_append.mp hp with hp | hp
  · refine ⟨(NC p hp).1, (NC p hp).2.1, ?_⟩
    cases q : (hideAll H2 (((s.heap.objs.size, ({ cls := .type "tuple", data := .seq vs.toArray } : Obj)) :: news).map (·.1))).get? p.1 with
    | none => rfl
    | some o => have := of_hideAll _ q; rw [(NC p hp).2.2] at this; cases this
  · exact ⟨hk₁ _ _ (N2 p hp).1, Nat.ne_of_lt (Heap.lt_size (N2 p hp).1), hideAll_none _ (List.mem_map_of_mem hp)⟩
end

section
variable {r : Nat} {w : World} {f : Addr} {vs : List Value} {hid : List (Addr × Obj)} {H : Heap → Prop} {P : Heap → Value → Heap → Prop}
    {loose : List Str} {mean : ExcName → Option Value} {mg mb : Str → Option Value} {dp un : Nat} {gd : Option (List Code)} {cn : Str} {cs : Scope} {a : Addr} {ccd : Value} {cl : List (Str × Addr)} {outer : List Env} {A₀ : Around} {base h₀ : Heap} {L : Addr} {m : Str → Option Value} {s : Shared} {news : List (Addr × Obj)} {Q E : Value → Shared → Prop}

theorem does_code {R : Result → Shared → Prop} (D : Does r w f vs hid H P) (B : Below A₀ base outer h₀) (F : Fr h₀ L s.heap m) (X : (hd.heap_39 w.params).In h₀) (N : News h₀ L s.heap news) (T : Top hd.view_39 loose mean mg mb h₀) (hk : cs.kind = .function) (hsub : ∀ p ∈ hid, p ∈ news) (hd : dp + r < recursionLimit) (hu : un + 10 * r < cLine) (hH : H s.heap)
    (h : ∀ v h' tk', Fr h₀ L h' m → News h₀ L h' news → InElt s.heap h' → P s.heap v h' → R (.ok (.ret v)) { s with heap := h', toks := tk' }) :
    codeAny (model Challenge.rw_dr5026_01.row.prog w) (ktrTop dp un gd cn cs L a ccd cl outer) (.call (.ref f) ⟨vs, []⟩) R s := by
  refine codeAny_mono (D loose mean mg mb dp un gd cn cs a ccd cl outer A₀ base h₀ L m s B F X (fun p hp => N p (hsub p hp)) T hk hd hu hH) (fun r s' hv => ?_)
  cases r with
  | error e => exact hv.elim
  | ok fl =>
    cases fl with
    | ret v =>
      obtain ⟨h', tk', rfl, hk', hP⟩ := hv
      exact h v h' tk' (F.keeps hk') (N.grown hk') hk' hP
    | _ => exact hv.elim

theorem does_use (D : Does r w f vs hid H P) (B : Below A₀ base outer h₀) (F : Fr h₀ L s.heap m) (X : (hd.heap_39 w.params).In h₀) (N : News h₀ L s.heap news) (T : Top hd.view_39 loose mean mg mb h₀) (hk : cs.kind = .function) (hsub : ∀ p ∈ hid, p ∈ news) (hd : dp + r < recursionLimit) (hu : un + 10 * r < cLine) (hH : H s.heap)
    (h : ∀ v h' tk', Fr h₀ L h' m → News h₀ L h' news → InElt s.heap h' → P s.heap v h' → Q v { s with heap := h', toks := tk' }) :
    wpAny (model Challenge.rw_dr5026_01.row.prog w) (ktrTop dp un gd cn cs L a ccd cl outer) (call (.ref f) vs) Q E s :=
  wpAny_call (does_code D B F X N T hk hsub hd hu hH h)

theorem does_meth {q : Addr} {self : Value} {pos : List Value} (D : Does r w f (self :: pos) hid H P) (B : Below A₀ base outer h₀) (F : Fr h₀ L s.heap m) (X : (hd.heap_39 w.params).In h₀) (N : News h₀ L s.heap news) (T : Top hd.view_39 loose mean mg mb h₀) (hk : cs.kind = .function) (hsub : ∀ p ∈ hid, p ∈ news) (hd : dp + r < recursionLimit) (hu : un + 10 * r < cLine) (hq : (q, methodObj (.ref f) self) ∈ news) (hH : H s.heap)
    (h : ∀ v h' tk', Fr h₀ L h' m → News h₀ L h' news → InElt s.heap h' → P s.heap v h' → Q v { s with heap := h', toks := tk' }) :
    wpAny (model Challenge.rw_dr5026_01.row.prog w) (ktrTop dp un gd cn cs L a ccd cl outer) (call (.ref q) pos) Q E s :=
  call_meth N hq (does_code D B F X N T hk hsub hd hu hH h)
end

section
variable {M : Model} {A : Around} {E : Value → Shared → Prop} {s : Shared} {K : Frag} {env : Env} {pos p : Pos} {first : List Value} {Q : Value → Shared → Prop} {h₀ : Heap} {L q g : Addr} {self : Value} {news : List (Addr × Obj)} {e : Expr}
theorem callWith_MS (_X : K.In h₀) (_N : News h₀ L s.heap news) (_q : (q, methodObj (.ref g) self) ∈ news) (hf : fnIn K g = true)
    (h : wpAny M A (eval e env) (fun v s₁ => StarOf M A E v (fun vs s₂ => MethP K q g self s₂.heap ∧ wpAny M A (call (.ref q) (first ++ vs)) Q E s₂) s₁) E s)
    (he : starEach [.Starred e p] env = [(true, eval e env)] := by rfl) :
    wpAny M A (callWith pos (.ref q) first (backTo pos (starEach [.Starred e p] env)) []) Q E s := by
  rw [he]
  exact ks_call rfl (keeps_M hf) (ks_lone h)
end

theorem calm_rest {H g h' h₀ : Heap} {L L' D : Addr} {m' : Str → Option Value} {hid news' : List (Addr × Obj)} (gs : GSub H g (D :: hid.map (·.1))) (hD : H.get? D = none) (N : News h₀ L H hid) (F' : Fr g L' h' m') (N' : News g L' h' news') (hs : ∀ p ∈ hid, p ∈ news') : InElt H h' := by
  intro b o e
  by_cases hb : b ∈ hid.map (·.1)
  · obtain ⟨p, hp, rfl⟩ := List.mem_map.mp hb
    have h1 := (N p hp).1
    rw [e] at h1
    cases h1
    exact (N' p (hs p hp)).1
  · refine F'.keep b o (gs b o e ?_)
    intro hm
    rcases List.mem_cons.mp hm with rfl | hm
    · rw [hD] at e; cases e
    · exact hb hm
theorem fresh_of {H g h' : Heap} {L' D : Addr} {o : Obj} {adr : List Addr} {news' : List (Addr × Obj)} (gs : GSub H g adr) (N' : News g L' h' news') (hm : (D, o) ∈ news') (hn : D ∉ adr) : H.get? D = none := by
  cases e : H.get? D with
  | none => rfl
  | some x => have := gs D x e hn; rw [(N' _ hm).2.2] at this; cases this
theorem calm_def {H g h' h₀ : Heap} {L L' : Addr} {m' : Str → Option Value} {hid news' : List (Addr × Obj)} (gs : GSub H g (hid.map (·.1))) (N : News h₀ L H hid) (F' : Fr g L' h' m') (N' : News g L' h' news') (hs : ∀ p ∈ hid, p ∈ news') : InElt H h' :=
  elt_after (InElt.start _) gs N F' N' hs
end Mine
end
section
open PySem PySem.W PyProof.Rows PySem.Calls
set_option maxRecDepth 100000
set_option maxHeartbeats 4000000
namespace Mine

abbrev NoE : Value → Shared → Prop := fun _ _ => False

section
variable {prog : Program} {w : World} {A : Around} {E : Value → Shared → Prop} {s : Shared} {env : Env}

/-- the turns of a for over the iterator it, told by J (turn's number, state), at most n of them -/
def Turns (prog : Program) (w : World) (A : Around) (env : Env) (target : Expr) (body : List Stmt) (Q : Flow → Shared → Prop) (it : Value) (s : Shared) : Prop :=
  ∃ (n : Nat) (J : Nat → Shared → Prop), J 0 s ∧ ∀ i s₁, i ≤ n → J i s₁ → wpAny (model prog w) A (pyNext it) (fun r s₂ => match r with
    | none => Q .next s₂
    | some v => i < n ∧ wpAny (model prog w) A (assign target env v) (fun _ s₃ => wpAny (model prog w) A (execs body env) (fun f s₄ => match f with
        | .next | .cont => J (i + 1) s₄
        | .brk => Q .next s₄
        | .ret v => Q (.ret v) s₄) NoE s₃) NoE s₂) NoE s₁

def ForAt (prog : Program) (w : World) (A : Around) (env : Env) (target : Expr) (body : List Stmt) (Q : Flow → Shared → Prop) (xv : Value) (s : Shared) : Prop :=
  wpAny (model prog w) A (pyIter xv) (fun it s₂ => Turns prog w A env target body Q it s₂) NoE s

theorem my_For {target iter : Expr} {body : List Stmt} {pos : Pos} {Q : Flow → Shared → Prop}
    (h : wpAny (model prog w) A (eval iter env) (fun xv s₁ => ForAt prog w A env target body Q xv s₁) NoE s)
    (hs : ∀ x, foldedSetIterable iter env x = pure x := by intro _; rfl) (ht : ∀ it v, letOwnedTupleGo target it v = pure () := by intro _ _; rfl) :
    wpAny (model prog w) A (exec (.For target iter body [] pos) env) Q E s := by
  refine wpAny_For (wpAny_mono h (fun xv s₁ h₁ => wpAny_mono h₁ (fun it s₂ h₂ => ?_) fun _ _ e => e.elim) fun _ _ e => e.elim) hs
  obtain ⟨n, J, h0, step⟩ := h₂
  refine codeAny_forLoop (fun k s => ∃ i, i ≤ n ∧ k = n - i ∧ J i s) ?_ n ⟨0, Nat.zero_le _, rfl, h0⟩ (ht it)
  rintro k s₁ ⟨i, hi, rfl, hJ⟩
  refine wpAny_mono (step i s₁ hi hJ) (fun r s₂ hr => ?_) fun _ _ e => e.elim
  cases r with
  | none => exact wpAny_execs_nil hr
  | some v =>
    obtain ⟨hlt, hr⟩ := hr
    refine wpAny_mono hr (fun _ s₃ h₃ => wpAny_mono h₃ (fun f s₄ h₄ => ?_) fun _ _ e => e.elim) fun _ _ e => e.elim
    cases f with
    | next => exact ⟨n - (i + 1), by omega, i + 1, hlt, rfl, h₄⟩
    | cont => exact ⟨n - (i + 1), by omega, i + 1, hlt, rfl, h₄⟩
    | brk => exact h₄
    | ret v => exact h₄
end

/-- the walk stops here -/
def StopAt (P : Prop) : Prop := P
theorem stop_at {P : Prop} (h : StopAt P) : P := h

/-- marks a for that goes by my_For -/
def MarkF : Prop := True

section
variable {M : Model} {A : Around} {E : Value → Shared → Prop} {s : Shared} {env : Env} {pos p : Pos} {first : List Value} {Q : Value → Shared → Prop} {e : Expr} {n : String}
theorem callWith_typeS (hk : keeperOf (.type n) = pure .machine)
    (h : wpAny M A (eval e env) (fun v s₁ => StarOf M A E v (fun vs s₂ => wpAny M A (call (.type n) (first ++ vs)) Q E s₂) s₁) E s)
    (he : starEach [.Starred e p] env = [(true, eval e env)] := by rfl) :
    wpAny M A (callWith pos (.type n) first (backTo pos (starEach [.Starred e p] env)) []) Q E s := by
  rw [he]
  refine ks_call (P := fun _ => True) rfl (fun h _ => ⟨.machine, .inr (.inl rfl), Looks.of_pure hk⟩) (ks_lone (wpAny_mono h (fun v s₁ h₁ => ?_) fun _ _ x => x))
  unfold StarOf at h₁ ⊢
  exact wpAny_mono h₁ (fun b s₂ h₂ => ⟨h₂.1, wpAny_mono h₂.2 (fun vs s₃ h₃ => ⟨trivial, h₃⟩) fun _ _ x => x⟩) fun _ _ x => x
end

section
variable {M : Model} {A : Around} {E : Value → Shared → Prop} {s : Shared} {K : Frag} {env : Env} {pos p : Pos} {x C f : Addr} {ox : Obj} {od : Option Obj} {first : List Value} {Q : Value → Shared → Prop} {e : Expr}
theorem callWith_IS (_X : K.In s.heap) (_I : InstAt s.heap x ox C od) (hd : ox.data = .plain) (_hs : findIn K (.ref C) "__call__" = some (some (.ref f)))
    (h : wpAny M A (eval e env) (fun v s₁ => StarOf M A E v (fun vs s₂ => kco_P K x C ox od s₂.heap ∧ wpAny M A (call (.ref x) (first ++ vs)) Q E s₂) s₁) E s)
    (he : starEach [.Starred e p] env = [(true, eval e env)] := by rfl) :
    wpAny M A (callWith pos (.ref x) first (backTo pos (starEach [.Starred e p] env)) []) Q E s := by
  rw [he]
  unfold callWith
  have h2 : wpAny M A (evalArgs (.ref x) true [(true, (do let v ← eval e env; standAt pos; pure v))] []) (fun a s₁ => kco_P K x C ox od s₁.heap ∧ wpAny M A (call (.ref x) (first ++ a.pos) a.kw) Q E s₁) E s := ks_lone h
  refine wpAny_bind (wpAny_holding (wpAny_mono h2 (fun a s₁ h₁ => wpAny_bind (wpAny_standAt ?_)) fun _ _ x => x))
  have L := kco_keeper (M := M) h₁.1.2 hd
  have hst : (backTo pos [(true, eval e env)]).any (·.1) = true := rfl
  simp only [hst, Bool.true_or]
  refine wpAny_bind (L.here ?_)
  have tail : ∀ {t : Sem Value}, wpAny M A t Q E s₁ → wpAny M A (t >>= fun r => holding [r] point >>= fun _ => pure r) Q E s₁ :=
    fun ht => wpAny_bind (wpAny_mono ht (fun r s₂ hr => wpAny_bind (wpAny_holding (wpAny_point (wpAny_pure hr)))) fun _ _ y => y)
  exact tail (wpAny_operateT h₁.2)
end

section
variable {r : Nat} {w : World} {f x C : Addr} {ox : Obj} {od : Option Obj} {hid : List (Addr × Obj)} {H : Heap → Prop} {P : Heap → Value → Heap → Prop}
    {loose : List Str} {mean : ExcName → Option Value} {mg mb : Str → Option Value} {dp un : Nat} {gd : Option (List Code)} {cn : Str} {cs : Scope} {a : Addr} {ccd : Value} {cl : List (Str × Addr)} {outer : List Env} {A₀ : Around} {base h₀ : Heap} {L : Addr} {m : Str → Option Value} {s : Shared} {news : List (Addr × Obj)} {Q E : Value → Shared → Prop} {pos : List Value}
theorem does_inst (D : Does r w f (.ref x :: pos) hid H P) (B : Below A₀ base outer h₀) (F : Fr h₀ L s.heap m) (X : (hd.heap_39 w.params).In h₀) (N : News h₀ L s.heap news) (T : Top hd.view_39 loose mean mg mb h₀) (hk : cs.kind = .function) (hsub : ∀ p ∈ hid, p ∈ news) (hdp : dp + r < recursionLimit) (hu : un + 10 * r < cLine)
    (I : InstAt s.heap x ox C od) (hpl : ox.data = .plain) (hs : findIn (hd.heap_39 w.params) (.ref C) "__call__" = some (some (.ref f))) (hf : isFn (hd.heap_39 w.params) (.ref f) = true) (hfn : fnIn (hd.heap_39 w.params) f = true) (hH : H s.heap)
    (h : ∀ v h' tk', Fr h₀ L h' m → News h₀ L h' news → InElt s.heap h' → P s.heap v h' → Q v { s with heap := h', toks := tk' }) :
    wpAny (model Challenge.rw_dr5026_01.row.prog w) (ktrTop dp un gd cn cs L a ccd cl outer) (call (.ref x) pos) Q E s :=
  wpAny_call (kco_code (X.keeps F.keep) I hpl hs hf hfn (does_code D B F X N T hk hsub hdp hu hH h))
end

theorem news_add {h₀ H h' : Heap} {L l : Addr} {m : Str → Option Value} {o : Obj} {news : List (Addr × Obj)} (F : Fr h₀ L H m) (u : H.get? l = none) (N : News h₀ L h' news) (g : h'.get? l = some o) : News h₀ L h' ((l, o) :: news) := by
  intro p hp
  rcases List.mem_cons.mp hp with rfl | hp
  · refine ⟨g, ?_, ?_⟩
    · intro e
      have e' : l = L := e
      obtain ⟨oL, _, _, hL, _⟩ := F.ns
      rw [← e', u] at hL; cases hL
    · cases e : h₀.get? l with
      | none => rfl
      | some x => have := F.keep _ _ e; rw [u] at this; cases this
  · exact N p hp
end Mine
end
section
open PySem PySem.W PyProof.Rows PySem.Calls
set_option maxRecDepth 100000
set_option maxHeartbeats 4000000
namespace Mine

section
variable {prog : Program} {w : World} {A : Around} {E : Value → Shared → Prop} {s s₀ : Shared} {env : Env} {g : Heap} {news : List (Addr × Obj)} {Q : Flow → Shared → Prop} {α : Type}

/-- the end of a turn -/
def TurnEnd (g : Heap) (L : Addr) (s : Shared) (led : List (Addr × Obj)) (mk : α → Str → Option Value) (J : α → Prop) (s₄ : Shared) : Prop :=
  ∃ h' tk' σ, s₄ = { s with heap := h', toks := tk' } ∧ Fr g L h' (mk σ) ∧ News g L h' led ∧ J σ

theorem turn_end {L : Addr} {led news' : List (Addr × Obj)} {mk : α → Str → Option Value} {J : α → Prop} {m : Str → Option Value} {h' : Heap} {tk' : Nat} (σ : α) (F : Fr g L h' m) (e : ∀ z, m z = mk σ z) (N : News g L h' news') (hs : ∀ p ∈ led, p ∈ news') (hj : J σ) :
    TurnEnd g L s led mk J { s with heap := h', toks := tk' } := by
  have : m = mk σ := funext e
  subst this
  exact ⟨h', tk', σ, rfl, F, fun p hp => N p (hs p hp), hj⟩

theorem for_range {v : Str} {px pos : Pos} {iter : Expr} {body : List Stmt} (mk : α → Str → Option Value) (J : Nat → α → Prop) (σ₀ : α) (a₀ : Int) (n : Nat)
    (hh : A.handled = none) (hv : env.kindOf v = some .local) (hp : (env.scope.kind == .class || (env.scope.kind == .module && env.locals != env.globals)) = false)
    (hiter : ∀ Q' : Value → Shared → Prop, (∀ r b h' tk t u w', IsRange h' r a₀ b 1 t u w' → b = a₀ + n → Builtin.Range.small a₀ b 1 = true → Fr g env.locals h' (mk σ₀) → News g env.locals h' news → Q' (.ref r) { s with heap := h', toks := tk }) →
      wpAny (model prog w) A (eval iter env) Q' NoE s₀)
    (h0 : J 0 σ₀)
    (turn : ∀ i σ t I oI h tk, i < n → J i σ → Fr g env.locals h (fun z => if z = v then some (.int (a₀ + (i : Int)) t) else mk σ z) → News g env.locals h ((I, oI) :: news) → (∀ p ∈ news, @LT.lt Nat _ p.1 I) →
      wpAny (model prog w) A (execs body env) (fun f s₄ => match f with
        | .next | .cont => TurnEnd g env.locals s ((I, oI) :: news) mk (J (i + 1)) s₄
        | .brk => False
        | .ret w => Q (.ret w) s₄) NoE { s with heap := h, toks := tk })
    (fin : ∀ σ h tk, J n σ → Fr g env.locals h (mk σ) → News g env.locals h news → Q .next { s with heap := h, toks := tk })
    (hs : ∀ v, foldedSetIterable iter env v = pure v := by intro _; rfl) :
    wpAny (model prog w) A (exec (.For (.Name v px) iter body [] pos) env) Q E s₀ := by
  refine my_For (hiter _ fun r b h' tk t u w' R hb hsm F₀ N₀ => ?_) (hs := hs)
  subst hb
  refine wpAny_pyIter_range R hsm ?_
  have hsz : Builtin.Range.rangeSize a₀ (a₀ + (n : Int)) 1 = (n : Int) := by
    unfold Builtin.Range.rangeSize
    by_cases hn : n = 0
    · subst hn; simp
    · have : a₀ < a₀ + (n : Int) := by omega
      simp [this]
      omega
  rw [hsz]
  have hL : env.locals ≠ h'.objs.size := neN (Nat.ne_of_lt F₀.ns.lt)
  have hgI : g.get? h'.objs.size = none := Heap.get?_none_of_le (Nat.le_trans F₀.above (Nat.le_of_lt F₀.ns.lt))
  have hnI : ∀ p ∈ news, @LT.lt Nat _ p.1 h'.objs.size := fun p hp => Heap.lt_size (N₀ p hp).1
  refine ⟨n, fun i s₁ => ∃ h tk σ, s₁ = { s with heap := h, toks := tk } ∧ i ≤ n ∧ IsRangeIter h h'.objs.size (a₀ + (i : Int)) ((n : Int) - (i : Int)) 1 ∧ Fr g env.locals h (mk σ) ∧ News g env.locals h news ∧ J i σ, ?_, ?_⟩
  · refine ⟨_, tk, σ₀, rfl, Nat.zero_le _, ?_, F₀.push _, fun p hp => ⟨Heap.get?_push_of_some _ (N₀ p hp).1, (N₀ p hp).2⟩, h0⟩
    have e1 : a₀ + ((0 : Nat) : Int) = a₀ := by omega
    have e2 : (n : Int) - ((0 : Nat) : Int) = (n : Int) := by omega
    rw [e1, e2]
    exact Heap.get?_push_size _ rfl
  · rintro i s₁ hi ⟨h, tk1, σ, rfl, hin, hit, F, N, hJ⟩
    by_cases hlt : i < n
    · refine wpAny_pyNext_range_item hit (by omega) fun h2 hit2 hs2 => ⟨hlt, ?_⟩
      have F2 := F.change hs2 (Ne.symm hL) hgI
      have N2 : News g env.locals h2 news := fun p hp => ⟨hs2.extBut _ _ (neN (Nat.ne_of_lt (hnI p hp))) (N p hp).1, (N p hp).2⟩
      refine wpAny_assign_Name (wpAny_storeName_local hv F2.ns (fun h3 hn3 hs3 => ?_) hp)
      have F3 := F2.set hn3 hs3
      have N3 := N2.set hs3
      have hI3 := hs3.extBut _ _ (Ne.symm hL) hit2
      have N4 : News g env.locals h3 ((h'.objs.size, ({ cls := .type "range_iterator", dict := none, data := .fields #[rawInt (a₀ + (i : Int) + 1), rawInt ((n : Int) - (i : Int) - 1), rawInt 1], slots := #[] } : Obj)) :: news) := by
        intro p hp
        rcases List.mem_cons.mp hp with rfl | hp
        · exact ⟨hI3, Ne.symm hL, hgI⟩
        · exact N3 p hp
      refine wpAny_mono (turn i σ _ h'.objs.size _ h3 _ hlt hJ F3 N4 hnI) (fun f s₄ hf => ?_) fun _ _ e => e
      have next : TurnEnd g env.locals s ((h'.objs.size, ({ cls := .type "range_iterator", dict := none, data := .fields #[rawInt (a₀ + (i : Int) + 1), rawInt ((n : Int) - (i : Int) - 1), rawInt 1], slots := #[] } : Obj)) :: news) mk (J (i + 1)) s₄ →
          ∃ h tk σ, s₄ = { s with heap := h, toks := tk } ∧ i + 1 ≤ n ∧ IsRangeIter h h'.objs.size (a₀ + ((i + 1 : Nat) : Int)) ((n : Int) - ((i + 1 : Nat) : Int)) 1 ∧ Fr g env.locals h (mk σ) ∧ News g env.locals h news ∧ J (i + 1) σ := by
        rintro ⟨h5, tk5, σ5, rfl, F5, N5, J5⟩
        have hi5 := (N5 _ List.mem_cons_self).1
        refine ⟨h5, tk5, σ5, rfl, hlt, ?_, F5, fun p hp => N5 p (List.mem_cons_of_mem _ hp), J5⟩
        have e1 : a₀ + ((i + 1 : Nat) : Int) = a₀ + (i : Int) + 1 := by omega
        have e2 : (n : Int) - ((i + 1 : Nat) : Int) = (n : Int) - (i : Int) - 1 := by omega
        rw [e1, e2]; exact hi5
      cases f with
      | next => exact next hf
      | cont => exact next hf
      | brk => exact hf.elim
      | ret w => exact hf
    · have : i = n := by omega
      subst this
      refine wpAny_pyNext_range_end hh hit (by omega) fun h2 hs2 => fin σ h2 tk1 hJ ?_ ?_
      · exact ⟨F.ns.at' fun o e => hs2 _ o hL e, fun b o e => hs2 b o (fun q => by rw [q, hgI] at e; cases e) (F.keep b o e), F.above⟩
      · exact fun p hp => ⟨hs2 _ _ (neN (Nat.ne_of_lt (hnI p hp))) (N p hp).1, (N p hp).2⟩

/-- a while by its state and a measure -/
theorem my_While {test : Expr} {body : List Stmt} {pos : Pos} {led : List (Addr × Obj)} (mk : α → Str → Option Value) (J : α → Prop) (μ : α → Nat) (σ₀ : α)
    (hs₀ : s₀ = { s with heap := s₀.heap, toks := s₀.toks }) (F₀ : Fr g env.locals s₀.heap (mk σ₀)) (N₀ : News g env.locals s₀.heap led) (h0 : J σ₀)
    (turn : ∀ σ h tk, J σ → Fr g env.locals h (mk σ) → News g env.locals h led →
      wpAny (model prog w) A (isTrue test env (eval test env)) (fun b s₂ =>
        if b = true then wpAny (model prog w) A (execs body env) (fun f s₄ => match f with
          | .next | .cont => TurnEnd g env.locals s led mk (fun σ' => J σ' ∧ μ σ' < μ σ) s₄
          | .brk => False
          | .ret w => Q (.ret w) s₄) NoE s₂
        else Q .next s₂) NoE { s with heap := h, toks := tk }) :
    wpAny (model prog w) A (exec (.While test body [] pos) env) Q E s₀ := by
  refine wpAny_While (codeAny_whileLoop (fun k s₁ => ∃ h tk σ, s₁ = { s with heap := h, toks := tk } ∧ k = μ σ ∧ J σ ∧ Fr g env.locals h (mk σ) ∧ News g env.locals h led) ?_ (μ σ₀) ⟨_, _, σ₀, hs₀, rfl, h0, F₀, N₀⟩)
  rintro k s₁ ⟨h, tk, σ, rfl, rfl, hJ, F, N⟩
  refine wpAny_mono (turn σ h tk hJ F N) (fun b s₂ h₂ => ?_) fun _ _ e => e.elim
  cases b with
  | false =>
    simp only [Bool.false_eq_true, if_false] at h₂ ⊢
    exact wpAny_execs_nil h₂
  | true =>
    simp only [if_true] at h₂ ⊢
    refine wpAny_mono h₂ (fun f s₄ hf => ?_) fun _ _ e => e.elim
    have next : TurnEnd g env.locals s led mk (fun σ' => J σ' ∧ μ σ' < μ σ) s₄ → ∃ m, m < μ σ ∧ ∃ h tk σ, s₄ = { s with heap := h, toks := tk } ∧ m = μ σ ∧ J σ ∧ Fr g env.locals h (mk σ) ∧ News g env.locals h led := by
      rintro ⟨h5, tk5, σ5, rfl, F5, N5, J5, hm⟩
      exact ⟨μ σ5, hm, h5, tk5, σ5, rfl, rfl, J5, F5, N5⟩
    cases f with
    | next => exact next hf
    | cont => exact next hf
    | brk => exact hf.elim
    | ret w => exact hf
end
end Mine
end
section
open PySem PySem.W PyProof.Rows PySem.Calls
set_option maxRecDepth 100000
set_option maxHeartbeats 4000000
namespace Mine

def sit (x : Str) : String := if x.cps.all (· < 128) = true then "str_ascii_iterator" else "str_iterator"

section
variable {prog : Program} {w : World} {A : Around} {E : Value → Shared → Prop} {s : Shared}

theorem iter_str {x : Str} {t : Tok} {Q : Value → Shared → Prop}
    (hQ : Q (.ref s.heap.objs.size) { s with heap := s.heap.push { cls := .type (sit x), data := .fields #[.str x t, .int 0 0] } }) :
    wpAny (model prog w) A (pyIter (.str x t)) Q E s := by
  by_cases ha : x.cps.all (· < 128) = true
  · unfold sit at hQ; rw [if_pos ha] at hQ; exact wpAny_pyIter_ascii ha hQ
  · unfold sit at hQ; rw [if_neg ha] at hQ; exact wpAny_pyIter_wide (by simpa using ha) hQ

theorem nextOf_str_item {it : Addr} {x : Str} {t : Tok} {i c : Nat} {Q : Value → Shared → Prop} (hit : s.heap.IsStrIter it (sit x) x t i) (hx : x.cps[i]? = some c)
    (hQ : ∀ h', h'.IsStrIter it (sit x) x t (i + 1) → Heap.SameBut it s.heap h' → Q (.str ⟨#[c]⟩ s.toks) { s with heap := h', toks := s.toks + 1 }) :
    wpAny (model prog w) A (Builtin.SmallTypes.nextOf (.ref it)) Q E s := by
  obtain ⟨o, ho, hc, hd⟩ := id hit
  have main : ∀ (T : String), sit x = T → Slot T "__next__" (T ++ ".__next__") → True := fun _ _ _ => trivial
  clear main
  unfold Builtin.SmallTypes.nextOf
  by_cases ha : x.cps.all (· < 128) = true
  · have e : sit x = "str_ascii_iterator" := by unfold sit; rw [if_pos ha]
    rw [e] at hit hQ hc
    refine wpAny_bind (wpAny_callSpecial?_slot (name := Str.ofString "__next__") hit.typeIs PySem.F.slot_str_ascii_iterator_next
      (wpAny_call_entry PySem.F.slot_str_ascii_iterator_next hit.typeIs PySem.F.entry_str_ascii_iterator_next ?_ (PySem.F.args_str_ascii_iterator_next_1 _)))
    show wpAny _ _ (field (.ref it) 0 >>= _) _ _ s
    refine wpAny_bind (wpAny_field ho hd (x := .str x t) rfl ?_)
    show wpAny _ _ (field (.ref it) 1 >>= _) _ _ s
    refine wpAny_bind (wpAny_field ho hd (x := .int i 0) rfl ?_)
    simp only [Int.toNat_natCast, hx]
    refine wpAny_bind (wpAny_setField ho hd (by simp) (wpAny_bind (wpAny_mkStr (wpAny_pure ⟨_, rfl, wpAny_pure (hQ _ ?_ (Heap.SameBut.update ..))⟩) (by show 1 ≤ sizeLine; decide))))
    exact ⟨_, Heap.get?_update_self _ ho (Obj.isFreed_of_fields (Obj.data_mapFields hd _)), (Obj.cls_mapFields ..).trans hc, by
      rw [Obj.data_mapFields hd]; simp [rawInt]⟩
  · have e : sit x = "str_iterator" := by unfold sit; rw [if_neg ha]
    rw [e] at hit hQ hc
    refine wpAny_bind (wpAny_callSpecial?_slot (name := Str.ofString "__next__") hit.typeIs PySem.F.slot_str_iterator_next
      (wpAny_call_entry PySem.F.slot_str_iterator_next hit.typeIs PySem.F.entry_str_iterator_next ?_ (PySem.F.args_str_iterator_next_1 _)))
    show wpAny _ _ (field (.ref it) 0 >>= _) _ _ s
    refine wpAny_bind (wpAny_field ho hd (x := .str x t) rfl ?_)
    show wpAny _ _ (field (.ref it) 1 >>= _) _ _ s
    refine wpAny_bind (wpAny_field ho hd (x := .int i 0) rfl ?_)
    simp only [Int.toNat_natCast, hx]
    refine wpAny_bind (wpAny_setField ho hd (by simp) (wpAny_bind (wpAny_mkStr (wpAny_pure ⟨_, rfl, wpAny_pure (hQ _ ?_ (Heap.SameBut.update ..))⟩) (by show 1 ≤ sizeLine; decide))))
    exact ⟨_, Heap.get?_update_self _ ho (Obj.isFreed_of_fields (Obj.data_mapFields hd _)), (Obj.cls_mapFields ..).trans hc, by
      rw [Obj.data_mapFields hd]; simp [rawInt]⟩

theorem nextOf_str_end {it : Addr} {x : Str} {t : Tok} {i : Nat} {Q : Value → Shared → Prop} (hh : A.handled = none)
    (hit : s.heap.IsStrIter it (sit x) x t i) (hx : x.cps[i]? = none)
    (hE : ∀ h' e, Heap.ExtBut it s.heap h' → (∃ o, h'.get? e = some o ∧ o.cls = .type "StopIteration") → E (.ref e) { s with heap := h' }) :
    wpAny (model prog w) A (Builtin.SmallTypes.nextOf (.ref it)) Q E s := by
  obtain ⟨o, ho, hc, hd⟩ := id hit
  unfold Builtin.SmallTypes.nextOf
  by_cases ha : x.cps.all (· < 128) = true
  · have e : sit x = "str_ascii_iterator" := by unfold sit; rw [if_pos ha]
    rw [e] at hit hc
    refine wpAny_bind (wpAny_callSpecial?_slot (name := Str.ofString "__next__") hit.typeIs PySem.F.slot_str_ascii_iterator_next
      (wpAny_call_entry PySem.F.slot_str_ascii_iterator_next hit.typeIs PySem.F.entry_str_ascii_iterator_next ?_ (PySem.F.args_str_ascii_iterator_next_1 _)))
    show wpAny _ _ (field (.ref it) 0 >>= _) _ _ s
    refine wpAny_bind (wpAny_field ho hd (x := .str x t) rfl ?_)
    show wpAny _ _ (field (.ref it) 1 >>= _) _ _ s
    refine wpAny_bind (wpAny_field ho hd (x := .int i 0) rfl ?_)
    simp only [Int.toNat_natCast, hx]
    refine wpAny_bind (wpAny_rule (wpAny_bind (wpAny_setField ho hd (by simp) (wpAny_bind (wpAny_letGo ?_)))))
    show wpAny _ _ (newExc (.type "StopIteration") [] >>= _) _ _ _
    refine wpAny_bind ?_
    simp only [newExc, newTuple]
    refine wpAny_bind (wpAny_newObj_type ?_ (by size_fits))
    refine wpAny_bind (m := firstArgMember _ _) (wpAny_of_eq (a := Value.none) (by first | rfl | (simp only [firstArgMember]; rfl)) ?_)
    refine wpAny_newObj_type ?_ (by size_fits)
    simp only [raiseNew]
    refine wpAny_bind (wpAny_handled ?_)
    rw [show A.in1.handled = none from hh]
    refine wpAny_bind (wpAny_pure (wpAny_throw ?_))
    exact hE _ _ (((Heap.SameBut.update ..).extBut.push _).push _) ⟨_, Heap.get?_push_size _ rfl, rfl⟩
  · have e : sit x = "str_iterator" := by unfold sit; rw [if_neg ha]
    rw [e] at hit hc
    refine wpAny_bind (wpAny_callSpecial?_slot (name := Str.ofString "__next__") hit.typeIs PySem.F.slot_str_iterator_next
      (wpAny_call_entry PySem.F.slot_str_iterator_next hit.typeIs PySem.F.entry_str_iterator_next ?_ (PySem.F.args_str_iterator_next_1 _)))
    show wpAny _ _ (field (.ref it) 0 >>= _) _ _ s
    refine wpAny_bind (wpAny_field ho hd (x := .str x t) rfl ?_)
    show wpAny _ _ (field (.ref it) 1 >>= _) _ _ s
    refine wpAny_bind (wpAny_field ho hd (x := .int i 0) rfl ?_)
    simp only [Int.toNat_natCast, hx]
    refine wpAny_bind (wpAny_rule (wpAny_bind (wpAny_setField ho hd (by simp) (wpAny_bind (wpAny_letGo ?_)))))
    show wpAny _ _ (newExc (.type "StopIteration") [] >>= _) _ _ _
    refine wpAny_bind ?_
    simp only [newExc, newTuple]
    refine wpAny_bind (wpAny_newObj_type ?_ (by size_fits))
    refine wpAny_bind (m := firstArgMember _ _) (wpAny_of_eq (a := Value.none) (by first | rfl | (simp only [firstArgMember]; rfl)) ?_)
    refine wpAny_newObj_type ?_ (by size_fits)
    simp only [raiseNew]
    refine wpAny_bind (wpAny_handled ?_)
    rw [show A.in1.handled = none from hh]
    refine wpAny_bind (wpAny_pure (wpAny_throw ?_))
    exact hE _ _ (((Heap.SameBut.update ..).extBut.push _).push _) ⟨_, Heap.get?_push_size _ rfl, rfl⟩
end
end Mine
end
section
open PySem PySem.W PyProof.Rows PySem.Calls
set_option maxRecDepth 100000
set_option maxHeartbeats 4000000
namespace Mine

abbrev IsZ (h : Heap) (z TI TO : Addr) (f0 f1 : Value) : Prop :=
  h.get? z = some { cls := .type "zip", dict := none, data := .fields #[f0, f1, .bool false, .ref TI, .ref TO], slots := #[] }

structure ZipSt (h : Heap) (n : Nat) (x y : Str) (tx ty : Tok) (i : Nat) : Prop where
  hz : ∃ f0 f1, IsZ h (n + 4) (n + 2) (n + 3) f0 f1 ∧ ((f0 = .none ∧ f1 = .bool false) ∨ ∃ (T : Addr) (o : Obj), f0 = rawInt T ∧ @LT.lt Nat _ (n + 4) T ∧ h.get? T = some o ∧ (f1 = .bool true ∨ f1 = .bool false))
  hTI : IsPair h (n + 2) (.ref n) (.ref (n + 1))
  hTO : ∃ a b, IsPair h (n + 3) a b
  h1 : h.IsStrIter n (sit x) x tx i
  h2 : h.IsStrIter (n + 1) (sit y) y ty i

theorem isr_at {h h' : Heap} {a : Addr} {T : String} {x : Str} {t : Tok} {i : Nat} (y : h.IsStrIter a T x t i) (e : ∀ o, h.get? a = some o → h'.get? a = some o) : h'.IsStrIter a T x t i :=
  let ⟨o, ho, r⟩ := y; ⟨o, e o ho, r⟩

section
variable {prog : Program} {w : World} {A : Around} {E : Value → Shared → Prop} {s : Shared}

theorem wpAny_alive {M : Model} {a : Addr} {Q : Option Obj → Shared → Prop} (h : Q (s.heap.get? a) s) : wpAny M A (loadIfAlive a) Q E s := fun _ _ _ => h

theorem zip_item {n : Nat} {x y : Str} {tx ty : Tok} {i c d : Nat} {Q : Value → Shared → Prop} (st : ZipSt s.heap n x y tx ty i) (hx : x.cps[i]? = some c) (hy : y.cps[i]? = some d)
    (hQ : ∀ h' tk T t u, ZipSt h' n x y tx ty (i + 1) → h'.get? T = some { cls := .type "tuple", data := .seq #[.str ⟨#[c]⟩ t, .str ⟨#[d]⟩ u] } → s.heap.get? T = none → n + 4 < T →
      (∀ b o, b ≠ n → b ≠ n + 1 → b ≠ n + 3 → b ≠ n + 4 → s.heap.get? b = some o → h'.get? b = some o) → Q (.ref T) { s with heap := h', toks := tk }) :
    wpAny (model prog w) A (Builtin.«zip.__next__» ⟨[.ref (n + 4)], []⟩) (fun fin s' => ∃ v, fin = .done (.ret v) ∧ Q v s') E s := by
  obtain ⟨⟨f0, f1, hz, hf⟩, hTI, ⟨a, b, hTO⟩, h1, h2⟩ := st
  show wpAny _ _ (field (.ref (n + 4)) 2 >>= _) _ _ _
  refine wpAny_bind (wpAny_field hz rfl (x := .bool false) rfl ?_)
  show wpAny _ _ (field (.ref (n + 4)) 3 >>= _) _ _ _
  refine wpAny_bind (wpAny_field hz rfl (x := .ref (n + 2)) rfl ?_)
  refine wpAny_bind (wpAny_seqItems hTI rfl ?_)
  show wpAny _ _ (Builtin.SmallTypes.ownedTupleIsFree (.ref (n + 4)) >>= _) _ _ _
  refine wpAny_bind ?_
  unfold Builtin.SmallTypes.ownedTupleIsFree
  have hlt : n + 4 < s.heap.objs.size := Heap.lt_size hz
  rcases hf with ⟨rfl, rfl⟩ | ⟨T, o, rfl, hnT, hT, hf1⟩
  · refine wpAny_bind (wpAny_field hz rfl (x := .none) rfl (wpAny_pure ?_))
    simp only [if_true]
    refine wpAny_bind (wpAny_rule ?_)
    refine wpAny_bind (wpAny_field hz rfl (x := .ref (n + 3)) rfl ?_)
    refine wpAny_bind (wpAny_setField_rec hz (by simp) fun h₁ hz₁ hs₁ => ?_)
    replace hz₁ : IsZ h₁ (n + 4) (n + 2) (n + 3) .ellipsis (.bool false) := hz₁
    refine wpAny_bind ?_
    simp only [List.zipIdx_cons, List.zipIdx_nil, List.forIn_cons, List.forIn_nil]
    refine wpAny_bind (wpAny_bind (wpAny_onRaise ?_))
    show wpAny _ _ (Builtin.SmallTypes.nextOf (.ref n) >>= _) _ _ _
    refine wpAny_bind (nextOf_str_item (h1.extBut hs₁.extBut (neN (by omega))) hx fun h₂ h1₂ hs₂ => wpAny_pure ?_)
    have hTO₂ : IsPair h₂ (n + 3) a b := hs₂.extBut _ _ (neN (by omega)) (hs₁.extBut _ _ (neN (by omega)) hTO)
    refine wpAny_bind (wpAny_seqItems hTO₂ rfl ?_)
    refine wpAny_bind (wpAny_updateSeq_pair hTO₂ fun h₃ hTO₃ hs₃ => ?_)
    replace hTO₃ : IsPair h₃ (n + 3) (.str ⟨#[c]⟩ s.toks) b := hTO₃
    refine wpAny_bind (wpAny_letGo (wpAny_pure ?_))
    refine wpAny_bind (wpAny_bind (wpAny_onRaise ?_))
    show wpAny _ _ (Builtin.SmallTypes.nextOf (.ref (n + 1)) >>= _) _ _ _
    refine wpAny_bind (nextOf_str_item (((h2.extBut hs₁.extBut (neN (by omega))).extBut hs₂.extBut (neN (by omega))).extBut hs₃.extBut (neN (by omega))) hy fun h₄ h2₄ hs₄ => wpAny_pure ?_)
    have hTO₄ : IsPair h₄ (n + 3) (.str ⟨#[c]⟩ s.toks) b := hs₄.extBut _ _ (neN (by omega)) hTO₃
    refine wpAny_bind (wpAny_seqItems hTO₄ rfl ?_)
    refine wpAny_bind (wpAny_updateSeq_pair hTO₄ fun h₅ hTO₅ hs₅ => ?_)
    replace hTO₅ : IsPair h₅ (n + 3) (.str ⟨#[c]⟩ s.toks) (.str ⟨#[d]⟩ (s.toks + 1)) := hTO₅
    refine wpAny_bind (wpAny_letGo (wpAny_pure (wpAny_pure ?_)))
    refine wpAny_bind (wpAny_seqItems hTO₅ rfl ?_)
    refine wpAny_bind (wpAny_newTuple ?_)
    have hsz : h₅.objs.size = s.heap.objs.size := by rw [hs₅.1, hs₄.1, hs₃.1, hs₂.1, hs₁.1]
    have hz₅ : IsZ h₅ (n + 4) (n + 2) (n + 3) .ellipsis (.bool false) := hs₅.extBut _ _ (neN (by omega)) (hs₄.extBut _ _ (neN (by omega)) (hs₃.extBut _ _ (neN (by omega)) (hs₂.extBut _ _ (neN (by omega)) hz₁)))
    have hk₅ : ∀ c o, c ≠ n → c ≠ n + 1 → c ≠ n + 3 → c ≠ n + 4 → s.heap.get? c = some o → h₅.get? c = some o := fun c o c1 c2 c3 c4 e =>
      hs₅.extBut _ _ c3 (hs₄.extBut _ _ c2 (hs₃.extBut _ _ c3 (hs₂.extBut _ _ c1 (hs₁.extBut _ _ c4 e))))
    have h1₅ : h₅.IsStrIter n (sit x) x tx (i + 1) := ((h1₂.extBut hs₃.extBut (neN (by omega))).extBut hs₄.extBut (neN (by omega))).extBut hs₅.extBut (neN (by omega))
    have h2₅ : h₅.IsStrIter (n + 1) (sit y) y ty (i + 1) := h2₄.extBut hs₅.extBut (neN (by omega))
    show wpAny _ _ (Builtin.SmallTypes.ownedTupleHandOut (.ref (n + 4)) (.ref h₅.objs.size) >>= _) _ _ _
    refine wpAny_bind ?_
    unfold Builtin.SmallTypes.ownedTupleHandOut
    have hz₆ : IsZ (h₅.push { cls := .type "tuple", data := .seq #[.str ⟨#[c]⟩ s.toks, .str ⟨#[d]⟩ (s.toks + 1)] }) (n + 4) (n + 2) (n + 3) .ellipsis (.bool false) := Heap.get?_push_of_some _ hz₅
    refine wpAny_bind (wpAny_setField_rec hz₆ (by simp) fun h₇ hz₇ hs₇ => ?_)
    replace hz₇ : IsZ h₇ (n + 4) (n + 2) (n + 3) (rawInt h₅.objs.size) (.bool false) := hz₇
    refine wpAny_setField_rec hz₇ (by simp) fun h₈ hz₈ hs₈ => ?_
    replace hz₈ : IsZ h₈ (n + 4) (n + 2) (n + 3) (rawInt h₅.objs.size) (.bool false) := hz₈
    have up : ∀ c o, c ≠ n + 4 → h₅.get? c = some o → h₈.get? c = some o := fun c o c1 e => hs₈.extBut _ _ c1 (hs₇.extBut _ _ c1 (Heap.get?_push_of_some _ e))
    have hT₈ : IsPair h₈ h₅.objs.size (.str ⟨#[c]⟩ s.toks) (.str ⟨#[d]⟩ (s.toks + 1)) := hs₈.extBut _ _ (by rw [hsz]; exact Nat.ne_of_gt hlt) (hs₇.extBut _ _ (by rw [hsz]; exact Nat.ne_of_gt hlt) (Heap.get?_push_size _ rfl))
    rw [hsz] at hz₈ hT₈
    refine wpAny_pure ⟨_, rfl, ?_⟩
    show Q (.ref h₅.objs.size) _
    rw [hsz]
    refine hQ h₈ _ s.heap.objs.size s.toks (s.toks + 1) ⟨⟨_, _, hz₈, .inr ⟨_, _, rfl, hlt, hT₈, .inr rfl⟩⟩, up _ _ (neN (by omega)) (hk₅ _ _ (neN (by omega)) (neN (by omega)) (neN (by omega)) (neN (by omega)) hTI), ⟨_, _, up _ _ (neN (by omega)) hTO₅⟩, isr_at h1₅ fun o e => up _ o (neN (by omega)) e, isr_at h2₅ fun o e => up _ o (neN (by omega)) e⟩ hT₈ ?_ hlt
      fun c o c1 c2 c3 c4 e => up c o c4 (hk₅ c o c1 c2 c3 c4 e)
    cases e : s.heap.get? s.heap.objs.size with
    | none => rfl
    | some o => exact absurd (Heap.lt_size e) (Nat.lt_irrefl _)
  · refine wpAny_bind (wpAny_field hz rfl (x := rawInt T) rfl ?_)
    dsimp only [rawInt]
    refine wpAny_bind (wpAny_alive ?_)
    rw [Int.toNat_natCast, hT]
    simp only [Option.isNone_some, Bool.false_eq_true, if_false]
    refine wpAny_bind (wpAny_field hz rfl (x := f1) rfl ?_)
    rcases hf1 with rfl | rfl
    · rw [if_neg (by decide)]
      refine wpAny_pure ?_
      obtain ⟨h₁, eh⟩ : ∃ h₁, h₁ = s.heap := ⟨_, rfl⟩
      have hz₁ : IsZ h₁ (n + 4) (n + 2) (n + 3) (rawInt T) (.bool true) := eh ▸ hz
      have hk₁ : ∀ c o, c ≠ n + 4 → s.heap.get? c = some o → h₁.get? c = some o := fun c o _ e => eh ▸ e
      have hsz₁ : h₁.objs.size = s.heap.objs.size := by rw [eh]
      have es : s = { s with heap := h₁ } := by rw [eh]
      rw [es]
      have fin : ∀ (P : Prop), P → P := fun _ h => h
      simp only [Bool.false_eq_true, if_false]
      refine wpAny_bind ?_
      rw [← Array.forIn_toList]
      simp only [List.forIn_cons, List.forIn_nil]
      refine wpAny_bind (wpAny_bind (wpAny_holding ?_))
      show wpAny _ _ (Builtin.SmallTypes.nextOf (.ref n) >>= _) _ _ _
      refine wpAny_bind (nextOf_str_item (isr_at h1 fun o e => hk₁ _ o (neN (by omega)) e) hx fun h₂ h1₂ hs₂ => wpAny_pure ?_)
      refine wpAny_pure ?_
      refine wpAny_bind (wpAny_bind (wpAny_holding ?_))
      show wpAny _ _ (Builtin.SmallTypes.nextOf (.ref (n + 1)) >>= _) _ _ _
      refine wpAny_bind (nextOf_str_item (isr_at h2 fun o e => hs₂.extBut _ _ (neN (by omega)) (hk₁ _ o (neN (by omega)) e)) hy fun h₃ h2₃ hs₃ => wpAny_pure ?_)
      refine wpAny_pure (wpAny_pure ?_)
      refine wpAny_bind (wpAny_newTuple (wpAny_pure ⟨_, rfl, ?_⟩) (Nat.le_of_ble_eq_true rfl))
      have hsz : h₃.objs.size = s.heap.objs.size := by rw [hs₃.1, hs₂.1, hsz₁]
      have up : ∀ c o, c ≠ n → c ≠ n + 1 → h₁.get? c = some o → h₃.get? c = some o := fun c o c1 c2 e => hs₃.extBut _ _ c2 (hs₂.extBut _ _ c1 e)
      have hfr : s.heap.get? s.heap.objs.size = none := by
        cases e : s.heap.get? s.heap.objs.size with
        | none => rfl
        | some o => exact absurd (Heap.lt_size e) (Nat.lt_irrefl _)
      have hT₃ : (h₃.push { cls := .type "tuple", data := .seq #[.str ⟨#[c]⟩ s.toks, .str ⟨#[d]⟩ (s.toks + 1)] }).get? s.heap.objs.size = some { cls := .type "tuple", data := .seq #[.str ⟨#[c]⟩ s.toks, .str ⟨#[d]⟩ (s.toks + 1)] } := by
        rw [← hsz]; exact Heap.get?_push_size _ rfl
      show Q (.ref h₃.objs.size) _
      rw [hsz]
      exact hQ _ _ s.heap.objs.size s.toks (s.toks + 1) ⟨⟨_, _, Heap.get?_push_of_some _ (up _ _ (neN (by omega)) (neN (by omega)) hz₁), .inr ⟨T, o, rfl, hnT, Heap.get?_push_of_some _ (up _ _ (neN (by omega)) (neN (by omega)) (hk₁ _ _ (neN (by omega)) hT)), .inl rfl⟩⟩,
        Heap.get?_push_of_some _ (up _ _ (neN (by omega)) (neN (by omega)) (hk₁ _ _ (neN (by omega)) hTI)), ⟨a, b, Heap.get?_push_of_some _ (up _ _ (neN (by omega)) (neN (by omega)) (hk₁ _ _ (neN (by omega)) hTO))⟩,
        isr_at h1₂ fun o e => Heap.get?_push_of_some _ (hs₃.extBut _ _ (neN (by omega)) e), isr_at h2₃ fun o e => Heap.get?_push_of_some _ e⟩ hT₃ hfr hlt
        fun c o c1 c2 c3 c4 e => Heap.get?_push_of_some _ (up c o c1 c2 (hk₁ c o c4 e))
    · rw [if_pos (by decide)]
      refine wpAny_bind (wpAny_setField_rec hz (by simp) fun h₁ hz₁ hs₁ => ?_)
      replace hz₁ : IsZ h₁ (n + 4) (n + 2) (n + 3) (rawInt T) (.bool true) := hz₁
      have hk₁ : ∀ c o, c ≠ n + 4 → s.heap.get? c = some o → h₁.get? c = some o := fun c o hc e => hs₁.extBut _ _ hc e
      have hsz₁ : h₁.objs.size = s.heap.objs.size := hs₁.1
      refine wpAny_pure ?_
      simp only [Bool.false_eq_true, if_false]
      refine wpAny_bind ?_
      rw [← Array.forIn_toList]
      simp only [List.forIn_cons, List.forIn_nil]
      refine wpAny_bind (wpAny_bind (wpAny_holding ?_))
      show wpAny _ _ (Builtin.SmallTypes.nextOf (.ref n) >>= _) _ _ _
      refine wpAny_bind (nextOf_str_item (isr_at h1 fun o e => hk₁ _ o (neN (by omega)) e) hx fun h₂ h1₂ hs₂ => wpAny_pure ?_)
      refine wpAny_pure ?_
      refine wpAny_bind (wpAny_bind (wpAny_holding ?_))
      show wpAny _ _ (Builtin.SmallTypes.nextOf (.ref (n + 1)) >>= _) _ _ _
      refine wpAny_bind (nextOf_str_item (isr_at h2 fun o e => hs₂.extBut _ _ (neN (by omega)) (hk₁ _ o (neN (by omega)) e)) hy fun h₃ h2₃ hs₃ => wpAny_pure ?_)
      refine wpAny_pure (wpAny_pure ?_)
      refine wpAny_bind (wpAny_newTuple (wpAny_pure ⟨_, rfl, ?_⟩) (Nat.le_of_ble_eq_true rfl))
      have hsz : h₃.objs.size = s.heap.objs.size := by rw [hs₃.1, hs₂.1, hsz₁]
      have up : ∀ c o, c ≠ n → c ≠ n + 1 → h₁.get? c = some o → h₃.get? c = some o := fun c o c1 c2 e => hs₃.extBut _ _ c2 (hs₂.extBut _ _ c1 e)
      have hfr : s.heap.get? s.heap.objs.size = none := by
        cases e : s.heap.get? s.heap.objs.size with
        | none => rfl
        | some o => exact absurd (Heap.lt_size e) (Nat.lt_irrefl _)
      have hT₃ : (h₃.push { cls := .type "tuple", data := .seq #[.str ⟨#[c]⟩ s.toks, .str ⟨#[d]⟩ (s.toks + 1)] }).get? s.heap.objs.size = some { cls := .type "tuple", data := .seq #[.str ⟨#[c]⟩ s.toks, .str ⟨#[d]⟩ (s.toks + 1)] } := by
        rw [← hsz]; exact Heap.get?_push_size _ rfl
      show Q (.ref h₃.objs.size) _
      rw [hsz]
      exact hQ _ _ s.heap.objs.size s.toks (s.toks + 1) ⟨⟨_, _, Heap.get?_push_of_some _ (up _ _ (neN (by omega)) (neN (by omega)) hz₁), .inr ⟨T, o, rfl, hnT, Heap.get?_push_of_some _ (up _ _ (neN (by omega)) (neN (by omega)) (hk₁ _ _ (neN (by omega)) hT)), .inl rfl⟩⟩,
        Heap.get?_push_of_some _ (up _ _ (neN (by omega)) (neN (by omega)) (hk₁ _ _ (neN (by omega)) hTI)), ⟨a, b, Heap.get?_push_of_some _ (up _ _ (neN (by omega)) (neN (by omega)) (hk₁ _ _ (neN (by omega)) hTO))⟩,
        isr_at h1₂ fun o e => Heap.get?_push_of_some _ (hs₃.extBut _ _ (neN (by omega)) e), isr_at h2₃ fun o e => Heap.get?_push_of_some _ e⟩ hT₃ hfr hlt
        fun c o c1 c2 c3 c4 e => Heap.get?_push_of_some _ (up c o c1 c2 (hk₁ c o c4 e))

theorem zip_end {n : Nat} {x y : Str} {tx ty : Tok} {i : Nat} {Q : Fin → Shared → Prop} (hh : A.handled = none) (st : ZipSt s.heap n x y tx ty i) (hend : x.cps[i]? = none ∨ y.cps[i]? = none)
    (hE : ∀ h' tk e, (∀ b o, b ≠ n → b ≠ n + 1 → b ≠ n + 3 → b ≠ n + 4 → s.heap.get? b = some o → h'.get? b = some o) → (∃ o, h'.get? e = some o ∧ o.cls = .type "StopIteration") → E (.ref e) { s with heap := h', toks := tk }) :
    wpAny (model prog w) A (Builtin.«zip.__next__» ⟨[.ref (n + 4)], []⟩) Q E s := by
  obtain ⟨⟨f0, f1, hz, hf⟩, hTI, ⟨a, b, hTO⟩, h1, h2⟩ := st
  show wpAny _ _ (field (.ref (n + 4)) 2 >>= _) _ _ _
  refine wpAny_bind (wpAny_field hz rfl (x := .bool false) rfl ?_)
  show wpAny _ _ (field (.ref (n + 4)) 3 >>= _) _ _ _
  refine wpAny_bind (wpAny_field hz rfl (x := .ref (n + 2)) rfl ?_)
  refine wpAny_bind (wpAny_seqItems hTI rfl ?_)
  show wpAny _ _ (Builtin.SmallTypes.ownedTupleIsFree (.ref (n + 4)) >>= _) _ _ _
  refine wpAny_bind ?_
  unfold Builtin.SmallTypes.ownedTupleIsFree
  have hlt : n + 4 < s.heap.objs.size := Heap.lt_size hz
  rcases hf with ⟨rfl, rfl⟩ | ⟨T, o, rfl, hnT, hT, hf1⟩
  · refine wpAny_bind (wpAny_field hz rfl (x := .none) rfl (wpAny_pure ?_))
    simp only [if_true]
    refine wpAny_bind (wpAny_rule ?_)
    refine wpAny_bind (wpAny_field hz rfl (x := .ref (n + 3)) rfl ?_)
    refine wpAny_bind (wpAny_setField_rec hz (by simp) fun h₁ hz₁ hs₁ => ?_)
    replace hz₁ : IsZ h₁ (n + 4) (n + 2) (n + 3) .ellipsis (.bool false) := hz₁
    refine wpAny_bind ?_
    simp only [List.zipIdx_cons, List.zipIdx_nil, List.forIn_cons, List.forIn_nil]
    refine wpAny_bind (wpAny_bind (wpAny_onRaise ?_))
    show wpAny _ _ (Builtin.SmallTypes.nextOf (.ref n) >>= _) _ _ _
    cases hx : x.cps[i]? with
    | none =>
      refine wpAny_bind (nextOf_str_end hh (h1.extBut hs₁.extBut (neN (by omega))) hx fun h₂ e hs₂ he => ?_)
      obtain ⟨oe, hoe, hce⟩ := he
      have hz₂ : IsZ h₂ (n + 4) (n + 2) (n + 3) .ellipsis (.bool false) := hs₂ _ _ (neN (by omega)) hz₁
      have hez : e ≠ n + 4 := fun q => by subst q; rw [hz₂] at hoe; cases hoe; simp at hce
      refine wpAny_setField_rec hz₂ (by simp) fun h₃ _ hs₃ => hE h₃ _ e (fun c o c1 _ _ c4 q => hs₃.extBut _ _ c4 (hs₂ _ _ c1 (hs₁.extBut _ _ c4 q))) ⟨oe, hs₃.extBut _ _ hez hoe, hce⟩
    | some c =>
      have hy : y.cps[i]? = none := by rcases hend with h | h; rw [hx] at h; cases h; exact h
      refine wpAny_bind (nextOf_str_item (h1.extBut hs₁.extBut (neN (by omega))) hx fun h₂ h1₂ hs₂ => wpAny_pure ?_)
      have hTO₂ : IsPair h₂ (n + 3) a b := hs₂.extBut _ _ (neN (by omega)) (hs₁.extBut _ _ (neN (by omega)) hTO)
      refine wpAny_bind (wpAny_seqItems hTO₂ rfl ?_)
      refine wpAny_bind (wpAny_updateSeq_pair hTO₂ fun h₃ hTO₃ hs₃ => ?_)
      refine wpAny_bind (wpAny_letGo (wpAny_pure ?_))
      refine wpAny_bind (wpAny_bind (wpAny_onRaise ?_))
      show wpAny _ _ (Builtin.SmallTypes.nextOf (.ref (n + 1)) >>= _) _ _ _
      refine wpAny_bind (nextOf_str_end hh (((h2.extBut hs₁.extBut (neN (by omega))).extBut hs₂.extBut (neN (by omega))).extBut hs₃.extBut (neN (by omega))) hy fun h₄ e hs₄ he => ?_)
      obtain ⟨oe, hoe, hce⟩ := he
      have hz₄ : IsZ h₄ (n + 4) (n + 2) (n + 3) .ellipsis (.bool false) := hs₄ _ _ (neN (by omega)) (hs₃.extBut _ _ (neN (by omega)) (hs₂.extBut _ _ (neN (by omega)) hz₁))
      have hez : e ≠ n + 4 := fun q => by subst q; rw [hz₄] at hoe; cases hoe; simp at hce
      refine wpAny_setField_rec hz₄ (by simp) fun h₅ _ hs₅ => hE h₅ _ e (fun c o c1 c2 c3 c4 q => hs₅.extBut _ _ c4 (hs₄ _ _ c2 (hs₃.extBut _ _ c3 (hs₂.extBut _ _ c1 (hs₁.extBut _ _ c4 q))))) ⟨oe, hs₅.extBut _ _ hez hoe, hce⟩
  · refine wpAny_bind (wpAny_field hz rfl (x := rawInt T) rfl ?_)
    dsimp only [rawInt]
    refine wpAny_bind (wpAny_alive ?_)
    rw [Int.toNat_natCast, hT]
    simp only [Option.isNone_some, Bool.false_eq_true, if_false]
    refine wpAny_bind (wpAny_field hz rfl (x := f1) rfl ?_)
    rcases hf1 with rfl | rfl
    · rw [if_neg (by decide)]
      refine wpAny_pure ?_
      obtain ⟨h₁, eh⟩ : ∃ h₁, h₁ = s.heap := ⟨_, rfl⟩
      have hk₁ : ∀ c o, c ≠ n + 4 → s.heap.get? c = some o → h₁.get? c = some o := fun c o _ e => eh ▸ e
      have es : s = { s with heap := h₁ } := by rw [eh]
      rw [es]
      simp only [Bool.false_eq_true, if_false]
      refine wpAny_bind ?_
      rw [← Array.forIn_toList]
      simp only [List.forIn_cons, List.forIn_nil]
      refine wpAny_bind (wpAny_bind (wpAny_holding ?_))
      show wpAny _ _ (Builtin.SmallTypes.nextOf (.ref n) >>= _) _ _ _
      cases hx : x.cps[i]? with
      | none =>
        refine wpAny_bind (nextOf_str_end hh (isr_at h1 fun o e => hk₁ _ o (neN (by omega)) e) hx fun h₂ e hs₂ he => ?_)
        exact hE h₂ _ e (fun c o c1 _ _ c4 q => hs₂ _ _ c1 (hk₁ c o c4 q)) he
      | some c =>
        have hy : y.cps[i]? = none := by rcases hend with h | h; rw [hx] at h; cases h; exact h
        refine wpAny_bind (nextOf_str_item (isr_at h1 fun o e => hk₁ _ o (neN (by omega)) e) hx fun h₂ h1₂ hs₂ => wpAny_pure ?_)
        refine wpAny_pure ?_
        refine wpAny_bind (wpAny_bind (wpAny_holding ?_))
        show wpAny _ _ (Builtin.SmallTypes.nextOf (.ref (n + 1)) >>= _) _ _ _
        refine wpAny_bind (nextOf_str_end hh (isr_at h2 fun o e => hs₂.extBut _ _ (neN (by omega)) (hk₁ _ o (neN (by omega)) e)) hy fun h₃ e hs₃ he => ?_)
        exact hE h₃ _ e (fun c o c1 c2 _ c4 q => hs₃ _ _ c2 (hs₂.extBut _ _ c1 (hk₁ c o c4 q))) he
    · rw [if_pos (by decide)]
      refine wpAny_bind (wpAny_setField_rec hz (by simp) fun h₁ hz₁ hs₁ => ?_)
      have hk₁ : ∀ c o, c ≠ n + 4 → s.heap.get? c = some o → h₁.get? c = some o := fun c o hc e => hs₁.extBut _ _ hc e
      refine wpAny_pure ?_
      simp only [Bool.false_eq_true, if_false]
      refine wpAny_bind ?_
      rw [← Array.forIn_toList]
      simp only [List.forIn_cons, List.forIn_nil]
      refine wpAny_bind (wpAny_bind (wpAny_holding ?_))
      show wpAny _ _ (Builtin.SmallTypes.nextOf (.ref n) >>= _) _ _ _
      cases hx : x.cps[i]? with
      | none =>
        refine wpAny_bind (nextOf_str_end hh (isr_at h1 fun o e => hk₁ _ o (neN (by omega)) e) hx fun h₂ e hs₂ he => ?_)
        exact hE h₂ _ e (fun c o c1 _ _ c4 q => hs₂ _ _ c1 (hk₁ c o c4 q)) he
      | some c =>
        have hy : y.cps[i]? = none := by rcases hend with h | h; rw [hx] at h; cases h; exact h
        refine wpAny_bind (nextOf_str_item (isr_at h1 fun o e => hk₁ _ o (neN (by omega)) e) hx fun h₂ h1₂ hs₂ => wpAny_pure ?_)
        refine wpAny_pure ?_
        refine wpAny_bind (wpAny_bind (wpAny_holding ?_))
        show wpAny _ _ (Builtin.SmallTypes.nextOf (.ref (n + 1)) >>= _) _ _ _
        refine wpAny_bind (nextOf_str_end hh (isr_at h2 fun o e => hs₂.extBut _ _ (neN (by omega)) (hk₁ _ o (neN (by omega)) e)) hy fun h₃ e hs₃ he => ?_)
        exact hE h₃ _ e (fun c o c1 c2 _ c4 q => hs₃ _ _ c2 (hs₂.extBut _ _ c1 (hk₁ c o c4 q))) he

theorem ZipSt.typeIs {n : Nat} {x y : Str} {tx ty : Tok} {i : Nat} (st : ZipSt s.heap n x y tx ty i) : s.TypeIs (.ref (n + 4)) "zip" := by
  obtain ⟨⟨f0, f1, hz, _⟩, _⟩ := st
  exact ⟨_, hz, rfl⟩

theorem next_zip_item {n : Nat} {x y : Str} {tx ty : Tok} {i c d : Nat} {Q : Option Value → Shared → Prop} (st : ZipSt s.heap n x y tx ty i) (hx : x.cps[i]? = some c) (hy : y.cps[i]? = some d)
    (hQ : ∀ h' tk T t u, ZipSt h' n x y tx ty (i + 1) → h'.get? T = some { cls := .type "tuple", data := .seq #[.str ⟨#[c]⟩ t, .str ⟨#[d]⟩ u] } → s.heap.get? T = none → n + 4 < T →
      (∀ b o, b ≠ n → b ≠ n + 1 → b ≠ n + 3 → b ≠ n + 4 → s.heap.get? b = some o → h'.get? b = some o) → Q (some (.ref T)) { s with heap := h', toks := tk }) :
    wpAny (model prog w) A (pyNext (.ref (n + 4))) Q E s := by
  unfold pyNext
  exact wpAny_bind (wpAny_attempt (wpAny_callSpecial?_slot (name := Str.ofString "__next__") st.typeIs PySem.F.slot_zip_next
    (wpAny_call_entry PySem.F.slot_zip_next st.typeIs PySem.F.entry_zip_next
      (zip_item st hx hy fun h' tk T t u a1 a2 a3 a4 a5 => wpAny_pure (hQ h' tk T t u a1 a2 a3 a4 a5)) (PySem.F.args_zip_next_1 _))))

theorem next_zip_end {n : Nat} {x y : Str} {tx ty : Tok} {i : Nat} {Q : Option Value → Shared → Prop} (hh : A.handled = none) (st : ZipSt s.heap n x y tx ty i) (hend : x.cps[i]? = none ∨ y.cps[i]? = none)
    (hQ : ∀ h' tk, (∀ b o, b ≠ n → b ≠ n + 1 → b ≠ n + 3 → b ≠ n + 4 → s.heap.get? b = some o → h'.get? b = some o) → Q none { s with heap := h', toks := tk }) : wpAny (model prog w) A (pyNext (.ref (n + 4))) Q E s := by
  unfold pyNext
  refine wpAny_bind (wpAny_attempt (wpAny_callSpecial?_slot (name := Str.ofString "__next__") st.typeIs PySem.F.slot_zip_next
    (wpAny_call_entry PySem.F.slot_zip_next st.typeIs PySem.F.entry_zip_next (zip_end hh st hend fun h' tk e hk he => ?_) (PySem.F.args_zip_next_1 _))))
  obtain ⟨o, ho, hc⟩ := he
  refine wpAny_bind (wpAny_isInstance (T := "StopIteration") (b := true) ⟨o, ho, hc⟩ isSubtype_stop ?_)
  exact wpAny_pure (hQ _ _ hk)

theorem iter_zip {n : Nat} {x y : Str} {tx ty : Tok} {i : Nat} {Q : Value → Shared → Prop} (st : ZipSt s.heap n x y tx ty i) (h : Q (.ref (n + 4)) s) : wpAny (model prog w) A (pyIter (.ref (n + 4))) Q E s := by
  have hT := st.typeIs
  refine wpAny_pyIter_slot hT PySem.F.slot_zip_iter (wpAny_call_entry PySem.F.slot_zip_iter hT PySem.F.entry_zip_iter ?_ (PySem.F.args_zip_iter_1 _))
  show wpAny _ _ (ret (.ref (n + 4))) _ _ s
  exact wpAny_pure ⟨_, rfl, "zip", _, hT, PySem.F.slot_zip_next.lookup, h⟩
end

abbrev zp1 (h : Heap) (x : Str) (tx : Tok) : Heap := h.push { cls := .type (sit x), data := .fields #[.str x tx, .int 0 0] }
abbrev zp2 (h : Heap) (x y : Str) (tx ty : Tok) : Heap := (zp1 h x tx).push { cls := .type (sit y), data := .fields #[.str y ty, .int 0 0] }
abbrev zp3 (h : Heap) (x y : Str) (tx ty : Tok) : Heap := (zp2 h x y tx ty).push { cls := .type "tuple", data := .seq #[.ref h.objs.size, .ref (zp1 h x tx).objs.size] }
abbrev zp4 (h : Heap) (x y : Str) (tx ty : Tok) : Heap := (zp3 h x y tx ty).push { cls := .type "tuple", data := .seq #[.none, .none] }
abbrev zp5 (h : Heap) (x y : Str) (tx ty : Tok) : Heap := (zp4 h x y tx ty).push { cls := .type "zip", data := .fields #[.none, .bool false, .bool false, .ref (zp2 h x y tx ty).objs.size, .ref (zp3 h x y tx ty).objs.size] }

theorem meets_zip_strs (x y : Str) (tx ty : Tok) :
    Meets (Builtin.«zip.__new__» ⟨[.type "zip", .str x tx, .str y ty], []⟩) (fun _ R s => R (.ok (.ret (.ref (zp4 s.heap x y tx ty).objs.size))) { s with heap := zp5 s.heap x y tx ty }) :=
  .of_wp fun prog w A R s h => by
    obtain ⟨hp, g, d, tk, os⟩ := s
    have hsub := sub_zip
    wp_walk using iter_str, iter_str
    exact ⟨_, rfl, h⟩

section
variable {prog : Program} {w : World} {A : Around} {E : Value → Shared → Prop} {s : Shared}
theorem call_zip_strs {x y : Str} {tx ty : Tok} {Q : Value → Shared → Prop}
    (h : ∀ h' n, n = s.heap.objs.size → ZipSt h' n x y tx ty 0 → (∀ c o, s.heap.get? c = some o → h'.get? c = some o) → Q (.ref (n + 4)) { s with heap := h' }) :
    wpAny (model prog w) A (call (.type "zip") [.str x tx, .str y ty]) Q E s := by
  refine callType_new PySem.F.called_zip (by decide) (PySem.F.typeCall_zip_2 _ _) (PySem.F.newCall_zip_2 _ _) (fun obj => PySem.F.args_object_init_3 obj _ _) PySem.F.entry_zip_new
    (meets_zip_strs x y tx ty) ?_
  have z1 : (zp1 s.heap x tx).objs.size = s.heap.objs.size + 1 := Heap.size_push ..
  have z2 : (zp2 s.heap x y tx ty).objs.size = s.heap.objs.size + 2 := by rw [Heap.size_push, z1]
  have z3 : (zp3 s.heap x y tx ty).objs.size = s.heap.objs.size + 3 := by rw [Heap.size_push, z2]
  have z4 : (zp4 s.heap x y tx ty).objs.size = s.heap.objs.size + 4 := by rw [Heap.size_push, z3]
  have g5 : (zp5 s.heap x y tx ty).get? (zp4 s.heap x y tx ty).objs.size = some _ := Heap.get?_push_size _ rfl
  have g4 : (zp5 s.heap x y tx ty).get? (zp3 s.heap x y tx ty).objs.size = some _ := Heap.get?_push_of_some _ (Heap.get?_push_size _ rfl)
  have g3 : (zp5 s.heap x y tx ty).get? (zp2 s.heap x y tx ty).objs.size = some _ := Heap.get?_push_of_some _ (Heap.get?_push_of_some _ (Heap.get?_push_size _ rfl))
  have g2 : (zp5 s.heap x y tx ty).get? (zp1 s.heap x tx).objs.size = some _ := Heap.get?_push_of_some _ (Heap.get?_push_of_some _ (Heap.get?_push_of_some _ (Heap.get?_push_size _ rfl)))
  have g1 : (zp5 s.heap x y tx ty).get? s.heap.objs.size = some _ := Heap.get?_push_of_some _ (Heap.get?_push_of_some _ (Heap.get?_push_of_some _ (Heap.get?_push_of_some _ (Heap.get?_push_size _ rfl))))
  show _ ∧ _
  rw [z2, z3, z4] at g5
  rw [z1, z2] at g3
  rw [z3] at g4
  rw [z1] at g2
  rw [z4]
  exact ⟨⟨_, g5, rfl⟩, h _ _ rfl ⟨⟨_, _, g5, .inl ⟨rfl, rfl⟩⟩, g3, ⟨_, _, g4⟩, ⟨_, g1, rfl, rfl⟩, ⟨_, g2, rfl, rfl⟩⟩ fun c o q =>
    Heap.get?_push_of_some _ (Heap.get?_push_of_some _ (Heap.get?_push_of_some _ (Heap.get?_push_of_some _ (Heap.get?_push_of_some _ q))))⟩
end
end Mine
end
section
open PySem PySem.W PyProof.Rows PySem.Calls
set_option maxRecDepth 100000
set_option maxHeartbeats 4000000
namespace Mine

def lcp : List Nat → List Nat → List Nat
  | a :: x, b :: y => if a = b then a :: lcp x y else []
  | _, _ => []

theorem lcp_len : ∀ (X Y : List Nat) (i : Nat), (∀ j, j < i → X[j]? = Y[j]?) → i ≤ X.length → i ≤ Y.length → (X[i]? = none ∨ Y[i]? = none ∨ X[i]? ≠ Y[i]?) → (lcp X Y).length = i
  | [], _, i, _, h1, _, _ => by simp at h1; subst h1; simp [lcp]
  | _ :: _, [], i, _, _, h2, _ => by simp at h2; subst h2; simp [lcp]
  | a :: X, b :: Y, 0, _, _, _, h => by
    simp only [List.getElem?_cons_zero] at h
    have hab : a ≠ b := by
      rcases h with h | h | h
      · cases h
      · cases h
      · intro e; exact h (by rw [e])
    simp [lcp, hab]
  | a :: X, b :: Y, i + 1, hj, h1, h2, h => by
    have e0 := hj 0 (by omega)
    simp only [List.getElem?_cons_zero, Option.some.injEq] at e0
    have ih := lcp_len X Y i (fun j hlt => by have := hj (j + 1) (by omega); simpa using this) (by simpa using h1) (by simpa using h2) (by simpa using h)
    simp [lcp, e0, ih]

abbrev zipO (n : Nat) (f0 f1 : Value) : Obj := { cls := .type "zip", dict := none, data := .fields #[f0, f1, .bool false, .ref (n + 2), .ref (n + 3)], slots := #[] }
abbrev pairO (a b : Value) : Obj := { cls := .type "tuple", data := .seq #[a, b] }
theorem ZipSt.led {h : Heap} {n : Nat} {x y : Str} {tx ty : Tok} {i : Nat} (Z : ZipSt h n x y tx ty i) :
    ∃ zl : List (Addr × Obj), (∀ p ∈ zl, h.get? p.1 = some p.2 ∧ @LE.le Nat _ n p.1) ∧ ∀ h' : Heap, (∀ p ∈ zl, h'.get? p.1 = some p.2) → ZipSt h' n x y tx ty i := by
  obtain ⟨⟨f0, f1, hz, hf⟩, hTI, ⟨a, b, hTO⟩, h1, h2⟩ := Z
  obtain ⟨o1, g1, r1⟩ := id h1
  obtain ⟨o2, g2, r2⟩ := id h2
  rcases hf with ⟨rfl, rfl⟩ | ⟨T, o, rfl, hnT, hT, hf1⟩
  · refine ⟨[(n, o1), (n + 1, o2), (n + 2, pairO (.ref n) (.ref (n + 1))), (n + 3, pairO a b), (n + 4, zipO n .none (.bool false))], ?_, fun h' k => ⟨⟨_, _, k (n + 4, zipO n .none (.bool false)) (by simp), .inl ⟨rfl, rfl⟩⟩, k (n + 2, pairO (.ref n) (.ref (n + 1))) (by simp), ⟨a, b, k (n + 3, pairO a b) (by simp)⟩, ⟨o1, k (n, o1) (by simp), r1⟩, ⟨o2, k (n + 1, o2) (by simp), r2⟩⟩⟩
    intro p hp
    simp only [List.mem_cons, List.not_mem_nil, or_false] at hp
    rcases hp with rfl | rfl | rfl | rfl | rfl
    · exact ⟨g1, Nat.le_refl _⟩
    · exact ⟨g2, by omega⟩
    · exact ⟨hTI, by omega⟩
    · exact ⟨hTO, by omega⟩
    · exact ⟨hz, by omega⟩
  · refine ⟨[(n, o1), (n + 1, o2), (n + 2, pairO (.ref n) (.ref (n + 1))), (n + 3, pairO a b), (n + 4, zipO n (rawInt T) f1), (T, o)], ?_, fun h' k => ⟨⟨_, _, k (n + 4, zipO n (rawInt T) f1) (by simp), .inr ⟨T, o, rfl, hnT, k (T, o) (by simp), hf1⟩⟩, k (n + 2, pairO (.ref n) (.ref (n + 1))) (by simp), ⟨a, b, k (n + 3, pairO a b) (by simp)⟩, ⟨o1, k (n, o1) (by simp), r1⟩, ⟨o2, k (n + 1, o2) (by simp), r2⟩⟩⟩
    intro p hp
    simp only [List.mem_cons, List.not_mem_nil, or_false] at hp
    rcases hp with rfl | rfl | rfl | rfl | rfl | rfl
    · exact ⟨g1, Nat.le_refl _⟩
    · exact ⟨g2, by omega⟩
    · exact ⟨hTI, by omega⟩
    · exact ⟨hTO, by omega⟩
    · exact ⟨hz, by omega⟩
    · exact ⟨hT, by have : n + 4 < T := hnT; show n ≤ T; omega⟩

/-- the state between the turns of _beginning's loop -/
def BegJ (g : Heap) (L : Addr) (s : Shared) (l : Addr) (rest : List (Addr × Obj)) (m0 : Str → Option Value) (n : Nat) (x y : Str) (tx ty : Tok) (i : Nat) (s₁ : Shared) : Prop :=
  ∃ h tk u vs k zl cs, s₁ = { s with heap := h, toks := tk } ∧ Fr g L h (fun z => if z = Str.ofString "c" then u else m0 z) ∧
    News g L h ((l, listOf (vs : List Value).toArray k) :: rest ++ zl) ∧ (∀ p ∈ zl, @LE.le Nat _ n p.1) ∧ (∀ h' : Heap, (∀ p ∈ zl, h'.get? p.1 = some p.2) → ZipSt h' n x y tx ty i) ∧
    CarriedAll vs (List.map (fun c => PyData.str ⟨#[c]⟩) (cs : List Nat)) ∧ cs.length = i ∧ i ≤ x.cps.size ∧ i ≤ y.cps.size ∧ (∀ j, j < i → x.cps[j]? = y.cps[j]?)

/-- and behind it -/
def BegP (g : Heap) (L : Addr) (s : Shared) (l : Addr) (rest : List (Addr × Obj)) (m0 : Str → Option Value) (x y : Str) (s₁ : Shared) : Prop :=
  ∃ h tk u vs k cs, s₁ = { s with heap := h, toks := tk } ∧ Fr g L h (fun z => if z = Str.ofString "c" then u else m0 z) ∧
    News g L h ((l, listOf (vs : List Value).toArray k) :: rest) ∧
    CarriedAll vs (List.map (fun c => PyData.str ⟨#[c]⟩) (cs : List Nat)) ∧ cs.length = (lcp x.cps.toList y.cps.toList).length ∧ cs.length ≤ x.cps.size

theorem begP_of {g : Heap} {L : Addr} {s : Shared} {l : Addr} {rest : List (Addr × Obj)} {m0 : Str → Option Value} {x y : Str} {i : Nat} {h' : Heap} {tk' : Nat} {u : Option Value} {vs : List Value} {k : Nat} {cs : List Nat}
    (F : Fr g L h' (fun z => if z = Str.ofString "c" then u else m0 z)) (N : News g L h' ((l, listOf vs.toArray k) :: rest)) (hc : CarriedAll vs (List.map (fun c => PyData.str ⟨#[c]⟩) cs)) (hl : cs.length = i) (hx : i ≤ x.cps.size) (hy : i ≤ y.cps.size)
    (hj : ∀ j, j < i → x.cps[j]? = y.cps[j]?) (hend : x.cps[i]? = none ∨ y.cps[i]? = none ∨ x.cps[i]? ≠ y.cps[i]?) : BegP g L s l rest m0 x y { s with heap := h', toks := tk' } := by
  refine ⟨h', tk', u, vs, k, cs, rfl, F, N, hc, ?_, by omega⟩
  rw [hl]
  exact (lcp_len x.cps.toList y.cps.toList i (fun j hlt => by simpa using hj j hlt) (by simpa using hx) (by simpa using hy) (by simpa using hend)).symm

section
variable {prog : Program} {w : World} {A : Around} {E : Value → Shared → Prop} {s s₀ : Shared} {env : Env} {g : Heap} {l : Addr} {rest : List (Addr × Obj)} {m0 : Str → Option Value} {x y : Str} {tx ty : Tok} {Q : Flow → Shared → Prop} {k0 : Nat}

theorem off_of {l : Addr} {n : Nat} {zl : List (Addr × Obj)} (hln : @LT.lt Nat _ l n) (hzl : ∀ p ∈ zl, @LE.le Nat _ n p.1) : OwnOff zl [l] := by
  intro p hp b hb
  have e := List.mem_singleton.mp hb
  subst e
  have := hzl p hp
  exact neN (by omega)

theorem fr_same {h : Heap} {L : Addr} {m m' : Str → Option Value} (F : Fr g L h m) (e : ∀ z, m z = m' z) : Fr g L h m' := by
  have : m = m' := funext e
  rw [← this]; exact F

theorem beg_loop {px pos : Pos} {iter : Expr} {body : List Stmt} (hh : A.handled = none) (hc : env.kindOf (Str.ofString "c") = some .local)
    (hp : (env.scope.kind == .class || (env.scope.kind == .module && env.locals != env.globals)) = false)
    (hs₀ : s₀ = { s with heap := s₀.heap, toks := s₀.toks }) (_F₀ : Fr g env.locals s₀.heap m0) (_N₀ : News g env.locals s₀.heap ((l, listOf ([] : List Value).toArray k0) :: rest))
    (hiter : ∀ Q' : Value → Shared → Prop, (∀ h' n tk, @LT.lt Nat _ env.locals n → @LT.lt Nat _ l n → (∀ p ∈ rest, @LT.lt Nat _ p.1 n) → g.objs.size ≤ n → ZipSt h' n x y tx ty 0 → Fr g env.locals h' m0 → News g env.locals h' ((l, listOf ([] : List Value).toArray k0) :: rest) → Q' (.ref (n + 4)) { s₀ with heap := h', toks := tk }) →
      wpAny (model prog w) A (eval iter env) Q' NoE s₀)
    (turn : ∀ (i c d : Nat) (T : Addr) (t u : Tok) (cs : List Nat) (vs : List Value) (k n : Nat) (zl : List (Addr × Obj)) (u0 : Option Value) (h : Heap) (tk : Nat), x.cps[i]? = some c → y.cps[i]? = some d →
      CarriedAll vs (cs.map fun c => PyData.str ⟨#[c]⟩) → cs.length = i → i < x.cps.size → i < y.cps.size → (∀ j, j < i → x.cps[j]? = y.cps[j]?) →
      Fr g env.locals h (fun z => if z = Str.ofString "c" then some (.ref T) else (if z = Str.ofString "c" then u0 else m0 z)) →
      News g env.locals h ((T, pairO (.str ⟨#[c]⟩ t) (.str ⟨#[d]⟩ u)) :: (l, listOf vs.toArray k) :: rest ++ zl) → (∀ p ∈ zl, @LE.le Nat _ n p.1) → @LT.lt Nat _ l n → (∀ p ∈ rest, @LT.lt Nat _ p.1 n) → @LT.lt Nat _ n T → (∀ h' : Heap, (∀ p ∈ zl, h'.get? p.1 = some p.2) → ZipSt h' n x y tx ty (i + 1)) →
      wpAny (model prog w) A (execs body env) (fun f s₄ => match f with
        | .next | .cont => BegJ g env.locals s l rest m0 n x y tx ty (i + 1) s₄
        | .brk => BegP g env.locals s l rest m0 x y s₄
        | .ret _ => False) NoE { s with heap := h, toks := tk })
    (fin : ∀ s', BegP g env.locals s l rest m0 x y s' → Q .next s')
    (hs : ∀ v, foldedSetIterable iter env v = pure v := by intro _; rfl) :
    wpAny (model prog w) A (exec (.For (.Name (Str.ofString "c") px) iter body [] pos) env) Q E s₀ := by
  refine my_For (hiter _ fun h' n tk hLn hln hrn hgn Z F₀ N₀ => ?_) (hs := hs)
  refine iter_zip Z ?_
  refine ⟨min x.cps.size y.cps.size, fun i s₁ => BegJ g env.locals s l rest m0 n x y tx ty i s₁, ?_, ?_⟩
  · obtain ⟨zl, hz1, hz2⟩ := Z.led
    refine ⟨h', tk, m0 (Str.ofString "c"), [], k0, zl, [], by rw [hs₀], fr_same F₀ (fun z => by by_cases e : z = Str.ofString "c" <;> simp [e]), ?_, fun p hp => (hz1 p hp).2, hz2, .nil, rfl, Nat.zero_le _, Nat.zero_le _, fun j hj => absurd hj (Nat.not_lt_zero _)⟩
    intro p hp
    rcases List.mem_append.mp hp with hp | hp
    · exact N₀ p hp
    · have hle := (hz1 p hp).2
      refine ⟨(hz1 p hp).1, ?_, ?_⟩
      · exact neN (by omega)
      · exact Heap.get?_none_of_le (Nat.le_trans hgn hle)
  · rintro i s₁ hi ⟨h, tk1, u, vs, k, zl, cs, rfl, F, N, hzl, hZ, hcar, hcl, hix, hiy, hj⟩
    have hN : ∀ p ∈ zl, h.get? p.1 = some p.2 := fun p hp => (N p (List.mem_append_right _ hp)).1
    have Z1 := hZ h hN
    have gz : ∀ b, @LE.le Nat _ n b → g.get? b = none := fun b hb => Heap.get?_none_of_le (Nat.le_trans hgn hb)
    -- what the iterator's step keeps
    have keepF : ∀ (h2 : Heap), (∀ b o, b ≠ n → b ≠ n + 1 → b ≠ n + 3 → b ≠ n + 4 → h.get? b = some o → h2.get? b = some o) → Fr g env.locals h2 (fun z => if z = Str.ofString "c" then u else m0 z) := by
      intro h2 hk
      refine ⟨F.ns.at' fun o e => hk _ o (neN (by omega)) (neN (by omega)) (neN (by omega)) (neN (by omega)) e, fun b o e => ?_, F.above⟩
      have hbn : @LT.lt Nat _ b n := by
        rcases Nat.lt_or_ge b n with q | q
        · exact q
        · have := gz b q; rw [this] at e; cases e
      exact hk b o (neN (by omega)) (neN (by omega)) (neN (by omega)) (neN (by omega)) (F.keep b o e)
    have keepN : ∀ (h2 : Heap), (∀ b o, b ≠ n → b ≠ n + 1 → b ≠ n + 3 → b ≠ n + 4 → h.get? b = some o → h2.get? b = some o) → News g env.locals h2 ((l, listOf vs.toArray k) :: rest) := by
      intro h2 hk p hp
      have hpn : @LT.lt Nat _ p.1 n := by
        rcases List.mem_cons.mp hp with rfl | hp
        · exact hln
        · exact hrn p hp
      have q := N p (List.mem_append_left _ hp)
      exact ⟨hk _ _ (neN (by omega)) (neN (by omega)) (neN (by omega)) (neN (by omega)) q.1, q.2⟩
    by_cases hlt : i < x.cps.size ∧ i < y.cps.size
    · have ex : x.cps[i]? = some x.cps[i] := Array.getElem?_eq_getElem hlt.1
      have ey : y.cps[i]? = some y.cps[i] := Array.getElem?_eq_getElem hlt.2
      refine next_zip_item Z1 ex ey fun h2 tk2 T t v Z2 gT uT hnT hk => ⟨by omega, ?_⟩
      have F2 := keepF h2 hk
      have N2 := keepN h2 hk
      obtain ⟨zl2, hz1, hz2⟩ := Z2.led
      have hn4 : @LT.lt Nat _ n T := by have : @LT.lt Nat _ (n + 4) T := hnT; omega
      have N3 : News g env.locals h2 ((T, pairO (.str ⟨#[x.cps[i]]⟩ t) (.str ⟨#[y.cps[i]]⟩ v)) :: (l, listOf vs.toArray k) :: rest ++ zl2) := by
        intro p hp
        rcases List.mem_cons.mp hp with rfl | hp
        · exact ⟨gT, neN (by omega), gz T (by omega)⟩
        · rcases List.mem_append.mp hp with hp | hp
          · exact N2 p hp
          · have hle := (hz1 p hp).2
            exact ⟨(hz1 p hp).1, neN (by omega), gz p.1 hle⟩
      refine wpAny_assign_Name (wpAny_storeName_local hc F2.ns (fun h3 hn3 hs3 => ?_) hp)
      refine wpAny_mono (turn i _ _ T t v cs vs k n zl2 u h3 _ ex ey hcar hcl hlt.1 hlt.2 hj (F2.set hn3 hs3) (N3.set hs3) (fun p hp => (hz1 p hp).2) hln hrn hn4 hz2) (fun f s₄ hf => ?_) fun _ _ e => e
      cases f with
      | next => exact hf
      | cont => exact hf
      | brk => exact fin _ hf
      | ret v => exact hf.elim
    · have hend : x.cps[i]? = none ∨ y.cps[i]? = none := by
        rcases Nat.lt_or_ge i x.cps.size with q | q
        · exact .inr (Array.getElem?_eq_none (by omega))
        · exact .inl (Array.getElem?_eq_none q)
      refine next_zip_end hh Z1 hend fun h2 tk2 hk => fin _ ?_
      exact begP_of (i := i) (keepF h2 hk) (keepN h2 hk) hcar hcl hix hiy hj (by rcases hend with q | q; exact .inl q; exact .inr (.inl q))
end

theorem carried_len {vs : List Value} {ds : List PyData} (h : CarriedAll vs ds) : vs.length = ds.length := carriedAll_lenA h

theorem begJ_next {g : Heap} {L : Addr} {s : Shared} {l : Addr} {rest : List (Addr × Obj)} {m0 m1 : Str → Option Value} {n : Nat} {x y : Str} {tx ty : Tok} {i : Nat} {h' : Heap} {tk' : Nat} {vs : List Value} {k : Nat} {zl : List (Addr × Obj)} {ch : List Nat} {c d : Nat} {t : Tok} {T : Addr} {oT : Obj}
    (F : Fr g L h' m1) (em : ∀ z, m1 z = if z = Str.ofString "c" then some (.ref T) else m0 z) (N : News g L h' ((T, oT) :: (l, listOf (vs.toArray.push (.str ⟨#[c]⟩ t)) (k + 1)) :: (rest ++ zl))) (hzl : ∀ p ∈ zl, @LE.le Nat _ n p.1) (hZ : ∀ h' : Heap, (∀ p ∈ zl, h'.get? p.1 = some p.2) → ZipSt h' n x y tx ty (i + 1))
    (hc : CarriedAll vs (List.map (fun c => PyData.str ⟨#[c]⟩) ch)) (hl : ch.length = i) (hx : i < x.cps.size) (hy : i < y.cps.size) (hj : ∀ j, j < i → x.cps[j]? = y.cps[j]?) (ex : x.cps[i]? = some c) (ey : y.cps[i]? = some d) (e : ({ cps := #[c] } : Str) = { cps := #[d] }) :
    BegJ g L s l rest m0 n x y tx ty (i + 1) { s with heap := h', toks := tk' } := by
  have hcd : c = d := by
    have := congrArg Str.cps e
    simpa using this
  refine ⟨h', tk', some (.ref T), vs ++ [.str ⟨#[c]⟩ t], k + 1, zl, ch ++ [c], rfl, fr_same F em, ?_, hzl, hZ, ?_, by simp [hl], hx, hy, ?_⟩
  · have e2 : (vs ++ [Value.str ⟨#[c]⟩ t]).toArray = vs.toArray.push (.str ⟨#[c]⟩ t) := by simp
    rw [e2]
    exact fun p hp => N p (List.mem_cons_of_mem _ hp)
  · rw [List.map_append]
    exact hc.snoc (.str _ _)
  · intro j hj'
    rcases Nat.lt_or_ge j i with q | q
    · exact hj j q
    · have : j = i := by omega
      subst this
      rw [ex, ey, hcd]

theorem begP_brk {g : Heap} {L : Addr} {s : Shared} {l : Addr} {rest : List (Addr × Obj)} {m0 m1 : Str → Option Value} {x y : Str} {i : Nat} {h' : Heap} {tk' : Nat} {vs : List Value} {k : Nat} {zl : List (Addr × Obj)} {ch : List Nat} {c d : Nat} {T : Addr} {oT : Obj}
    (F : Fr g L h' m1) (em : ∀ z, m1 z = if z = Str.ofString "c" then some (.ref T) else m0 z) (N : News g L h' ((T, oT) :: (l, listOf vs.toArray k) :: (rest ++ zl)))
    (hc : CarriedAll vs (List.map (fun c => PyData.str ⟨#[c]⟩) ch)) (hl : ch.length = i) (hx : i < x.cps.size) (hy : i < y.cps.size) (hj : ∀ j, j < i → x.cps[j]? = y.cps[j]?) (ex : x.cps[i]? = some c) (ey : y.cps[i]? = some d) (e : ¬ ({ cps := #[c] } : Str) = { cps := #[d] }) :
    BegP g L s l rest m0 x y { s with heap := h', toks := tk' } := by
  have N' : News g L h' ((l, listOf vs.toArray k) :: rest) := fun p hp => N p (List.mem_cons_of_mem _ (List.mem_append_left zl hp))
  refine begP_of (i := i) (fr_same F em) N' hc hl (Nat.le_of_lt hx) (Nat.le_of_lt hy) hj (.inr (.inr ?_))
  · rw [ex, ey]
    intro q
    cases q
    exact e rfl
end Mine
end
section
open PySem PySem.W PyProof.Rows PySem.Calls
set_option maxRecDepth 100000
set_option maxHeartbeats 4000000
namespace Mine

/-- best common run among the pairs of places in P -/
def Best (X Y : List Nat) (P : Nat → Nat → Prop) (p k : Nat) : Prop :=
  (∀ a b, P a b → (lcp (X.drop a) (Y.drop b)).length ≤ k) ∧ p ≤ X.length ∧ k ≤ X.length ∧ ((p = 0 ∧ k = 0) ∨ ∃ b, p < X.length ∧ b < Y.length ∧ (lcp (X.drop p) (Y.drop b)).length = k)

def RunJ (x y : Str) (i j n : Nat) : Prop := (∀ c, c < n → (x.cps.toList.drop i)[c]? = (y.cps.toList.drop j)[c]?) ∧ i + n ≤ x.cps.size ∧ j + n ≤ y.cps.size

theorem lcp_le_left : ∀ (X Y : List Nat), (lcp X Y).length ≤ X.length
  | [], _ => by simp [lcp]
  | _ :: _, [] => by simp [lcp]
  | a :: X, b :: Y => by
    by_cases h : a = b
    · simp [lcp, h]; exact lcp_le_left X Y
    · simp [lcp, h]

theorem item_get {x : Str} {i n : Nat} (h : 0 + (i : Int) + (n : Int) < x.length) : ∃ c, Txt.item x (0 + (i : Int) + (n : Int)) = ⟨#[c]⟩ ∧ (x.cps.toList.drop i)[n]? = some c := by
  have e : (0 + (i : Int) + (n : Int)).toNat = i + n := by omega
  have hl : i + n < x.cps.size := by have : (x.length : Int) = x.cps.size := rfl; omega
  refine ⟨x.cps[i + n], item_meets (by omega) ?_, ?_⟩
  · rw [e, Array.getElem?_eq_getElem hl]
  · rw [List.getElem?_drop]
    simp [hl]

theorem run_step {x y : Str} {i j n : Nat} (h1 : 0 + (i : Int) + (n : Int) < x.length) (h2 : 0 + (j : Int) + (n : Int) < y.length) (h : (Txt.item x (0 + (i : Int) + (n : Int)) == Txt.item y (0 + (j : Int) + (n : Int))) = true) (J : RunJ x y i j n) : RunJ x y i j (n + 1) := by
  have e1 : (x.length : Int) = x.cps.size := rfl
  have e2 : (y.length : Int) = y.cps.size := rfl
  refine ⟨fun c hc => ?_, by have := J.2.1; omega, by have := J.2.2; omega⟩
  by_cases q : c < n
  · exact J.1 c q
  · have : c = n := by omega
    subst this
    obtain ⟨a, ha, ga⟩ := item_get h1
    obtain ⟨b, hb, gb⟩ := item_get h2
    rw [ga, gb]
    rw [ha, hb] at h
    have := eq_of_beq h
    have := congrArg Str.cps this
    simpa using this

theorem run_end1 {x y : Str} {i j n : Nat} (h1 : ¬ 0 + (i : Int) + (n : Int) < x.length) (J : RunJ x y i j n) : (lcp (x.cps.toList.drop i) (y.cps.toList.drop j)).length = n := by
  have e1 : (x.length : Int) = x.cps.size := rfl
  have a := J.2.1
  have b := J.2.2
  refine lcp_len _ _ n J.1 ?_ ?_ (.inl ?_)
  · simp; omega
  · simp; omega
  · simp; omega
theorem run_end2 {x y : Str} {i j n : Nat} (h1 : ¬ 0 + (j : Int) + (n : Int) < y.length) (J : RunJ x y i j n) : (lcp (x.cps.toList.drop i) (y.cps.toList.drop j)).length = n := by
  have e1 : (y.length : Int) = y.cps.size := rfl
  have a := J.2.1
  have b := J.2.2
  refine lcp_len _ _ n J.1 ?_ ?_ (.inr (.inl ?_))
  · simp; omega
  · simp; omega
  · simp; omega
theorem run_end3 {x y : Str} {i j n : Nat} (h1 : 0 + (i : Int) + (n : Int) < x.length) (h2 : 0 + (j : Int) + (n : Int) < y.length) (h : (Txt.item x (0 + (i : Int) + (n : Int)) == Txt.item y (0 + (j : Int) + (n : Int))) = false) (J : RunJ x y i j n) : (lcp (x.cps.toList.drop i) (y.cps.toList.drop j)).length = n := by
  have a := J.2.1
  have b := J.2.2
  refine lcp_len _ _ n J.1 ?_ ?_ (.inr (.inr ?_))
  · simp; omega
  · simp; omega
  · obtain ⟨c, hc, gc⟩ := item_get h1
    obtain ⟨d, hd, gd⟩ := item_get h2
    rw [gc, gd]
    intro e
    have : c = d := by simpa using e
    rw [hc, hd, this] at h
    simp at h

theorem best_skip {X Y : List Nat} {i j p k n : Nat} (B : Best X Y (fun a b => (a < i ∧ b < Y.length) ∨ (a = i ∧ b < j)) p k) (h : (lcp (X.drop i) (Y.drop j)).length = n) (hk : ¬ (k : Int) < (n : Int)) : Best X Y (fun a b => (a < i ∧ b < Y.length) ∨ (a = i ∧ b < j + 1)) p k := by
  refine ⟨fun a b hab => ?_, B.2⟩
  by_cases q : a = i ∧ b = j
  · rw [q.1, q.2, h]; omega
  · exact B.1 a b (by omega)
theorem best_take {X Y : List Nat} {i j p k n : Nat} (B : Best X Y (fun a b => (a < i ∧ b < Y.length) ∨ (a = i ∧ b < j)) p k) (hi : i < X.length) (hj : j < Y.length) (h : (lcp (X.drop i) (Y.drop j)).length = n) (hk : (k : Int) < (n : Int)) : Best X Y (fun a b => (a < i ∧ b < Y.length) ∨ (a = i ∧ b < j + 1)) i n := by
  refine ⟨fun a b hab => ?_, by omega, ?_, .inr ⟨j, hi, hj, h⟩⟩
  · by_cases q : a = i ∧ b = j
    · rw [q.1, q.2, h]; exact Nat.le_refl _
    · have := B.1 a b (by omega); omega
  · have := lcp_le_left (X.drop i) (Y.drop j)
    rw [h] at this
    simp at this
    omega

theorem slice_range (a b : Nat) (l : List Nat) (h : a ≤ b) (hb : b ≤ l.length) : ((List.range (b - a)).map fun (k : Nat) => a + k).filterMap (l[·]?) = (l.drop a).take (b - a) := by
  induction l generalizing a b with
  | nil => simp at hb; subst hb; simp
  | cons c l ih =>
    cases b with
    | zero => simp
    | succ b =>
      cases a with
      | zero =>
        have := ih 0 b (Nat.zero_le _) (by simpa using hb)
        simp only [Nat.sub_zero, Nat.zero_add, List.drop_zero, List.take_succ_cons, List.range_succ_eq_map, List.map_cons, List.map_map, List.filterMap_cons, List.getElem?_cons_zero, List.map_id'] at this ⊢
        rw [← this]
        congr 1
        rw [List.filterMap_map]
        congr 1
      | succ a =>
        have := ih a b (by omega) (by simpa using hb)
        simp only [Nat.add_sub_add_right, List.drop_succ_cons] at this ⊢
        rw [← this, List.filterMap_map, List.filterMap_map]
        congr 1
        funext k
        show (c :: l)[a + 1 + k]? = l[a + k]?
        rw [show a + 1 + k = (a + k) + 1 by omega]
        simp

theorem cast_toNat (a k : Nat) : ((a : Int) + 1 * (k : Int)).toNat = a + k := by omega

theorem slice_nat (x : Str) (a b : Nat) (h : a ≤ b) (hb : b ≤ x.cps.size) : Txt.slice x (some (a : Int)) (some (b : Int)) = ⟨((x.cps.toList.drop a).take (b - a)).toArray⟩ := by
  have hlen : (x.length : Int) = x.cps.size := rfl
  have hidx : Builtin.Str.strSliceIndices (some (a : Int)) (some (b : Int)) 1 x.length = (List.range (b - a)).map fun (k : Nat) => a + k := by
    unfold Builtin.Str.strSliceIndices sliceRange
    have ha0 : ¬ (a : Int) < 0 := by omega
    have hb0 : ¬ (b : Int) < 0 := by omega
    have e1 : max 0 (min (a : Int) (x.length : Int)) = a := by omega
    have e2 : max 0 (min (b : Int) (x.length : Int)) = b := by omega
    simp only [ha0, hb0, if_false, show (1 : Int) > 0 by decide, if_true, e1, e2]
    have e3 : (if (a : Int) < (b : Int) then ((b : Int) - a + 1 - 1) / 1 else 0).toNat = b - a := by split <;> omega
    rw [e3]
    refine List.map_congr_left fun k _ => ?_
    omega
  unfold Txt.slice
  rw [hidx]
  split
  · rename_i hc
    simp only [Bool.and_eq_true, beq_iff_eq, List.length_map, List.length_range] at hc
    have : a = 0 ∧ b = x.cps.size := by have := hc.2; have h2 : x.length = x.cps.size := rfl; omega
    obtain ⟨rfl, rfl⟩ := this
    simp
    have : x.cps.size = x.cps.toList.length := by simp
    rw [this, List.take_length]
  · congr 2
    have := slice_range a b x.cps.toList h (by simpa using hb)
    rw [← this]
    congr 1
    funext k
    simp

theorem best_slice {x : Str} {Y : List Nat} {P : Nat → Nat → Prop} {p k : Nat} (B : Best x.cps.toList Y P p k) : Txt.slice x (some (p : Int)) (some ((p : Int) + (k : Int))) = ⟨((x.cps.toList.drop p).take k).toArray⟩ := by
  have h1 : p + k ≤ x.cps.size := by
    rcases B.2.2.2 with ⟨h1, h2⟩ | ⟨b, h1, h2, h3⟩
    · omega
    · have := lcp_le_left (x.cps.toList.drop p) (Y.drop b)
      rw [h3] at this
      simp at this h1
      omega
  have := slice_nat x p (p + k) (by omega) h1
  rw [show ((p + k : Nat) : Int) = (p : Int) + (k : Int) by omega] at this
  rw [this, show p + k - p = k by omega]
end Mine
end
section
open PySem PySem.W PyProof.Rows PySem.Calls
set_option maxRecDepth 100000
set_option maxHeartbeats 4000000
namespace Mine
open PySem.F

theorem owner_map : Manifest.owners.lookup (String.ofList ['p', 'a', 'm'].reverse) = some Manifest.sig_map := by kernel_rfl
theorem slot_map_init : Slot "map" "__init__" "object.__init__" :=
  .of (owner := "object") (n := "__init__") (by rw [typeLookup_type, builtinLookup_eq_fast]; kernel_rfl) (by decide +kernel) (by decide +kernel) (by decide +kernel)
    (by first | exact .inl (by decide +kernel) | exact .inr (by decide +kernel)) (by rw [isSubtype_type]; kernel_rfl)
theorem slot_map_iter : Slot "map" "__iter__" "map.__iter__" :=
  .of (owner := "map") (n := "__iter__") (by rw [typeLookup_type, builtinLookup_eq_fast]; kernel_rfl) (by decide +kernel) (by decide +kernel) (by decide +kernel)
    (by first | exact .inl (by decide +kernel) | exact .inr (by decide +kernel)) (by rw [isSubtype_type]; kernel_rfl)
theorem args_map_iter_1 (a : Value) : argsOk "map.__iter__" ⟨[a], []⟩ := by
  unfold argsOk; rw [signature?_of (id := "map.__iter__") (n := ['_', '_', 'r', 'e', 't', 'i', '_', '_']) (o := ['p', 'a', 'm']) (by kernel_rfl) owner_map]; kernel_rfl
theorem slot_map_next : Slot "map" "__next__" "map.__next__" :=
  .of (owner := "map") (n := "__next__") (by rw [typeLookup_type, builtinLookup_eq_fast]; kernel_rfl) (by decide +kernel) (by decide +kernel) (by decide +kernel)
    (by first | exact .inl (by decide +kernel) | exact .inr (by decide +kernel)) (by rw [isSubtype_type]; kernel_rfl)
theorem entry_map_next : entryFor table "map.__next__" = some Builtin.«map.__next__» := entryFor_of_tree (by kernel_rfl)
theorem args_map_next_1 (a : Value) : argsOk "map.__next__" ⟨[a], []⟩ := by
  unfold argsOk; rw [signature?_of (id := "map.__next__") (n := ['_', '_', 't', 'x', 'e', 'n', '_', '_']) (o := ['p', 'a', 'm']) (by kernel_rfl) owner_map]; kernel_rfl
theorem entry_map_iter : entryFor table "map.__iter__" = some Builtin.«dict_keyiterator.__iter__» :=
  entryFor_alias (id' := "dict_keyiterator.__iter__") (by kernel_rfl) (by first | rfl | decide +kernel | (unfold String.splitOn; simp +decide [String.splitOnAux])) (by decide +kernel) (by kernel_rfl)
theorem mro_map : mroOf (.type "map") = pure [.type "map", .type "object"] := by rw [mroOf_type]; kernel_rfl
theorem lookup_map_new : typeLookup (.type "map") "__new__" = pure (some (.builtin "map.__new__")) := by rw [typeLookup_type, builtinLookup_eq_fast]; kernel_rfl
theorem called_map : TypeCalled "map" "map.__new__" "object.__init__" :=
  ⟨by decide +kernel, by decide +kernel, ⟨_, _, mro_map⟩, madeBy_type mro_map lookup_map_new (by decide +kernel), by decide +kernel, by rw [isSubtype_type]; kernel_rfl, slot_map_init⟩
theorem typeCall_map_2 (a b : Value) : checkTypeCall "map" ⟨[a, b], []⟩ = pure () := by kernel_rfl
theorem newCall_map_2 (a b : Value) : checkBuiltinCall "map.__new__" ⟨[.type "map", a, b], []⟩ = pure () := by kernel_rfl
theorem entry_map_new : entryFor table "map.__new__" = some Builtin.«map.__new__» := entryFor_of_tree (by kernel_rfl)
theorem sub_map : isSubtype (.type "map") (.type "map") = pure true := by rw [isSubtype_type]; kernel_rfl
end Mine
end
section
open PySem PySem.W PyProof.Rows PySem.Calls
set_option maxRecDepth 100000
set_option maxHeartbeats 4000000
namespace Mine

section
variable {prog : Program} {w : World} {A : Around} {E : Value → Shared → Prop} {s : Shared}

theorem nextOf_list_item {it l : Addr} {i : Nat} {items : Array Value} {x : Value} {Q : Value → Shared → Prop} (hit : s.heap.IsListIter it l i)
    (hl : s.heap.IsList l items) (hx : items[i]? = some x)
    (hQ : ∀ h', h'.IsListIter it l (i + 1) → Heap.SameBut it s.heap h' → Q x { s with heap := h' }) :
    wpAny (model prog w) A (Builtin.SmallTypes.nextOf (.ref it)) Q E s := by
  obtain ⟨o, ho, hc, hd⟩ := id hit
  obtain ⟨ol, hol, _, nl, hdl⟩ := hl
  unfold Builtin.SmallTypes.nextOf
  refine wpAny_bind (wpAny_callSpecial?_slot (name := Str.ofString "__next__") hit.typeIs slot_listiter_next
    (wpAny_call_entry slot_listiter_next hit.typeIs entry_listiter_next ?_ (args_listiter_next _)))
  show wpAny _ _ (field (.ref it) 0 >>= _) _ _ s
  refine wpAny_bind (wpAny_field ho hd (x := .ref l) rfl ?_)
  show wpAny _ _ (if (Value.ref l == Value.none) = true then _ else _) _ _ s
  rw [if_neg (show ¬ ((Value.ref l == Value.none) = true) from Bool.false_ne_true)]
  show wpAny _ _ (field (.ref it) 1 >>= _) _ _ s
  refine wpAny_bind (wpAny_field ho hd (x := .int i 0) rfl ?_)
  show wpAny _ _ (seqItems? (.ref l) >>= _) _ _ s
  refine wpAny_bind (wpAny_seqItems hol hdl ?_)
  simp only [Int.toNat_natCast, hx]
  refine wpAny_bind (wpAny_setField ho hd (by simp) (wpAny_pure ⟨x, rfl, wpAny_pure (hQ _ ?_ (Heap.SameBut.update ..))⟩))
  exact ⟨_, Heap.get?_update_self _ ho (Obj.isFreed_of_fields (Obj.data_mapFields hd _)), (Obj.cls_mapFields ..).trans hc, by
    rw [Obj.data_mapFields hd]; simp [rawInt]⟩

theorem nextOf_list_end {it l : Addr} {i : Nat} {items : Array Value} {Q : Value → Shared → Prop} (hh : A.handled = none)
    (hit : s.heap.IsListIter it l i) (hl : s.heap.IsList l items) (hx : items[i]? = none)
    (hE : ∀ h' e, Heap.ExtBut it s.heap h' → (∃ o, h'.get? e = some o ∧ o.cls = .type "StopIteration") → E (.ref e) { s with heap := h' }) :
    wpAny (model prog w) A (Builtin.SmallTypes.nextOf (.ref it)) Q E s := by
  obtain ⟨o, ho, hc, hd⟩ := id hit
  obtain ⟨ol, hol, _, nl, hdl⟩ := hl
  unfold Builtin.SmallTypes.nextOf
  refine wpAny_bind (wpAny_callSpecial?_slot (name := Str.ofString "__next__") hit.typeIs slot_listiter_next
    (wpAny_call_entry slot_listiter_next hit.typeIs entry_listiter_next ?_ (args_listiter_next _)))
  show wpAny _ _ (field (.ref it) 0 >>= _) _ _ s
  refine wpAny_bind (wpAny_field ho hd (x := .ref l) rfl ?_)
  show wpAny _ _ (if (Value.ref l == Value.none) = true then _ else _) _ _ s
  rw [if_neg (show ¬ ((Value.ref l == Value.none) = true) from Bool.false_ne_true)]
  show wpAny _ _ (field (.ref it) 1 >>= _) _ _ s
  refine wpAny_bind (wpAny_field ho hd (x := .int i 0) rfl ?_)
  show wpAny _ _ (seqItems? (.ref l) >>= _) _ _ s
  refine wpAny_bind (wpAny_seqItems hol hdl ?_)
  simp only [Int.toNat_natCast, hx]
  refine wpAny_bind (wpAny_rule (wpAny_bind (wpAny_setField ho hd (by simp) ?_)))
  show wpAny _ _ (newExc (.type "StopIteration") [] >>= _) _ _ _
  refine wpAny_bind ?_
  simp only [newExc, newTuple]
  refine wpAny_bind (wpAny_newObj_type ?_ (by size_fits))
  refine wpAny_bind (m := firstArgMember _ _) (wpAny_of_eq (a := Value.none) (by first | rfl | (simp only [firstArgMember]; rfl)) ?_)
  refine wpAny_newObj_type ?_ (by size_fits)
  simp only [raiseNew]
  refine wpAny_bind (wpAny_handled ?_)
  rw [show A.in1.handled = none from hh]
  refine wpAny_bind (wpAny_pure (wpAny_throw ?_))
  exact hE _ _ (((Heap.SameBut.update ..).extBut.push _).push _) ⟨_, Heap.get?_push_size _ rfl, rfl⟩

/-- map(len, l) over strs, its iterators at n.. -/
structure MapSt (h : Heap) (n l : Addr) (vs : List Value) (i : Nat) : Prop where
  hm : h.get? (n + 2) = some { cls := .type "map", data := .fields #[.ref (n + 1), .builtin "len"] }
  hT : h.get? (n + 1) = some { cls := .type "tuple", data := .seq #[.ref n] }
  hi : h.IsListIter n l i
  hl : h.IsList l vs.toArray

theorem MapSt.typeIs {n l : Addr} {vs : List Value} {i : Nat} (st : MapSt s.heap n l vs i) : s.TypeIs (.ref (n + 2)) "map" := ⟨_, st.hm, rfl⟩

theorem next_map_item {n l : Addr} {vs : List Value} {i : Nat} {x : Str} {t : Tok} {Q : Option Value → Shared → Prop} (hln : @LT.lt Nat _ l n) (st : MapSt s.heap n l vs i) (hx : vs[i]? = some (.str x t)) (hs : x.length ≤ 1000)
    (hQ : ∀ h' tk u, MapSt h' n l vs (i + 1) → (∀ b o, b ≠ n → s.heap.get? b = some o → h'.get? b = some o) → Q (some (.int x.length u)) { s with heap := h', toks := tk }) :
    wpAny (model prog w) A (pyNext (.ref (n + 2))) Q E s := by
  unfold pyNext
  refine wpAny_bind (wpAny_attempt (wpAny_callSpecial?_slot (name := Str.ofString "__next__") st.typeIs slot_map_next
    (wpAny_call_entry slot_map_next st.typeIs entry_map_next ?_ (args_map_next_1 _))))
  show wpAny _ _ (field (.ref (n + 2)) 0 >>= _) _ _ _
  refine wpAny_bind (wpAny_field st.hm rfl (x := .ref (n + 1)) rfl ?_)
  refine wpAny_bind (wpAny_seqItems st.hT rfl ?_)
  simp only
  refine wpAny_bind ?_
  rw [← Array.forIn_toList]
  simp only [List.forIn_cons, List.forIn_nil]
  refine wpAny_bind (wpAny_bind (wpAny_holding ?_))
  refine nextOf_list_item st.hi st.hl (x := .str x t) (by simpa using hx) fun h₁ hi₁ hs₁ => ?_
  have hm₁ := hs₁.extBut _ _ (neN (by omega)) st.hm
  have hT₁ := hs₁.extBut _ _ (neN (by omega)) st.hT
  have hl₁ := st.hl.extBut hs₁.extBut (neN (by omega))
  refine wpAny_pure (wpAny_pure ?_)
  refine wpAny_bind (wpAny_field hm₁ rfl (x := .builtin "len") rfl ?_)
  refine wpAny_bind (wpAny_holding ?_)
  refine PyProof.Rows.len_str (by omega) ?_
  refine wpAny_bind (wpAny_letGo (wpAny_pure ⟨_, rfl, wpAny_pure ?_⟩))
  exact hQ _ _ _ ⟨hm₁, hT₁, hi₁, hl₁⟩ hs₁.extBut

theorem next_map_end {n l : Addr} {vs : List Value} {i : Nat} {Q : Option Value → Shared → Prop} (hh : A.handled = none) (st : MapSt s.heap n l vs i) (hx : vs[i]? = none)
    (hQ : ∀ h' tk, (∀ b o, b ≠ n → s.heap.get? b = some o → h'.get? b = some o) → Q none { s with heap := h', toks := tk }) :
    wpAny (model prog w) A (pyNext (.ref (n + 2))) Q E s := by
  unfold pyNext
  refine wpAny_bind (wpAny_attempt (wpAny_callSpecial?_slot (name := Str.ofString "__next__") st.typeIs slot_map_next
    (wpAny_call_entry slot_map_next st.typeIs entry_map_next ?_ (args_map_next_1 _))))
  show wpAny _ _ (field (.ref (n + 2)) 0 >>= _) _ _ _
  refine wpAny_bind (wpAny_field st.hm rfl (x := .ref (n + 1)) rfl ?_)
  refine wpAny_bind (wpAny_seqItems st.hT rfl ?_)
  simp only
  refine wpAny_bind ?_
  rw [← Array.forIn_toList]
  simp only [List.forIn_cons, List.forIn_nil]
  refine wpAny_bind (wpAny_bind (wpAny_holding ?_))
  refine nextOf_list_end hh st.hi st.hl (by simpa using hx) fun h₁ e hs₁ he => ?_
  obtain ⟨o, ho, hc⟩ := he
  refine wpAny_bind (wpAny_isInstance (T := "StopIteration") (b := true) ⟨o, ho, hc⟩ isSubtype_stop ?_)
  exact wpAny_pure (hQ _ _ hs₁)

theorem iter_map {n l : Addr} {vs : List Value} {i : Nat} {Q : Value → Shared → Prop} (st : MapSt s.heap n l vs i) (h : Q (.ref (n + 2)) s) : wpAny (model prog w) A (pyIter (.ref (n + 2))) Q E s := by
  have hT := st.typeIs
  refine wpAny_pyIter_slot hT slot_map_iter (wpAny_call_entry slot_map_iter hT entry_map_iter ?_ (args_map_iter_1 _))
  show wpAny _ _ (ret (.ref (n + 2))) _ _ s
  exact wpAny_pure ⟨_, rfl, "map", _, hT, slot_map_next.lookup, h⟩

theorem Walks.mapLen {A : Around} (hh : A.handled = none) (n l : Addr) (hln : @LT.lt Nat _ l n) (vs : List Value) (xs : List Str) (hv : StrsAre vs xs) (hs : ∀ x ∈ xs, x.length ≤ 1000) :
    Walks prog w A (n + 2) [n + 2, n + 1, n, l] [n] vs.length (fun i v => ∃ t, v = .int ((xs[i]?).elim 0 fun x => (x.length : Int)) t) (fun i h => MapSt h n l vs i) where
  sub := fun b hb => by simp at hb; simp [hb]
  frame := fun _ _ _ st hk => ⟨hk _ (by simp) _ st.hm, hk _ (by simp) _ st.hT, st.hi.at fun o e => hk n (by simp) o e, st.hl.at fun o e => hk l (by simp) o e⟩
  item := fun i s Q E hi st hQ => by
    obtain ⟨x, t, e1, e2⟩ := hv.get i vs[i] (List.getElem?_eq_getElem hi)
    refine next_map_item hln st (x := x) (t := t) (by rw [List.getElem?_eq_getElem hi, e2]) (hs x (List.mem_of_getElem? e1)) fun h' tk u st' hk => hQ _ _ _ ⟨u, by rw [e1]; rfl⟩ st' fun b o hb e => hk b o (fun q => hb (by simp [q])) e
  done := fun s Q E st hQ => next_map_end hh st (by simp) fun h' tk hk => hQ h' tk fun b o hb e => hk b o (fun q => hb (by simp [q])) e
  self := fun _ _ _ _ st hQ => iter_map st hQ

abbrev mp1 (h : Heap) (l : Addr) : Heap := h.push { cls := .type "list_iterator", data := .fields #[.ref l, .int 0 0] }
abbrev mp2 (h : Heap) (l : Addr) : Heap := (mp1 h l).push { cls := .type "tuple", data := .seq #[.ref h.objs.size] }
abbrev mp3 (h : Heap) (l : Addr) : Heap := (mp2 h l).push { cls := .type "map", data := .fields #[.ref (mp1 h l).objs.size, .builtin "len"] }

theorem call_map_len {l : Addr} {vs : List Value} {Q : Value → Shared → Prop} (hl : s.heap.IsList l vs.toArray)
    (h : ∀ h' n, n = s.heap.objs.size → MapSt h' n l vs 0 → h'.get? n = some { cls := .type "list_iterator", data := .fields #[.ref l, .int 0 0] } → (∀ c o, s.heap.get? c = some o → h'.get? c = some o) → n + 2 < h'.objs.size → Q (.ref (n + 2)) { s with heap := h' }) :
    wpAny (model prog w) A (call (.type "map") [.builtin "len", .ref l]) Q E s := by
  have M : Meets (Builtin.«map.__new__» ⟨[.type "map", .builtin "len", .ref l], []⟩) (fun _ R s => s.heap.IsList l vs.toArray ∧ R (.ok (.ret (.ref (mp2 s.heap l).objs.size))) { s with heap := mp3 s.heap l }) := .of_wp fun prog w A R s h => by
    obtain ⟨hl, h⟩ := h
    obtain ⟨hp, g, d, tk, os⟩ := s
    have hsub := sub_map
    wp_walk using wpAny_pyIter_list
    · exact hl
    · wp_walk
      exact ⟨_, rfl, h⟩
  refine callType_new called_map (by decide) (typeCall_map_2 _ _) (newCall_map_2 _ _) (fun obj => PySem.F.args_object_init_3 obj _ _) entry_map_new
    M ⟨hl, ?_⟩
  have z1 : (mp1 s.heap l).objs.size = s.heap.objs.size + 1 := Heap.size_push ..
  have z2 : (mp2 s.heap l).objs.size = s.heap.objs.size + 2 := by rw [Heap.size_push, z1]
  have z3 : (mp3 s.heap l).objs.size = s.heap.objs.size + 3 := by rw [Heap.size_push, z2]
  have g3 : (mp3 s.heap l).get? (mp2 s.heap l).objs.size = some _ := Heap.get?_push_size _ rfl
  have g2 : (mp3 s.heap l).get? (mp1 s.heap l).objs.size = some _ := Heap.get?_push_of_some _ (Heap.get?_push_size _ rfl)
  have g1 : (mp3 s.heap l).get? s.heap.objs.size = some _ := Heap.get?_push_of_some _ (Heap.get?_push_of_some _ (Heap.get?_push_size _ rfl))
  rw [z2, z1] at g3
  rw [z1] at g2
  have hk : ∀ c o, s.heap.get? c = some o → (mp3 s.heap l).get? c = some o := fun c o q => Heap.get?_push_of_some _ (Heap.get?_push_of_some _ (Heap.get?_push_of_some _ q))
  show _ ∧ _
  rw [z2]
  exact ⟨⟨_, g3, rfl⟩, h _ _ rfl ⟨g3, g2, ⟨_, g1, rfl, rfl⟩, hl.at fun o e => hk _ _ e⟩ g1 hk (by rw [z3]; omega)⟩

theorem argBest_lt (bt : Nat → Nat → Bool) : ∀ k, argBest bt k ≤ k
  | 0 => Nat.le_refl _
  | k + 1 => by unfold argBest; split; exact Nat.le_refl _; exact Nat.le_succ_of_le (argBest_lt bt k)

theorem max_map_len {n l : Addr} {vs : List Value} {xs : List Str} {b : Int} {Q : Value → Shared → Prop} (hh : A.handled = none) (hln : @LT.lt Nat _ l n) (st : MapSt s.heap n l vs 0) (hn : @LT.lt Nat _ (n + 2) s.heap.objs.size) (hv : StrsAre vs xs) (hs : ∀ x ∈ xs, x.length ≤ 1000) (hb : ∀ x ∈ xs, (x.length : Int) < b) (h0 : 0 < vs.length)
    (h : ∀ h' tk m t, m < b → (∀ c o, c ≠ n → s.heap.get? c = some o → h'.get? c = some o) → Q (.int m t) { s with heap := h', toks := tk }) :
    wpAny (model prog w) A (call (.builtin "max") [.ref (n + 2)]) Q E s := by
  refine call_max_walk (iter_map st ?_)
  refine ⟨n + 2, _, _, _, _, _, _, rfl, Walks.mapLen (A := A.in1) hh n l hln vs xs hv hs, st, fun c hc => ?_, h0, CmpOf.ints_gt (fun i => (xs[i]?).elim 0 fun x => (x.length : Int)) (fun _ _ hp => hp), fun v h' tk hP hk => ?_⟩
  · simp only [List.mem_cons, List.not_mem_nil, or_false] at hc
    show @LT.lt Nat _ c _
    rcases hc with rfl | rfl | rfl | rfl <;> omega
  · obtain ⟨t, rfl⟩ := hP
    refine h h' tk _ t ?_ fun c o hc e => hk c o (by simpa using hc) e
    have hlt : argBest (fun i j => decide ((xs[i]?).elim 0 (fun x => (x.length : Int)) > (xs[j]?).elim 0 fun x => (x.length : Int))) (vs.length - 1) < xs.length := by
      have := argBest_lt (fun i j => decide ((xs[i]?).elim 0 (fun x => (x.length : Int)) > (xs[j]?).elim 0 fun x => (x.length : Int))) (vs.length - 1)
      have := hv.length
      omega
    rw [List.getElem?_eq_getElem hlt]
    exact hb _ (List.getElem_mem hlt)

end
end Mine
end
section
open PySem PySem.W PyProof.Rows PySem.Calls
set_option maxRecDepth 100000
set_option maxHeartbeats 4000000
namespace Mine

section
variable {prog : Program} {w : World} {A : Around} {E : Value → Shared → Prop} {s : Shared}

theorem all_strs_loop {I T : Addr} {items : Array Value} {xs : List Str} (hh : A.handled = none) (hne : T ≠ I) (hv : StrsAre items.toList xs) (hs : ∀ x ∈ xs, 1 ≤ x.length ∧ x.length ≤ 1000) {R : Result → Shared → Prop} :
    ∀ (k i : Nat) (s : Shared), items.size - i = k → i ≤ items.size → s.heap.IsTupleIter I T i → s.heap.IsTuple T items →
      (∀ h' tk, (∀ b o, b ≠ I → s.heap.get? b = some o → h'.get? b = some o) → R (.ok (.ret (.bool true))) { s with heap := h', toks := tk }) →
      codeAny (model prog w) A (.builtin "all.loop" ⟨[.ref I], []⟩) R s := by
  have W := Walks.tuple (prog := prog) (w := w) (A := A.in1) hh I T hne items
  intro k
  induction k with
  | zero =>
    intro i s hk hi hit hT hR
    have hin : i = items.size := by omega
    subst hin
    refine codeAny_builtin F.entry_all_loop ?_
    rw [Around.under_plainId F.plain_all_loop _]
    show wpAny _ A.in1 (pyNext (.ref I) >>= _) _ _ s
    refine wpAny_bind (W.done s _ _ ⟨hit, hT⟩ fun h' tk hk' => ?_)
    exact wpAny_bind (wpAny_rule (wpAny_pure (hR h' tk fun b o hb e => hk' b o (by simpa using hb) e)))
  | succ k ih =>
    intro i s hk hi hit hT hR
    have hlt : i < items.size := by omega
    refine codeAny_builtin F.entry_all_loop ?_
    rw [Around.under_plainId F.plain_all_loop _]
    show wpAny _ A.in1 (pyNext (.ref I) >>= _) _ _ s
    refine wpAny_bind (W.item i s _ _ hlt ⟨hit, hT⟩ fun v h' tk hP hst' hk' => ?_)
    obtain ⟨x, t, e1, rfl⟩ := hv.get i v (by simpa using hP)
    have hx := hs x (List.mem_of_getElem? e1)
    refine wpAny_bind (wpAny_holding (P.truthy_str (by omega) ?_))
    refine wpAny_bind (wpAny_letGo ?_)
    have hb : ((x.length : Int) != 0) = true := by simp; omega
    rw [hb]
    simp only [if_true]
    exact wpAny_pure ⟨plainId_quiet F.plain_all_loop _, ih (i + 1) _ (by omega) hlt hst'.1 hst'.2 fun h'' tk'' hk'' => hR h'' tk'' fun b o hb e => hk'' b o hb (hk' b o (by simpa using hb) e)⟩

theorem all_strs {T : Addr} {items : Array Value} {xs : List Str} {Q : Value → Shared → Prop} (hh : A.handled = none) (hT : s.heap.IsTuple T items) (hv : StrsAre items.toList xs) (hs : ∀ x ∈ xs, 1 ≤ x.length ∧ x.length ≤ 1000)
    (h : ∀ h' tk, (∀ b o, s.heap.get? b = some o → h'.get? b = some o) → Q (.bool true) { s with heap := h', toks := tk }) :
    wpAny (model prog w) A (call (.builtin "all") [.ref T]) Q E s := by
  have hlt : T < s.heap.objs.size := by obtain ⟨_, e, _⟩ := hT; exact Heap.lt_size e
  refine call_function_tree F.kind_all F.plain_all F.entry_all (F.args_all1 _) ?_
  unfold Builtin.«all»
  refine wpAny_bind (m := oneArg "all" _) (wpAny_pure ?_)
  refine wpAny_bind (wpAny_pyIter_tuple hT ?_)
  refine wpAny_pure ⟨plainId_quiet F.plain_all_loop _, all_strs_loop (A := A) hh (Nat.ne_of_lt hlt) hv hs _ 0 _ rfl (Nat.zero_le _) ⟨_, Heap.get?_push_size _ rfl, rfl, rfl⟩ (hT.push _) fun h' tk hk => h h' tk fun b o e => hk b o (Nat.ne_of_lt (Heap.lt_size e)) (Heap.get?_push_of_some _ e)⟩

theorem all_strs_N {h₀ : Heap} {L T : Addr} {m : Str → Option Value} {news : List (Addr × Obj)} {vs : List Value} {xs : List Str} {Q : Value → Shared → Prop} (F : Fr h₀ L s.heap m) (N : News h₀ L s.heap news) (hh : A.handled = none)
    (hm : (T, ({ cls := .type "tuple", data := .seq vs.toArray } : Obj)) ∈ news) (hv : StrsAre vs xs) (hs : ∀ x ∈ xs, 1 ≤ x.length ∧ x.length ≤ 1000)
    (h : ∀ h' tk, Fr h₀ L h' m → News h₀ L h' news → Q (.bool true) { s with heap := h', toks := tk }) :
    wpAny (model prog w) A (call (.builtin "all") [.ref T]) Q E s :=
  all_strs hh ⟨_, (N _ hm).1, rfl, _, rfl⟩ (by simpa using hv) hs fun h' tk hk => h h' tk (F.keeps hk) (N.grown hk)


abbrev mapO (n : Nat) : Obj := { cls := .type "map", data := .fields #[.ref (n + 1), .builtin "len"] }
abbrev lone (n : Nat) : Obj := { cls := .type "tuple", data := .seq #[.ref n] }
abbrev lit0 (l : Addr) : Obj := { cls := .type "list_iterator", data := .fields #[.ref l, .int 0 0] }

theorem map_len_N {h₀ : Heap} {L l : Addr} {m : Str → Option Value} {news : List (Addr × Obj)} {vs : List Value} {k : Nat} {Q : Value → Shared → Prop} (F : Fr h₀ L s.heap m) (N : News h₀ L s.heap news)
    (hm : (l, ({ cls := .type "list", data := .seq vs.toArray k } : Obj)) ∈ news)
    (h : ∀ h' (n : Nat), (∀ p ∈ news, @LT.lt Nat _ p.1 n) → Fr h₀ L h' m → News h₀ L h' ((n + 2, mapO n) :: (n + 1, lone n) :: (n, lit0 l) :: news) → Q (.ref (n + 2)) { s with heap := h' }) :
    wpAny (model prog w) A (call (.type "map") [.builtin "len", .ref l]) Q E s := by
  refine call_map_len (vs := vs) ⟨_, (N _ hm).1, rfl, _, rfl⟩ fun h' n hn st g1 hk hsz => ?_
  have hlt : ∀ p ∈ news, @LT.lt Nat _ p.1 n := fun p hp => by rw [hn]; exact Heap.lt_size (N p hp).1
  have hL : @LT.lt Nat _ L n := by rw [hn]; exact F.ns.lt
  have hg : ∀ b, @LE.le Nat _ n b → h₀.get? b = none := fun b hb => Heap.get?_none_of_le (Nat.le_trans F.above (by have := F.ns.lt; exact Nat.le_trans (Nat.le_of_lt hL) hb))
  refine h h' n hlt (F.keeps hk) fun p hp => ?_
  simp only [List.mem_cons] at hp
  rcases hp with rfl | rfl | rfl | hp
  · exact ⟨st.hm, neN (by omega), hg _ (by show n ≤ n + 2; omega)⟩
  · exact ⟨st.hT, neN (by omega), hg _ (by show n ≤ n + 1; omega)⟩
  · exact ⟨g1, neN (by omega), hg _ (Nat.le_refl n)⟩
  · exact N.grown hk p hp

theorem max_map_N {h₀ : Heap} {L l : Addr} {n : Nat} {m : Str → Option Value} {news : List (Addr × Obj)} {vs : List Value} {xs : List Str} {k : Nat} {b : Int} {Q : Value → Shared → Prop} (F : Fr h₀ L s.heap m) (N : News h₀ L s.heap ((n + 2, mapO n) :: (n + 1, lone n) :: (n, lit0 l) :: news)) (hh : A.handled = none)
    (hlt : ∀ p ∈ news, @LT.lt Nat _ p.1 n) (hm : (l, ({ cls := .type "list", data := .seq vs.toArray k } : Obj)) ∈ news) (hv : StrsAre vs xs) (hs : ∀ x ∈ xs, x.length ≤ 1000) (hb : ∀ x ∈ xs, (x.length : Int) < b) (h0 : 0 < vs.length)
    (h : ∀ h' tk M t, M < b → Fr h₀ L h' m → News h₀ L h' news → Q (.int M t) { s with heap := h', toks := tk }) :
    wpAny (model prog w) A (call (.builtin "max") [.ref (n + 2)]) Q E s := by
  have N3 := N (n + 2, mapO n) (by simp)
  have N2 := N (n + 1, lone n) (by simp)
  have N1 := N (n, lit0 l) (by simp)
  have Nl := N _ (List.mem_cons_of_mem _ (List.mem_cons_of_mem _ (List.mem_cons_of_mem _ hm)))
  have hln : @LT.lt Nat _ l n := hlt _ hm
  refine max_map_len hh hln ⟨N3.1, N2.1, ⟨_, N1.1, rfl, rfl⟩, ⟨_, Nl.1, rfl, _, rfl⟩⟩ (Heap.lt_size N3.1) hv hs hb h0 fun h' tk M t hM hk => h h' tk M t hM ?_ ?_
  · refine ⟨F.ns.at' fun o e => hk _ o (Ne.symm N1.2.1) e, fun b o e => hk b o (fun q => ?_) (F.keep b o e), F.above⟩
    have := N1.2.2
    rw [← q, e] at this
    cases this
  · intro p hp
    have q := N p (List.mem_cons_of_mem _ (List.mem_cons_of_mem _ (List.mem_cons_of_mem _ hp)))
    exact ⟨hk _ _ (neN (by have := hlt p hp; omega)) q.1, q.2⟩
end
end Mine
end
section
open PySem PySem.W PyProof.Rows PySem.Calls
set_option maxRecDepth 100000
set_option maxHeartbeats 4000000
namespace Mine

section
variable {prog : Program} {w : World} {A : Around} {s s₀ : Shared} {env : Env} {R : Result → Shared → Prop}

/-- what a turn of a clause does after its name is bound, and then k -/
def LastL (elt : Expr) (acc : Value) (env : Env) (k : Sem Fin) : Sem Fin := (eval elt env >>= fun x => call (.builtin "list.append") [acc, x] >>= fun _ => pure ()) >>= fun (_ : Unit) => k
def LastS (elt : Expr) (acc : Value) (env : Env) (k : Sem Fin) : Sem Fin := (eval elt env >>= fun v => standAt elt.pos >>= fun _ => call (.builtin "set.add") [acc, v] >>= fun _ => pure ()) >>= fun (_ : Unit) => k
def MidC (e : Expr) (d : Nat) (iter : Expr) (acc : Value) (env : Env) (k : Sem Fin) : Sem Fin :=
  eval iter env >>= fun x => standAt iter.pos >>= fun _ => foldedSetIterable iter env x >>= fun x => holding [x] (pyIter x) >>= fun it' => runOwn (.compStart e d it' acc env) env >>= fun _ => k

def TurnIs (e : Expr) (d : Nat) (target iter : Expr) (it acc : Value) (env : Env) (inner : Sem Fin → Sem Fin) : Prop :=
  compTurn e d it acc env = (standAt iter.pos >>= fun _ => pyNext it >>= fun r => match r with
      | none => pure (.done .next)
      | some v => letOwnedTupleGo target it v >>= fun _ => assign target env v >>= fun _ => inner (again (.compLoop e d it acc env)))

theorem turn_list2_0 (elt t1 i1 t2 i2 : Expr) (scope : Scope) (pos : Pos) (it acc : Value) (env : Env) :
    TurnIs (.ListComp elt [⟨t1, i1, [], 0⟩, ⟨t2, i2, [], 0⟩] scope pos) 0 t1 i1 it acc env (MidC (.ListComp elt [⟨t1, i1, [], 0⟩, ⟨t2, i2, [], 0⟩] scope pos) 1 i2 acc env) := by rfl
theorem turn_list2_1 (elt t1 i1 t2 i2 : Expr) (scope : Scope) (pos : Pos) (it acc : Value) (env : Env) :
    TurnIs (.ListComp elt [⟨t1, i1, [], 0⟩, ⟨t2, i2, [], 0⟩] scope pos) 1 t2 i2 it acc env (LastL elt acc env) := by rfl
theorem turn_set3_0 (elt t1 i1 t2 i2 t3 i3 : Expr) (scope : Scope) (pos : Pos) (it acc : Value) (env : Env) :
    TurnIs (.SetComp elt [⟨t1, i1, [], 0⟩, ⟨t2, i2, [], 0⟩, ⟨t3, i3, [], 0⟩] scope pos) 0 t1 i1 it acc env (MidC (.SetComp elt [⟨t1, i1, [], 0⟩, ⟨t2, i2, [], 0⟩, ⟨t3, i3, [], 0⟩] scope pos) 1 i2 acc env) := by rfl
theorem turn_set3_1 (elt t1 i1 t2 i2 t3 i3 : Expr) (scope : Scope) (pos : Pos) (it acc : Value) (env : Env) :
    TurnIs (.SetComp elt [⟨t1, i1, [], 0⟩, ⟨t2, i2, [], 0⟩, ⟨t3, i3, [], 0⟩] scope pos) 1 t2 i2 it acc env (MidC (.SetComp elt [⟨t1, i1, [], 0⟩, ⟨t2, i2, [], 0⟩, ⟨t3, i3, [], 0⟩] scope pos) 2 i3 acc env) := by rfl
theorem turn_set3_2 (elt t1 i1 t2 i2 t3 i3 : Expr) (scope : Scope) (pos : Pos) (it acc : Value) (env : Env) :
    TurnIs (.SetComp elt [⟨t1, i1, [], 0⟩, ⟨t2, i2, [], 0⟩, ⟨t3, i3, [], 0⟩] scope pos) 2 t3 i3 it acc env (LastS elt acc env) := by rfl

/-- what the inner part needs -/
def Inner (M : Model) (A : Around) (inner : Sem Fin → Sem Fin) (IW : (Shared → Prop) → Shared → Prop) : Prop :=
  ∀ (k : Sem Fin) (Q : Fin → Shared → Prop) (E : Value → Shared → Prop) (P : Shared → Prop) (s : Shared), IW P s → (∀ s', P s' → wpAny M A k Q E s') → wpAny M A (inner k) Q E s

def InnerMono (IW : (Shared → Prop) → Shared → Prop) : Prop := ∀ (P P' : Shared → Prop) (s : Shared), (∀ s', P s' → P' s') → IW P s → IW P' s

theorem my_compLoop {e target iter : Expr} {d : Nat} {it acc : Value} {inner : Sem Fin → Sem Fin} {IW : (Shared → Prop) → Shared → Prop} (ht : TurnIs e d target iter it acc env inner) (hin : Inner (model prog w) A inner IW)
    (hq : (Code.compLoop e d it acc env).quiet = true) (hu : A.under (Code.compLoop e d it acc env) = A) (hf : (Code.compLoop e d it acc env).isFrame = false) (n : Nat) (J : Nat → Shared → Prop) (h0 : J 0 s)
    (turn : ∀ i s₁, i ≤ n → J i s₁ → wpAny (model prog w) A (pyNext it) (fun r s₂ => match r with
      | none => R (.ok .next) s₂
      | some v => i < n ∧ wpAny (model prog w) A (assign target env v) (fun _ s₃ => IW (J (i + 1)) s₃) NoE s₂) NoE s₁)
    (hl : ∀ v, letOwnedTupleGo target it v = pure ()) :
    codeAny (model prog w) A (.compLoop e d it acc env) R s := by
  refine codeAny_loop hq (fun k s => ∃ i, i ≤ n ∧ k = n - i ∧ J i s) (fun k s hI => ?_) n ⟨0, Nat.zero_le _, rfl, h0⟩
  obtain ⟨i, hi, rfl, hJ⟩ := hI
  rw [hu]
  show wpAny _ A (if (Code.compLoop e d it acc env).isFrame then (compTurn e d it acc env).onRaise (leaving env) else (compTurn e d it acc env).onRaise (fun x => do noteFrame x env; theTreesLotGoes x)) _ _ s
  rw [hf]
  simp only [Bool.false_eq_true, if_false]
  refine wpAny_noted ?_
  rw [ht]
  refine wpAny_bind (wpAny_standAt (wpAny_bind (wpAny_mono (turn i s hi hJ) (fun r s₁ h₁ => ?_) fun _ _ h' => h'.elim)))
  cases r with
  | none => exact wpAny_pure h₁
  | some v =>
    obtain ⟨hlt, h₁⟩ := h₁
    refine wpAny_bind (wpAny_of_eq (hl v) ?_)
    refine wpAny_bind (wpAny_mono h₁ (fun _ s₂ h₂ => hin _ _ _ _ _ h₂ fun s₃ h₃ => ?_) fun _ _ h' => h'.elim)
    exact wpAny_pure ⟨rfl, n - (i + 1), by omega, i + 1, hlt, rfl, h₃⟩

theorem my_compStart {e : Expr} {d : Nat} {g : Comprehension} {it acc : Value} (hg : (clausesOf e)[d]? = some g) (ha : g.is_async = 0) (hq : (Code.compLoop e d it acc env).quiet = true) (hq' : ∀ it', (Code.compLoop e d it' acc env).quiet = true)
    (hu : A.under (Code.compStart e d it acc env) = A) (hf : (Code.compStart e d it acc env).isFrame = false)
    (h0 : codeAny (model prog w) A (.compLoop e d it acc env) R s)
    (h : wpAny (model prog w) A (pyIter it) (fun it' s' => codeAny (model prog w) A (.compLoop e d it' acc env) R s') NoE s) :
    codeAny (model prog w) A (.compStart e d it acc env) R s := by
  refine codeAny_of_tree ?_
  rw [hu]
  show wpAny _ _ (if (Code.compStart e d it acc env).isFrame then (compStart e d it acc env).onRaise (leaving env) else (compStart e d it acc env).onRaise (fun x => do noteFrame x env; standAt theWindowsPlace)) _ _ s
  rw [hf]
  simp only [Bool.false_eq_true, if_false]
  refine wpAny_notedAt ?_
  unfold compStart
  rw [hg]
  have hna : (g.is_async != 0) = false := by rw [ha]; rfl
  simp only [Option.elim_some, hna, Bool.false_eq_true, if_false]
  show wpAny _ _ (ask >>= _) _ _ s
  refine wpAny_bind (wpAny_askSetting (wpAny_ite ?_))
  split
  · first
      | exact wpAny_bind (wpAny_pure (wpAny_pure (And.intro hq h0)))
      | exact wpAny_pure (And.intro hq h0)
  · have h' := wpAny_mono h (fun it' s' (h' : codeAny (model prog w) A (.compLoop e d it' acc env) R s') => (wpAny_pure (And.intro (hq' it') h') : wpAny (model prog w) A (again (.compLoop e d it' acc env)) (fun fin s' => match fin with | .done f => R (.ok f) s' | .again c' => c'.quiet = true ∧ codeAny (model prog w) A c' R s') (notedBy (model prog w) A env fun x s' => R (.error x) s') s')) (fun _ _ x => x.elim) (E' := notedBy (model prog w) A env fun x s' => R (.error x) s')
    first
      | exact wpAny_bind (wpAny_rule (wpAny_bind (wpAny_standAt (wpAny_bind h'))))
      | (refine wpAny_bind (wpAny_rule ?_); show wpAny _ _ (standAt _ >>= _) _ _ s; exact wpAny_bind (wpAny_standAt (wpAny_bind h')))

theorem inner_list {elt : Expr} {acc : Value} : Inner (model prog w) A (LastL elt acc env) (fun P s => wpAny (model prog w) A (eval elt env) (fun x s₁ => wpAny (model prog w) A (call (.builtin "list.append") [acc, x]) (fun _ s₂ => P s₂) NoE s₁) NoE s) := by
  intro k Q E P s h hk
  unfold LastL
  exact wpAny_bind (wpAny_bind (wpAny_mono h (fun x s₁ h₁ => wpAny_bind (wpAny_mono h₁ (fun _ s₂ h₂ => wpAny_pure (hk s₂ h₂)) fun _ _ e => e.elim)) fun _ _ e => e.elim))
theorem inner_set {elt : Expr} {acc : Value} : Inner (model prog w) A (LastS elt acc env) (fun P s => wpAny (model prog w) A (eval elt env) (fun x s₁ => wpAny (model prog w) A (call (.builtin "set.add") [acc, x]) (fun _ s₂ => P s₂) NoE s₁) NoE s) := by
  intro k Q E P s h hk
  unfold LastS
  exact wpAny_bind (wpAny_bind (wpAny_mono h (fun x s₁ h₁ => wpAny_bind (wpAny_standAt (wpAny_bind (wpAny_mono h₁ (fun _ s₂ h₂ => wpAny_pure (hk s₂ h₂)) fun _ _ e => e.elim)))) fun _ _ e => e.elim))
theorem inner_mid {e iter : Expr} {d : Nat} {acc : Value} (hs : ∀ v, foldedSetIterable iter env v = pure v) : Inner (model prog w) A (MidC e d iter acc env)
    (fun P s => wpAny (model prog w) A (eval iter env) (fun x s₁ => wpAny (model prog w) A (pyIter x) (fun it' s₂ => codeAny (model prog w) A (.compStart e d it' acc env) (fun r s₃ => r = .ok .next ∧ P s₃) s₂) NoE s₁) NoE s) := by
  intro k Q E P s h hk
  unfold MidC
  refine wpAny_bind (wpAny_mono h (fun x s₁ h₁ => wpAny_bind (wpAny_standAt (wpAny_bind (wpAny_of_eq (hs x) (wpAny_bind (wpAny_holding (wpAny_mono h₁ (fun it' s₂ h₂ => wpAny_bind (wpAny_runOwn (codeAny_mono h₂ fun r s₃ h₃ => ?_))) fun _ _ e => e.elim))))))) fun _ _ e => e.elim)
  obtain ⟨rfl, h₃⟩ := h₃
  exact hk s₃ h₃
theorem mono_emit {elt : Expr} {f : Value → Sem Value} : InnerMono (fun P s => wpAny (model prog w) A (eval elt env) (fun x s₁ => wpAny (model prog w) A (f x) (fun _ s₂ => P s₂) NoE s₁) NoE s) :=
  fun _ _ _ h q => wpAny_mono q (fun _ _ q => wpAny_mono q (fun _ s' q => h s' q) fun _ _ e => e) fun _ _ e => e
theorem mono_mid {e iter : Expr} {d : Nat} {acc : Value} : InnerMono
    (fun P s => wpAny (model prog w) A (eval iter env) (fun x s₁ => wpAny (model prog w) A (pyIter x) (fun it' s₂ => codeAny (model prog w) A (.compStart e d it' acc env) (fun r s₃ => r = .ok .next ∧ P s₃) s₂) NoE s₁) NoE s) :=
  fun _ _ _ h q => wpAny_mono q (fun _ _ q => wpAny_mono q (fun _ _ q => codeAny_mono q fun _ s' q => ⟨q.1, h s' q.2⟩) fun _ _ e => e) fun _ _ e => e
end
end Mine
end
section
open PySem PySem.W PyProof.Rows PySem.Calls
set_option maxRecDepth 100000
set_option maxHeartbeats 4000000
namespace Mine
open PyProof.Rows.LCg

/-- the state in a comprehension: its frame C, its result D -/
def CSt (g : Heap) (L : Addr) (m : Str → Option Value) (s : Shared) (C D : Addr) (oD : Obj) (mC : Str → Option Value) (led : List (Addr × Obj)) (s' : Shared) : Prop :=
  ∃ h tk oC, s' = { s with heap := h, toks := tk } ∧ Fr g L h m ∧ NsObj oC mC ∧ News g L h ((C, oC) :: (D, oD) :: led) ∧ C ≠ D ∧ (∀ p ∈ led, p.1 ≠ C ∧ p.1 ≠ D)

section
variable {prog : Program} {w : World} {A : Around} {s s₀ s₁ : Shared} {env : Env} {R : Result → Shared → Prop} {g : Heap} {L I C D : Addr} {m : Str → Option Value} {α : Type} {scope : Scope} {cl : List (Str × Addr)}

theorem comp_level {e iter : Expr} {x : Str} {px : Pos} {d n : Nat} {inner : Sem Fin → Sem Fin} {IW : (Shared → Prop) → Shared → Prop} {fp : List Addr} {P : Nat → Value → Prop} {St : Nat → Heap → Prop}
    (mk : α → Str → Option Value) (oDf : α → Obj) (led : α → List (Addr × Obj)) (J : Nat → α → Prop) (σ₀ : α)
    (ht : TurnIs e d (.Name x px) iter (.ref I) (.ref D) (compEnvC scope cl C env) inner) (hin : Inner (model prog w) A inner IW) (hmono : InnerMono IW)
    (hq : (Code.compLoop e d (.ref I) (.ref D) (compEnvC scope cl C env)).quiet = true) (hu : A.under (Code.compLoop e d (.ref I) (.ref D) (compEnvC scope cl C env)) = A) (hf : (Code.compLoop e d (.ref I) (.ref D) (compEnvC scope cl C env)).isFrame = false)
    (W : Walks prog w A I fp [I] n P St) (hIo : ∀ i h, St i h → ∃ o, h.get? I = some o)
    (hSt : ∀ i h h' o σ, St i h → h.get? I = some o → h'.get? I = some o → Fr g L h' m → News g L h' (led σ) → St i h')
    (hx : scope.names.lookup x = some .local) (hkind : scope.kind = .function)
    (hIL : I ≠ L) (hIg : g.get? I = none) (hIC : I ≠ C) (hID : I ≠ D)
    (h0 : CSt g L m s C D (oDf σ₀) (mk σ₀) (led σ₀) s₁) (hst0 : St 0 s₁.heap) (hJ0 : J 0 σ₀) (hoff : ∀ p ∈ led σ₀, p.1 ≠ I)
    (turn : ∀ i σ v oI oC h tk, i < n → J i σ → P i v → Fr g L h m → NsObj oC (fun z => if z = x then some v else mk σ z) → News g L h ((C, oC) :: (D, oDf σ) :: (I, oI) :: led σ) → (∀ p ∈ led σ, p.1 ≠ C ∧ p.1 ≠ D) → (∀ p ∈ led σ, p.1 ≠ I) → C ≠ D →
      IW (fun s₄ => ∃ σ' oI', J (i + 1) σ' ∧ oI' = oI ∧ CSt g L m s C D (oDf σ') (mk σ') ((I, oI') :: led σ') s₄ ∧ ∀ p ∈ led σ', p.1 ≠ I) { s with heap := h, toks := tk })
    (fin : ∀ σ s', J n σ → CSt g L m s C D (oDf σ) (mk σ) (led σ) s' → (∀ p ∈ led σ, p.1 ≠ I) → R (.ok .next) s') :
    codeAny (model prog w) A (.compLoop e d (.ref I) (.ref D) (compEnvC scope cl C env)) R s₁ := by
  refine my_compLoop ht hin hq hu hf n (fun i s' => ∃ σ, J i σ ∧ CSt g L m s C D (oDf σ) (mk σ) (led σ) s' ∧ St i s'.heap ∧ ∀ p ∈ led σ, p.1 ≠ I) ⟨σ₀, hJ0, h0, hst0, hoff⟩ ?_ (fun v => rfl)
  rintro i s₁ hi ⟨σ, hJ, ⟨h, tk, oC, rfl, F, hns, N, hCD, offs⟩, hst, offI⟩
  have NC := N (C, oC) (by simp)
  have ND := N (D, oDf σ) (by simp)
  have Nled : News g L h (led σ) := fun p hp => N p (List.mem_cons_of_mem _ (List.mem_cons_of_mem _ hp))
  by_cases hlt : i < n
  · refine W.item i _ _ _ hlt hst fun v h₂ tk₂ hPv hst₂ hk₂ => ⟨hlt, ?_⟩
    have F₂ := fr_but F hk₂ (Ne.symm hIL) hIg
    have gC : h₂.get? C = some oC := hk₂ _ _ (by simpa using Ne.symm hIC) NC.1
    have gD : h₂.get? D = some (oDf σ) := hk₂ _ _ (by simpa using Ne.symm hID) ND.1
    refine wpAny_assign_Name (wpAny_storeName_local (lookup_relabel_local hx) (hns.ns gC) (fun h₃ hn₃ hs₃ => ?_) (by simp [compEnvC, relabel, hkind]))
    have F₃ := F₂.change hs₃ NC.2.1 NC.2.2
    obtain ⟨oC', heC, hoC⟩ := ns_obj hn₃
    obtain ⟨oI, heI⟩ := hIo _ _ hst₂
    have heI3 : h₃.get? I = some oI := hs₃.extBut _ _ hIC heI
    have N₃ : News g L h₃ ((C, oC') :: (D, oDf σ) :: (I, oI) :: led σ) := by
      intro p hp
      simp only [List.mem_cons] at hp
      rcases hp with rfl | rfl | rfl | hp
      · exact ⟨heC, NC.2⟩
      · exact ⟨hs₃.extBut _ _ (Ne.symm hCD) gD, ND.2⟩
      · exact ⟨heI3, hIL, hIg⟩
      · exact ⟨hs₃.extBut _ _ (offs p hp).1 (hk₂ _ _ (by simpa using offI p hp) (Nled p hp).1), (Nled p hp).2⟩
    have hst3 : St (i + 1) h₃ := hSt _ _ _ oI σ hst₂ heI heI3 F₃ fun p hp => N₃ p (List.mem_cons_of_mem _ (List.mem_cons_of_mem _ (List.mem_cons_of_mem _ hp)))
    have T := turn i σ v oI oC' h₃ (tk₂ + 1) hlt hJ hPv F₃ hoC N₃ offs offI hCD
    refine hmono _ _ _ ?_ T
    rintro s₄ ⟨σ', oI', hJ', rfl, ⟨h₄, tk₄, oC₄, rfl, F₄, hns₄, N₄, hCD₄, offs₄⟩, offI₄⟩
    have N4l : News g L h₄ (led σ') := fun p hp => N₄ p (List.mem_cons_of_mem _ (List.mem_cons_of_mem _ (List.mem_cons_of_mem _ hp)))
    refine ⟨σ', hJ', ⟨h₄, tk₄, oC₄, rfl, F₄, hns₄, fun p hp => N₄ p ?_, hCD₄, fun p hp => offs₄ p (List.mem_cons_of_mem _ hp)⟩, hSt _ _ _ oI' σ' hst3 heI3 (N₄ (I, oI') (by simp)).1 F₄ N4l, offI₄⟩
    simp only [List.mem_cons] at hp ⊢
    rcases hp with hp | hp | hp
    · exact .inl hp
    · exact .inr (.inl hp)
    · exact .inr (.inr (.inr hp))
  · have : i = n := by omega
    subst this
    refine W.done _ _ _ hst fun h₂ tk₂ hk₂ => ?_
    refine fin σ _ hJ ⟨h₂, tk₂, oC, rfl, fr_but F hk₂ (Ne.symm hIL) hIg, hns, ?_, hCD, offs⟩ offI
    refine news_but N hk₂ fun p hp => ?_
    simp only [List.mem_cons] at hp
    rcases hp with rfl | rfl | hp
    · exact Ne.symm hIC
    · exact Ne.symm hID
    · exact offI p hp

def CFin (g : Heap) (L : Addr) (m : Str → Option Value) (s : Shared) (Q : Value → Shared → Prop) (C D : Addr) (s' : Shared) : Prop :=
  ∃ oD mC led, CSt g L m s C D oD mC led s' ∧ ∀ h tk, Fr g L h m → News g L h ((D, oD) :: led) → Q (.ref D) { s with heap := h, toks := tk }

theorem comp_block {e : Expr} {newAcc : Sem Value} {o0 : Bool → Obj} {Q : Value → Shared → Prop} {led : List (Addr × Obj)} {s₂ : Shared} {h₂ : Heap} {tk₂ : Nat}
    (hacc : ∀ (Q' : Value → Shared → Prop) (s : Shared), (∀ lb : Bool, Q' (.ref s.heap.objs.size) { s with heap := s.heap.push (o0 lb) }) → wpAny (model prog w) A newAcc Q' NoE s)
    (hfr : ∀ b, (o0 b).isFreed = false) (hcell : ∀ y ∈ scope.names, y.2 ≠ .cell) (hkind : scope.kind = .function) (he₂ : s₂ = { s with heap := h₂, toks := tk₂ }) (F : Fr g L h₂ m) (N : News g L h₂ led) (hIlt : I < h₂.objs.size)
    (loop : ∀ lb C D h tk oC, Fr g L h m → NsObj oC (fun _ => none) → News g L h ((C, oC) :: (D, o0 lb) :: led) → C ≠ D → (∀ p ∈ led, p.1 ≠ C ∧ p.1 ≠ D) → I ≠ C → I ≠ D → (∀ p ∈ led, @LT.lt Nat _ p.1 D) → (∀ b o, h₂.get? b = some o → h.get? b = some o) →
      codeAny (model prog w) A (.compStart e 0 (.ref I) (.ref D) (compEnvC scope cl C env)) (fun r s' => r = .ok .next ∧ CFin g L m s Q C D s') { s with heap := h, toks := tk }) :
    wpAny (model prog w) A newAcc (fun acc s₃ => wpAny (model prog w) A (newFunctionEnv scope env.globals cl [] env.qual none .none (some env)) (fun cenv s₄ =>
        codeAny (model prog w) A (.compStart e 0 (.ref I) acc { cenv with scope := relabel scope env }) (compPost (model prog w) A NoE none Q acc cenv.locals) s₄) NoE s₃) NoE s₂ := by
  subst he₂
  refine hacc _ _ fun lb => ?_
  refine wpAny_newFunctionEnv hcell (by intro y hy; simp at hy) (fun h₁ hns₁ hsb₁ => ?_) hkind
  dsimp only at hns₁ hsb₁ ⊢
  generalize hH2 : h₂.push (o0 lb) = H2 at hns₁ hsb₁ ⊢
  have hC : H2.objs.size = h₂.objs.size + 1 := by rw [← hH2, Heap.size_push]
  have hDC : h₂.objs.size ≠ H2.objs.size := by rw [hC]; exact Nat.ne_of_lt (Nat.lt_succ_self _)
  have below : ∀ b, @LT.lt Nat _ b h₂.objs.size → b ≠ H2.objs.size ∧ b ≠ h₂.objs.size := fun b hb => ⟨by rw [hC]; exact Nat.ne_of_lt (Nat.lt_succ_of_lt hb), Nat.ne_of_lt hb⟩
  have old : ∀ b o, h₂.get? b = some o → h₁.get? b = some o := fun b o e => hsb₁.extBut b o (below b (Heap.lt_size e)).1 (Heap.get?_push_of_some _ (hH2 ▸ Heap.get?_push_of_some _ e))
  have gD : h₁.get? h₂.objs.size = some (o0 lb) := hsb₁.extBut _ _ hDC (Heap.get?_push_of_some _ (hH2 ▸ Heap.get?_push_size _ (hfr lb)))
  have hLlt : @LT.lt Nat _ L h₂.objs.size := F.ns.lt
  have fresh₀ : ∀ a, @LE.le Nat _ h₂.objs.size a → g.get? a = none := fun a ha => Heap.get?_none_of_le (Nat.le_trans F.above (Nat.le_trans (Nat.le_of_lt hLlt) ha))
  obtain ⟨oC, heC, hoC⟩ := ns_obj hns₁
  have key := loop lb H2.objs.size h₂.objs.size h₁ (tk₂ + ([] : List (Str × Value)).length) oC (F.keeps old) (by simpa using hoC) (fun p hp => ?_) (Ne.symm hDC) (fun p hp => below _ (Heap.lt_size (N p hp).1)) (below I hIlt).1 (below I hIlt).2 (fun p hp => Heap.lt_size (N p hp).1) old
  · refine codeAny_mono key fun r s' hr => ?_
    obtain ⟨rfl, oD, mC, led', ⟨h', tk', oC', rfl, F', hns', N', hCD', offs'⟩, hQ⟩ := hr
    have NC := N' _ List.mem_cons_self
    refine ⟨mC, hns'.ns NC.1, fun h'' hs'' => hQ h'' tk' (F'.change hs'' NC.2.1 NC.2.2) fun p hp => ?_⟩
    have q := N' p (List.mem_cons_of_mem _ hp)
    refine ⟨hs''.extBut _ _ ?_ q.1, q.2⟩
    rcases List.mem_cons.mp hp with rfl | hp
    · exact Ne.symm hCD'
    · exact (offs' p hp).1
  · simp only [List.mem_cons] at hp
    rcases hp with rfl | rfl | hp
    · exact ⟨heC, Ne.symm (neN (by omega)), fresh₀ _ (by omega)⟩
    · exact ⟨gD, Ne.symm (neN (by omega)), fresh₀ _ (Nat.le_refl _)⟩
    · exact N.grown old p hp

theorem acc_list (Q' : Value → Shared → Prop) (s : Shared) (h : ∀ _ : Bool, Q' (.ref s.heap.objs.size) { s with heap := s.heap.push (lst []) }) : wpAny (model prog w) A (newList []) Q' NoE s := wpAny_newObj_type (h true)
abbrev set0 (lb : Bool) : Obj := { cls := .type "set", dict := none, data := .set #[] 0 (.fresh 0 0 lb) }
theorem acc_set (Q' : Value → Shared → Prop) (s : Shared) (h : ∀ lb : Bool, Q' (.ref s.heap.objs.size) { s with heap := s.heap.push (set0 lb) }) : wpAny (model prog w) A (newSet (.type "set")) Q' NoE s :=
  wpAny_newSet_of (knd := strKind prog w) fun lb _ => h lb

/-- the first iterator of a comprehension, and the rest -/
def CompFrom (prog : Program) (w : World) (A : Around) (g : Heap) (L : Addr) (m : Str → Option Value) (s : Shared) (env : Env) (scope : Scope) (cl : List (Str × Addr)) (e : Expr) (o0 : Bool → Obj) (Q : Value → Shared → Prop) (it : Value) (s₂ : Shared) : Prop :=
  ∃ I h₂ tk₂ led, it = .ref I ∧ s₂ = { s with heap := h₂, toks := tk₂ } ∧ Fr g L h₂ m ∧ News g L h₂ led ∧ I < h₂.objs.size ∧
    ∀ lb C D h tk oC, Fr g L h m → NsObj oC (fun _ => none) → News g L h ((C, oC) :: (D, o0 lb) :: led) → C ≠ D → (∀ p ∈ led, p.1 ≠ C ∧ p.1 ≠ D) → I ≠ C → I ≠ D → (∀ p ∈ led, @LT.lt Nat _ p.1 D) → (∀ b o, h₂.get? b = some o → h.get? b = some o) →
      codeAny (model prog w) A (.compStart e 0 (.ref I) (.ref D) (compEnvC scope cl C env)) (fun r s' => r = .ok .next ∧ CFin g L m s Q C D s') { s with heap := h, toks := tk }

theorem my_ListComp {elt target iter : Expr} {ifs : List Expr} {rest : List Comprehension} {pos : Pos} {Q E : Value → Shared → Prop}
    (_F : Fr g L s₀.heap m) (hclos : closureFor scope env = pure cl) (hcell : ∀ y ∈ scope.names, y.2 ≠ .cell) (hkind : scope.kind = .function)
    (hnames : ∀ y ∈ scope.names, y.2 = .local → scope.names.lookup y.1 = some .local)
    (h : wpAny (model prog w) A (eval iter env) (fun xv s₁ => wpAny (model prog w) A (pyIter xv) (CompFrom prog w A g L m s env scope cl (.ListComp elt (⟨target, iter, ifs, 0⟩ :: rest) scope pos) (fun _ => lst []) Q) NoE s₁) NoE s₀)
    (hs : ∀ x, foldedSetIterable iter env x = pure x := by intro _; rfl) :
    wpAny (model prog w) A (eval (.ListComp elt (⟨target, iter, ifs, 0⟩ :: rest) scope pos) env) Q E s₀ := by
  rw [eval_ListComp]
  refine wpAny_mono (wpAny_comprehension_free (use := none) (E := NoE) rfl hs hclos hkind hnames (wpAny_mono h (fun xv s₁ h₁ => wpAny_mono h₁ (fun it s₂ h₂ => ?_) fun _ _ e => e) fun _ _ e => e)) (fun _ _ q => q) fun _ _ e => e.elim
  obtain ⟨I, h₂, tk₂, led, rfl, he, F, N, hI, loop⟩ := h₂
  exact comp_block acc_list (fun _ => rfl) hcell hkind he F N hI loop

theorem my_SetComp {elt target iter : Expr} {rest : List Comprehension} {pos : Pos} {Q E : Value → Shared → Prop}
    (_F : Fr g L s₀.heap m) (hclos : closureFor scope env = pure cl) (hcell : ∀ y ∈ scope.names, y.2 ≠ .cell) (hkind : scope.kind = .function)
    (hnames : ∀ y ∈ scope.names, y.2 = .local → scope.names.lookup y.1 = some .local)
    (h : wpAny (model prog w) A (eval iter env) (fun xv s₁ => wpAny (model prog w) A (pyIter xv) (CompFrom prog w A g L m s env scope cl (.SetComp elt (⟨target, iter, [], 0⟩ :: rest) scope pos) set0 Q) NoE s₁) NoE s₀)
    (hs : ∀ x, foldedSetIterable iter env x = pure x := by intro _; rfl) :
    wpAny (model prog w) A (eval (.SetComp elt (⟨target, iter, [], 0⟩ :: rest) scope pos) env) Q E s₀ := by
  rw [arm_eval_SetComp]
  refine wpAny_mono (wpAny_comprehension_free (use := none) (E := NoE) rfl hs hclos hkind hnames (wpAny_mono h (fun xv s₁ h₁ => wpAny_mono h₁ (fun it s₂ h₂ => ?_) fun _ _ e => e) fun _ _ e => e)) (fun _ _ q => q) fun _ _ e => e.elim
  obtain ⟨I, h₂, tk₂, led, rfl, he, F, N, hI, loop⟩ := h₂
  exact comp_block acc_set (fun _ => rfl) hcell hkind he F N hI loop
end
end Mine
end
section
open PySem PySem.W PyProof.Rows PySem.Calls
set_option maxRecDepth 100000
set_option maxHeartbeats 4000000
namespace Mine
open PyProof.Rows.LCg

/-- e is a list or set comprehension, which runs in its frame -/
def Plain (e : Expr) : Prop := ∀ (A : Around) (d : Nat) (it acc : Value) (env : Env),
  (Code.compLoop e d it acc env).quiet = true ∧ A.under (Code.compLoop e d it acc env) = A ∧ (Code.compLoop e d it acc env).isFrame = false ∧ A.under (Code.compStart e d it acc env) = A ∧ (Code.compStart e d it acc env).isFrame = false
theorem plain_list {elt : Expr} {gens : List Comprehension} {scope : Scope} {pos : Pos} : Plain (.ListComp elt gens scope pos) := fun _ _ _ _ _ => ⟨rfl, rfl, rfl, rfl, rfl⟩
theorem plain_set {elt : Expr} {gens : List Comprehension} {scope : Scope} {pos : Pos} : Plain (.SetComp elt gens scope pos) := fun _ _ _ _ _ => ⟨rfl, rfl, rfl, rfl, rfl⟩

section
variable {prog : Program} {w : World} {A : Around} {s s₀ s₁ : Shared} {env : Env} {R : Result → Shared → Prop} {g : Heap} {L I C D : Addr} {m : Str → Option Value} {α : Type} {scope : Scope} {cl : List (Str × Addr)}

theorem cst_of {h : Heap} {tk : Nat} {oC oD : Obj} {mC : Str → Option Value} {led all : List (Addr × Obj)} (F : Fr g L h m) (N : News g L h all) (hns : NsObj oC mC) (hsub : ∀ p ∈ (C, oC) :: (D, oD) :: led, p ∈ all) (hCD : C ≠ D) (offs : ∀ p ∈ led, p.1 ≠ C ∧ p.1 ≠ D) :
    CSt g L m s C D oD mC led { s with heap := h, toks := tk } := ⟨h, tk, oC, rfl, F, hns, fun p hp => N p (hsub p hp), hCD, offs⟩

/-- the turns' shape shared by the levels -/
def LevelTurn (IW : (Shared → Prop) → Shared → Prop) (g : Heap) (L : Addr) (m : Str → Option Value) (s : Shared) (C D I : Addr) (x : Str) (n : Nat) (P : Nat → Value → Prop) (mk : α → Str → Option Value) (oDf : α → Obj) (led : α → List (Addr × Obj)) (J : Nat → α → Prop) : Prop :=
  ∀ i σ v oI oC h tk, i < n → J i σ → P i v → Fr g L h m → NsObj oC (fun z => if z = x then some v else mk σ z) → News g L h ((C, oC) :: (D, oDf σ) :: (I, oI) :: led σ) → (∀ p ∈ led σ, p.1 ≠ C ∧ p.1 ≠ D) → (∀ p ∈ led σ, p.1 ≠ I) → C ≠ D → I ≠ C → I ≠ D →
      IW (fun s₄ => ∃ σ' oI', J (i + 1) σ' ∧ oI' = oI ∧ CSt g L m s C D (oDf σ') (mk σ') ((I, oI') :: led σ') s₄ ∧ ∀ p ∈ led σ', p.1 ≠ I) { s with heap := h, toks := tk }

theorem range_level {e iter : Expr} {ifs : List Expr} {x : Str} {px : Pos} {d n : Nat} {a : Int} {inner : Sem Fin → Sem Fin} {IW : (Shared → Prop) → Shared → Prop}
    (mk : α → Str → Option Value) (oDf : α → Obj) (led : α → List (Addr × Obj)) (J : Nat → α → Prop) (σ₀ : α)
    (hp : Plain e) (hg : (clausesOf e)[d]? = some ⟨.Name x px, iter, ifs, 0⟩) (ht : TurnIs e d (.Name x px) iter (.ref I) (.ref D) (compEnvC scope cl C env) inner) (hin : Inner (model prog w) A inner IW) (hmono : InnerMono IW) (hh : A.handled = none)
    (hx : scope.names.lookup x = some .local) (hkind : scope.kind = .function)
    (hIL : I ≠ L) (hIg : g.get? I = none) (hIC : I ≠ C) (hID : I ≠ D)
    (h0 : CSt g L m s C D (oDf σ₀) (mk σ₀) (led σ₀) s₁) (hst0 : IsRangeIter s₁.heap I a n 1) (hJ0 : J 0 σ₀) (hoff : ∀ p ∈ led σ₀, p.1 ≠ I)
    (turn : LevelTurn IW g L m s C D I x n (fun i v => ∃ t, v = .int (a + (i : Int)) t) mk oDf led J)
    (fin : ∀ σ s', J n σ → CSt g L m s C D (oDf σ) (mk σ) (led σ) s' → (∀ p ∈ led σ, p.1 ≠ I) → R (.ok .next) s') :
    codeAny (model prog w) A (.compStart e d (.ref I) (.ref D) (compEnvC scope cl C env)) R s₁ := by
  obtain ⟨q1, q2, q3, q4, q5⟩ := hp A d (.ref I) (.ref D) (compEnvC scope cl C env)
  have W := range_walks (prog := prog) (w := w) (A := A) (I := I) hh a n
  have hst : IsRangeIter s₁.heap I (a + ((0 : Nat) : Int) * 1) ((n : Int) - ((0 : Nat) : Int)) 1 := by
    have e1 : a + ((0 : Nat) : Int) * 1 = a := by omega
    have e2 : (n : Int) - ((0 : Nat) : Int) = n := by omega
    rw [e1, e2]; exact hst0
  have loop : codeAny (model prog w) A (.compLoop e d (.ref I) (.ref D) (compEnvC scope cl C env)) R s₁ :=
    comp_level mk oDf led J σ₀ ht hin hmono q1 q2 q3 W (fun i h st => ⟨_, st⟩) (fun i h h' o σ st e e' _ _ => by
      have st' : h.get? I = some _ := st
      show h'.get? I = some _
      rw [e', ← e]; exact st') hx hkind hIL hIg hIC hID h0 hst hJ0 hoff (fun i σ v oI oC h tk a1 a2 a3 a4 a5 a6 a7 a8 a9 => turn i σ v oI oC h tk a1 a2 a3 a4 a5 a6 a7 a8 a9 hIC hID) fin
  exact my_compStart hg rfl q1 (fun it' => (hp A d it' (.ref D) (compEnvC scope cl C env)).1) q4 q5 loop (W.self 0 _ _ _ hst loop)

theorem list_level {e iter : Expr} {ifs : List Expr} {x : Str} {px : Pos} {d : Nat} {wl : Addr} {vs : List Value} {kw : Nat} {inner : Sem Fin → Sem Fin} {IW : (Shared → Prop) → Shared → Prop}
    (mk : α → Str → Option Value) (oDf : α → Obj) (led : α → List (Addr × Obj)) (J : Nat → α → Prop) (σ₀ : α)
    (hp : Plain e) (hg : (clausesOf e)[d]? = some ⟨.Name x px, iter, ifs, 0⟩) (ht : TurnIs e d (.Name x px) iter (.ref I) (.ref D) (compEnvC scope cl C env) inner) (hin : Inner (model prog w) A inner IW) (hmono : InnerMono IW) (hh : A.handled = none)
    (hx : scope.names.lookup x = some .local) (hkind : scope.kind = .function)
    (hIL : I ≠ L) (hIg : g.get? I = none) (hIC : I ≠ C) (hID : I ≠ D) (hwl : ∀ σ, (wl, ({ cls := .type "list", data := .seq vs.toArray kw } : Obj)) ∈ led σ)
    (h0 : CSt g L m s C D (oDf σ₀) (mk σ₀) (led σ₀) s₁) (hst0 : s₁.heap.IsListIter I wl 0) (hJ0 : J 0 σ₀) (hoff : ∀ p ∈ led σ₀, p.1 ≠ I)
    (turn : LevelTurn IW g L m s C D I x vs.length (fun i v => vs[i]? = some v) mk oDf led J)
    (fin : ∀ σ s', J vs.length σ → CSt g L m s C D (oDf σ) (mk σ) (led σ) s' → (∀ p ∈ led σ, p.1 ≠ I) → R (.ok .next) s') :
    codeAny (model prog w) A (.compStart e d (.ref I) (.ref D) (compEnvC scope cl C env)) R s₁ := by
  obtain ⟨q1, q2, q3, q4, q5⟩ := hp A d (.ref I) (.ref D) (compEnvC scope cl C env)
  have W := Walks.list (prog := prog) (w := w) (A := A) hh I wl (hoff _ (hwl σ₀)) vs.toArray
  have gl : ∀ h (σ : α), News g L h (led σ) → h.IsList wl vs.toArray := fun h σ N => ⟨_, (N _ (hwl σ)).1, rfl, _, rfl⟩
  have hst : s₁.heap.IsListIter I wl 0 ∧ s₁.heap.IsList wl vs.toArray := by
    obtain ⟨h, tk, oC, rfl, F, hns, N, _⟩ := h0
    exact ⟨hst0, gl _ σ₀ fun p hp => N p (List.mem_cons_of_mem _ (List.mem_cons_of_mem _ hp))⟩
  have hsz : vs.toArray.size = vs.length := by simp
  rw [hsz] at W
  have W' : Walks prog w A I [I, wl] [I] vs.length (fun i v => vs[i]? = some v) (fun i h => h.IsListIter I wl i ∧ h.IsList wl vs.toArray) :=
    { sub := W.sub, frame := W.frame, done := W.done, self := W.self, item := fun i s Q E hi st hQ => W.item i s Q E hi st fun v h' tk hP => hQ v h' tk (by simpa using hP) }
  have loop : codeAny (model prog w) A (.compLoop e d (.ref I) (.ref D) (compEnvC scope cl C env)) R s₁ :=
    comp_level mk oDf led J σ₀ ht hin hmono q1 q2 q3 W' (fun i h st => by obtain ⟨o, e, _⟩ := st.1; exact ⟨o, e⟩) (fun i h h' o σ st e e' _ N => ⟨by obtain ⟨o', q, r⟩ := st.1; rw [e] at q; cases q; exact ⟨o, e', r⟩, gl _ σ N⟩)
      hx hkind hIL hIg hIC hID h0 hst hJ0 hoff (fun i σ v oI oC h tk a1 a2 a3 a4 a5 a6 a7 a8 a9 => turn i σ v oI oC h tk a1 a2 a3 a4 a5 a6 a7 a8 a9 hIC hID) fin
  exact my_compStart hg rfl q1 (fun it' => (hp A d it' (.ref D) (compEnvC scope cl C env)).1) q4 q5 loop (W.self 0 _ _ _ hst loop)

theorem rangeSize_of {a b : Int} {n : Nat} (hb : b = a + n) : Builtin.Range.rangeSize a b 1 = (n : Int) := by
  subst hb
  unfold Builtin.Range.rangeSize
  by_cases hn : n = 0
  · subst hn; simp
  · have : a < a + (n : Int) := by omega
    simp [this]
    omega

/-- an inner clause over a range -/
theorem mid_range {e iter : Expr} {ifs : List Expr} {x : Str} {px : Pos} {d n : Nat} {a b : Int} {t u v : Tok} {r : Addr} {inner : Sem Fin → Sem Fin} {IW : (Shared → Prop) → Shared → Prop}
    (mk : α → Str → Option Value) (oDf : α → Obj) (led : α → List (Addr × Obj)) (J : Nat → α → Prop) (σ₀ : α)
    (hp : Plain e) (hg : (clausesOf e)[d]? = some ⟨.Name x px, iter, ifs, 0⟩) (ht : ∀ I, TurnIs e d (.Name x px) iter (.ref I) (.ref D) (compEnvC scope cl C env) inner) (hin : Inner (model prog w) A inner IW) (hmono : InnerMono IW) (hh : A.handled = none)
    (hx : scope.names.lookup x = some .local) (hkind : scope.kind = .function) (hR : IsRange s₁.heap r a b 1 t u v) (hb : b = a + n) (hsm : Builtin.Range.small a b 1 = true)
    (h0 : CSt g L m s C D (oDf σ₀) (mk σ₀) (led σ₀) s₁) (hJ0 : J 0 σ₀)
    (turn : ∀ I, LevelTurn IW g L m s C D I x n (fun i v => ∃ t, v = .int (a + (i : Int)) t) mk oDf led J)
    (fin : ∀ σ s', J n σ → CSt g L m s C D (oDf σ) (mk σ) (led σ) s' → R (.ok .next) s') :
    wpAny (model prog w) A (pyIter (.ref r)) (fun it' s₂ => codeAny (model prog w) A (.compStart e d it' (.ref D) (compEnvC scope cl C env)) R s₂) NoE s₁ := by
  refine wpAny_pyIter_range hR hsm ?_
  rw [rangeSize_of hb]
  obtain ⟨h, tk, oC, rfl, F, hns, N, hCD, offs⟩ := h0
  have hL : @LT.lt Nat _ L h.objs.size := F.ns.lt
  have hsz : ∀ p ∈ (C, oC) :: (D, oDf σ₀) :: led σ₀, @LT.lt Nat _ p.1 h.objs.size := fun p hp => Heap.lt_size (N p hp).1
  refine range_level (I := h.objs.size) mk oDf led J σ₀ hp hg (ht _) hin hmono hh hx hkind (neN (by omega)) (Heap.get?_none_of_le (Nat.le_trans F.above (Nat.le_of_lt hL))) (Ne.symm (neN (hsz (C, oC) (by simp)|> Nat.ne_of_lt))) (Ne.symm (neN (hsz (D, oDf σ₀) (by simp) |> Nat.ne_of_lt)))
    ⟨_, tk, oC, rfl, F.push _, hns, fun p hp => ⟨Heap.get?_push_of_some _ (N p hp).1, (N p hp).2⟩, hCD, offs⟩ (Heap.get?_push_size _ rfl) hJ0 (fun p hp => neN (Nat.ne_of_lt (hsz p (List.mem_cons_of_mem _ (List.mem_cons_of_mem _ hp))))) (turn _) fun σ s' hJ hc _ => fin σ s' hJ hc

/-- the first clause over a range -/
theorem from_range {e iter : Expr} {ifs : List Expr} {x : Str} {px : Pos} {n : Nat} {a b : Int} {t u v : Tok} {r : Addr} {inner : Addr → Addr → Sem Fin → Sem Fin} {IW : Addr → Addr → (Shared → Prop) → Shared → Prop} {o0 : Bool → Obj} {Q : Value → Shared → Prop} {h : Heap} {tk : Nat} {led₀ : List (Addr × Obj)}
    (mk : α → Str → Option Value) (oDf : α → Obj) (led : α → List (Addr × Obj)) (J : Nat → α → Prop) (σ₀ : Bool → α)
    (hp : Plain e) (hg : (clausesOf e)[0]? = some ⟨.Name x px, iter, ifs, 0⟩) (ht : ∀ I C D, TurnIs e 0 (.Name x px) iter (.ref I) (.ref D) (compEnvC scope cl C env) (inner C D)) (hin : ∀ C D, Inner (model prog w) A (inner C D) (IW C D)) (hmono : ∀ C D, InnerMono (IW C D)) (hh : A.handled = none)
    (hx : scope.names.lookup x = some .local) (hkind : scope.kind = .function) (hR : IsRange h r a b 1 t u v) (hb : b = a + n) (hsm : Builtin.Range.small a b 1 = true)
    (F : Fr g L h m) (N : News g L h led₀) (h1 : ∀ lb, oDf (σ₀ lb) = o0 lb) (h2 : ∀ lb, mk (σ₀ lb) = fun _ => none) (h3 : ∀ lb, led (σ₀ lb) = led₀) (hJ0 : ∀ lb, J 0 (σ₀ lb))
    (turn : ∀ I C D, LevelTurn (IW C D) g L m s C D I x n (fun i v => ∃ t, v = .int (a + (i : Int)) t) mk oDf led J)
    (fin : ∀ (D : Addr) (σ : α), (∀ p ∈ led₀, @LT.lt Nat _ p.1 D) → J n σ → ∀ h tk, Fr g L h m → News g L h ((D, oDf σ) :: led σ) → Q (.ref D) { s with heap := h, toks := tk }) :
    wpAny (model prog w) A (pyIter (.ref r)) (CompFrom prog w A g L m s env scope cl e o0 Q) NoE { s with heap := h, toks := tk } := by
  refine wpAny_pyIter_range hR hsm ?_
  rw [rangeSize_of hb]
  have hL : @LT.lt Nat _ L h.objs.size := F.ns.lt
  refine ⟨h.objs.size, _, tk, led₀, rfl, rfl, F.push _, fun p hp => ⟨Heap.get?_push_of_some _ (N p hp).1, (N p hp).2⟩, by show h.objs.size < _; rw [Heap.size_push]; exact Nat.lt_succ_self _, ?_⟩
  intro lb C D h' tk' oC F' hns N' hCD offs hIC hID hltD old
  refine range_level mk oDf led J (σ₀ lb) hp hg (ht _ C D) (hin C D) (hmono C D) hh hx hkind (neN (by omega)) (Heap.get?_none_of_le (Nat.le_trans F.above (Nat.le_of_lt hL))) hIC hID
    ⟨h', tk', oC, rfl, F', (h2 lb).symm ▸ hns, by rw [h1, h3]; exact N', hCD, by rw [h3]; exact offs⟩ (old _ _ (Heap.get?_push_size _ rfl)) (hJ0 lb) (by rw [h3]; exact fun p hp => neN (Nat.ne_of_lt (Heap.lt_size (N p hp).1))) (turn _ C D) ?_
  intro σ s' hJ hc _
  exact ⟨rfl, _, _, _, hc, fin D σ hltD hJ⟩

/-- the first clause over a list in the ledger -/
theorem from_list {e iter : Expr} {ifs : List Expr} {x : Str} {px : Pos} {wl : Addr} {vs : List Value} {kw : Nat} {inner : Addr → Addr → Sem Fin → Sem Fin} {IW : Addr → Addr → (Shared → Prop) → Shared → Prop} {o0 : Bool → Obj} {Q : Value → Shared → Prop} {h : Heap} {tk : Nat} {led₀ : List (Addr × Obj)}
    (mk : α → Str → Option Value) (oDf : α → Obj) (led : α → List (Addr × Obj)) (J : Nat → α → Prop) (σ₀ : Bool → α)
    (hp : Plain e) (hg : (clausesOf e)[0]? = some ⟨.Name x px, iter, ifs, 0⟩) (ht : ∀ I C D, TurnIs e 0 (.Name x px) iter (.ref I) (.ref D) (compEnvC scope cl C env) (inner C D)) (hin : ∀ C D, Inner (model prog w) A (inner C D) (IW C D)) (hmono : ∀ C D, InnerMono (IW C D)) (hh : A.handled = none)
    (hx : scope.names.lookup x = some .local) (hkind : scope.kind = .function) (hwl : ∀ σ, (wl, ({ cls := .type "list", data := .seq vs.toArray kw } : Obj)) ∈ led σ)
    (F : Fr g L h m) (N : News g L h led₀) (h1 : ∀ lb, oDf (σ₀ lb) = o0 lb) (h2 : ∀ lb, mk (σ₀ lb) = fun _ => none) (h3 : ∀ lb, led (σ₀ lb) = led₀) (hJ0 : ∀ lb, J 0 (σ₀ lb))
    (turn : ∀ I C D, LevelTurn (IW C D) g L m s C D I x vs.length (fun i v => vs[i]? = some v) mk oDf led J)
    (fin : ∀ (D : Addr) (σ : α), (∀ p ∈ led₀, @LT.lt Nat _ p.1 D) → J vs.length σ → ∀ h tk, Fr g L h m → News g L h ((D, oDf σ) :: led σ) → Q (.ref D) { s with heap := h, toks := tk }) :
    wpAny (model prog w) A (pyIter (.ref wl)) (CompFrom prog w A g L m s env scope cl e o0 Q) NoE { s with heap := h, toks := tk } := by
  have hwl0 : (wl, ({ cls := .type "list", data := .seq vs.toArray kw } : Obj)) ∈ led₀ := h3 true ▸ hwl (σ₀ true)
  refine wpAny_pyIter_list (l := wl) (items := vs.toArray) ⟨_, (N _ hwl0).1, rfl, _, rfl⟩ ?_
  have hL : @LT.lt Nat _ L h.objs.size := F.ns.lt
  refine ⟨h.objs.size, _, tk, led₀, rfl, rfl, F.push _, fun p hp => ⟨Heap.get?_push_of_some _ (N p hp).1, (N p hp).2⟩, by show h.objs.size < _; rw [Heap.size_push]; exact Nat.lt_succ_self _, ?_⟩
  intro lb C D h' tk' oC F' hns N' hCD offs hIC hID hltD old
  refine list_level mk oDf led J (σ₀ lb) hp hg (ht _ C D) (hin C D) (hmono C D) hh hx hkind (neN (by omega)) (Heap.get?_none_of_le (Nat.le_trans F.above (Nat.le_of_lt hL))) hIC hID hwl
    ⟨h', tk', oC, rfl, F', (h2 lb).symm ▸ hns, by rw [h1, h3]; exact N', hCD, by rw [h3]; exact offs⟩ ⟨_, old _ _ (Heap.get?_push_size _ rfl), rfl, rfl⟩ (hJ0 lb) (by rw [h3]; exact fun p hp => neN (Nat.ne_of_lt (Heap.lt_size (N p hp).1))) (turn _ C D) ?_
  intro σ s' hJ hc _
  exact ⟨rfl, _, _, _, hc, fin D σ hltD hJ⟩

theorem append_cst {h : Heap} {tk : Nat} {oC : Obj} {mC : Str → Option Value} {ys : List Value} {y : Value} {led all : List (Addr × Obj)} {P : Shared → Prop} (F : Fr g L h m) (N : News g L h all) (hns : NsObj oC mC) (hsub : ∀ p ∈ (C, oC) :: (D, lst ys) :: led, p ∈ all) (hCD : C ≠ D) (offs : ∀ p ∈ led, p.1 ≠ C ∧ p.1 ≠ D)
    (hsz : ys.length ≤ sizeLine) (h' : ∀ s', CSt g L m s C D (lst (ys ++ [y])) mC led s' → P s') : wpAny (model prog w) A (call (.builtin "list.append") [.ref D, y]) (fun _ s₂ => P s₂) NoE { s with heap := h, toks := tk } := by
  have ND := N _ (hsub (D, lst ys) (by simp))
  refine append_at (hsz := by show ys.toArray.size ≤ sizeLine; rw [List.size_toArray]; exact hsz) ND.1 fun h₅ hs₅ hD₅ => ?_
  refine h' _ ⟨h₅, tk, oC, rfl, F.change hs₅ ND.2.1 ND.2.2, hns, fun p hp => ?_, hCD, offs⟩
  simp only [List.mem_cons] at hp
  rcases hp with rfl | rfl | hp
  · have q := N _ (hsub (C, oC) (by simp)); exact ⟨hs₅.extBut _ _ hCD q.1, q.2⟩
  · exact ⟨hD₅.trans (congrArg some (lst_snoc ys y)), ND.2⟩
  · have q := N p (hsub p (by simp [hp])); exact ⟨hs₅.extBut _ _ (offs p hp).2 q.1, q.2⟩
end
end Mine
end
section
open PySem PySem.W PyProof.Rows PySem.Calls
set_option maxRecDepth 100000
set_option maxHeartbeats 4000000
namespace Mine
open PyProof.Rows.LCg

theorem my_len {prog : Program} {w : World} {A : Around} {E : Value → Shared → Prop} {s : Shared} {h₀ : Heap} {L l : Addr} {news : List (Addr × Obj)} {vs : List Value} {k : Nat} {Q : Value → Shared → Prop} (N : News h₀ L s.heap news) (hm : (l, ({ cls := .type "list", data := .seq vs.toArray k } : Obj)) ∈ news) (hfit : vs.length ≤ 1000)
    (h : Q (.int vs.length (s.toks + 1)) { s with toks := s.toks + 1 + 1 }) : wpAny (model prog w) A (call (.builtin "len") [.ref l]) Q E s :=
  len_list (items := vs.toArray) ⟨_, (N _ hm).1, rfl, _, rfl⟩ (by rw [List.size_toArray]; omega) (by rw [List.size_toArray]; exact h)
theorem my_item {prog : Program} {w : World} {A : Around} {E : Value → Shared → Prop} {s : Shared} {h₀ : Heap} {L l : Addr} {news : List (Addr × Obj)} {vs : List Value} {k : Nat} {Q : Value → Shared → Prop} {value slice : Expr} {i : Int} {u : Tok} {x : Value} (N : News h₀ L s.heap news) (hm : (l, ({ cls := .type "list", data := .seq vs.toArray k } : Obj)) ∈ news) (hx : vs.toArray[i.toNat]? = some x) (h0 : 0 ≤ i) (hi : i < 2 ^ 63) (h : Q x s)
    (hs : subscripted slice false (.ref l) (.int i u) = operate [.ref l, .int i u] (getItem (.ref l) (.int i u)) := by with_unfolding_all rfl) (hg : ∀ r, letTemporaryGo value (.ref l) r = pure () := by intro _; with_unfolding_all rfl) :
    wpAny (model prog w) A (subscriptTail value slice (.ref l) (.int i u)) Q E s :=
  item_list (items := vs.toArray) ⟨_, (N _ hm).1, rfl, _, rfl⟩ h0 hi hx h hs hg
theorem ns_same {o : Obj} {m m' : Str → Option Value} (h : NsObj o m) (e : ∀ z, m z = m' z) : NsObj o m' := by
  have : m = m' := funext e
  exact this ▸ h

def SetIs (prog : Program) (w : World) (o : Obj) (ps : List Str) : Prop := o.SetObjOf (strKind prog w) (fun k => (dedup ps).any (· == k)) (dedup ps).length
theorem setIs_nil {prog : Program} {w : World} (lb : Bool) : SetIs prog w (set0 lb) [] := PyProof.Rows.setObjOf_fresh (knd := strKind prog w) lb
section
variable {prog : Program} {w : World} {A : Around} {s : Shared} {g : Heap} {L C D : Addr} {m : Str → Option Value}
theorem add_cst {h : Heap} {tk : Nat} {oC oD : Obj} {mC : Str → Option Value} {ps : List Str} {x : Str} {t : Tok} {led all : List (Addr × Obj)} {P : Shared → Prop} (F : Fr g L h m) (N : News g L h all) (hns : NsObj oC mC) (hsub : ∀ p ∈ (C, oC) :: (D, oD) :: led, p ∈ all) (hCD : C ≠ D) (offs : ∀ p ∈ led, p.1 ≠ C ∧ p.1 ≠ D)
    (hso : SetIs prog w oD ps) (hroom : ps.length + 1 < scanBound) (h' : ∀ oD' s', SetIs prog w oD' (ps ++ [x]) → CSt g L m s C D oD' mC led s' → P s') : wpAny (model prog w) A (call (.builtin "set.add") [.ref D, .str x t]) (fun _ s₂ => P s₂) NoE { s with heap := h, toks := tk } := by
  have ND := N _ (hsub (D, oD) (by simp))
  have hle : (dedup ps).length ≤ ps.length := by have := foldl_dstep_le ps []; simpa [dedup] using this
  refine call_set_add (knd := strKind prog w) (k := x) (strKind_is' x t) rfl (hso.setOf ND.1 (by omega)) (by omega) fun h₅ hs₅ hS => ?_
  have hd : dedup (ps ++ [x]) = dstep (dedup ps) x := by unfold dedup; rw [List.foldl_append]; rfl
  have hS2 : h₅.SetOf (strKind prog w) D (fun k => (dedup (ps ++ [x])).any (· == k)) (dedup (ps ++ [x])).length :=
    setOf_cong hS (fun k' => by rw [hd, dstep_any]) (by rw [hd, dstep_length])
  obtain ⟨o5, ho5, hso5⟩ := hS2.objOf
  refine h' o5 _ hso5 ⟨h₅, tk + 1, oC, rfl, F.change hs₅ ND.2.1 ND.2.2, hns, fun p hp => ?_, hCD, offs⟩
  simp only [List.mem_cons] at hp
  rcases hp with rfl | rfl | hp
  · have q := N _ (hsub (C, oC) (by simp)); exact ⟨hs₅.extBut _ _ hCD q.1, q.2⟩
  · exact ⟨ho5, ND.2⟩
  · have q := N p (hsub p (by simp [hp])); exact ⟨hs₅.extBut _ _ (offs p hp).2 q.1, q.2⟩
end

def piecesOne (x : Str) (f j : Nat) : List Str := (List.range j).map fun d => ⟨((x.cps.toList.drop f).take (d + 1)).toArray⟩
def piecesWord (x : Str) (i : Nat) : List Str := (List.range i).flatMap fun f => piecesOne x f (x.length - f)
def piecesUpTo (xs : List Str) (i : Nat) : List Str := (List.range i).flatMap fun k => piecesWord (xs.getD k ⟨#[]⟩) (xs.getD k ⟨#[]⟩).length

theorem piecesWord_succ (x : Str) (i : Nat) : piecesWord x (i + 1) = piecesWord x i ++ piecesOne x i (x.length - i) := by simp [piecesWord, List.range_succ]
theorem piecesUpTo_succ {xs : List Str} {i : Nat} {x : Str} (h : xs[i]? = some x) : piecesUpTo xs (i + 1) = piecesUpTo xs i ++ piecesWord x x.length := by
  simp [piecesUpTo, List.range_succ, h]
theorem piecesOne_succ (x : Str) (f j : Nat) : piecesOne x f (j + 1) = piecesOne x f j ++ [⟨((x.cps.toList.drop f).take (j + 1)).toArray⟩] := by simp [piecesOne, List.range_succ]
theorem piecesOne_len (x : Str) (f j : Nat) : (piecesOne x f j).length = j := by simp [piecesOne]
theorem piecesWord_len {x : Str} (hx : x.length ≤ 7) : ∀ i, (piecesWord x i).length ≤ 7 * i
  | 0 => by simp [piecesWord]
  | i + 1 => by
    rw [piecesWord_succ, List.length_append, piecesOne_len]
    have := piecesWord_len hx i
    omega
theorem piecesUpTo_len {xs : List Str} (hx7 : ∀ x ∈ xs, 1 ≤ x.length ∧ x.length ≤ 7) : ∀ i, i ≤ xs.length → (piecesUpTo xs i).length ≤ 49 * i
  | 0, _ => by simp [piecesUpTo]
  | i + 1, h => by
    have hi : i < xs.length := by omega
    rw [piecesUpTo_succ (List.getElem?_eq_getElem hi), List.length_append]
    have h1 := piecesUpTo_len hx7 i (by omega)
    have hx := (hx7 xs[i] (List.getElem_mem hi)).2
    have h2 := piecesWord_len hx xs[i].length
    omega

theorem turn_list1 (elt t1 i1 : Expr) (scope : Scope) (pos : Pos) (it acc : Value) (env : Env) :
    TurnIs (.ListComp elt [⟨t1, i1, [], 0⟩] scope pos) 0 t1 i1 it acc env (LastL elt acc env) := by rfl

structure LS where
  u : Option Value
  ys : List Value
def LS.mk0 (n : Str) (σ : LS) (z : Str) : Option Value := if z = n then σ.u else none
def mkL (n : Str) (k : Value) (z : Str) : Option Value := if z = n then some k else none
theorem mkL_ns {o : Obj} {n : Str} {v : Value} {σ : LS} (h : NsObj o (fun z => if z = n then some v else LS.mk0 n σ z)) : NsObj o (mkL n v) := ns_same h fun z => by
  unfold LS.mk0 mkL
  by_cases e : z = n <;> simp [e]
theorem mkL_mk0 (n : Str) (v : Value) (ys : List Value) : mkL n v = LS.mk0 n ⟨some v, ys⟩ := rfl

def WordsAre (ys : List Value) (n : Nat) : Prop := ∃ xs : List Str, StrsAre ys xs ∧ (∀ x ∈ xs, 1 ≤ x.length ∧ x.length ≤ 7) ∧ xs.length = n
theorem WordsAre.snoc {ys : List Value} {n : Nat} {x : Str} {t : Tok} (h : WordsAre ys n) (h1 : 1 ≤ x.length) (h7 : x.length ≤ 7) : WordsAre (ys ++ [.str x t]) (n + 1) := by
  obtain ⟨xs, h2, h3, h4⟩ := h
  refine ⟨xs ++ [x], h2.snoc, fun z hz => ?_, by simp [h4]⟩
  rcases List.mem_append.mp hz with hz | hz
  · exact h3 z hz
  · rw [List.mem_singleton.mp hz]; exact ⟨h1, h7⟩
theorem WordsAre.two {ys : List Value} (h : WordsAre ys 2) : ∃ x y tx ty, ys = [.str x tx, .str y ty] ∧ 1 ≤ x.length ∧ x.length ≤ 7 ∧ 1 ≤ y.length ∧ y.length ≤ 7 := by
  obtain ⟨xs, h2, h3, h4⟩ := h
  have hl := h2.length
  match xs, h4 with
  | [x, y], _ =>
    match ys, hl with
    | [a, b], _ =>
      obtain ⟨⟨t, e1⟩, ⟨u, e2⟩, _⟩ := h2
      have a1 := h3 x (by simp)
      have a2 := h3 y (by simp)
      exact ⟨x, y, t, u, by rw [e1, e2], a1.1, a1.2, a2.1, a2.2⟩
end Mine
end
section
open PySem PySem.W PyProof.Rows PySem.Calls
set_option maxRecDepth 100000
set_option maxHeartbeats 4000000
namespace Mine
section
variable {prog : Program} {w : World} {A : Around} {s : Shared} {env : Env}
/-- a list comprehension's turn with one test -/
def LastIf (c elt : Expr) (acc : Value) (env : Env) (k : Sem Fin) : Sem Fin :=
  (forIn [c] true fun c r => if r = true then do let ok ← isTrue c env (eval c env); pure (ForInStep.yield ok) else pure (ForInStep.yield r)) >>= fun ok =>
    if ok = true then (eval elt env >>= fun x => call (.builtin "list.append") [acc, x] >>= fun _ => pure ()) >>= fun (_ : Unit) => k else k
theorem turn_listIf (elt t1 i1 c : Expr) (scope : Scope) (pos : Pos) (it acc : Value) (env : Env) :
    TurnIs (.ListComp elt [⟨t1, i1, [c], 0⟩] scope pos) 0 t1 i1 it acc env (LastIf c elt acc env) := by rfl
theorem inner_listIf {c elt : Expr} {acc : Value} : Inner (model prog w) A (LastIf c elt acc env) (fun P s => wpAny (model prog w) A (isTrue c env (eval c env)) (fun b s₀ => if b = true then wpAny (model prog w) A (eval elt env) (fun x s₁ => wpAny (model prog w) A (call (.builtin "list.append") [acc, x]) (fun _ s₂ => P s₂) NoE s₁) NoE s₀ else P s₀) NoE s) := by
  intro k Q E P s h hk
  unfold LastIf
  refine wpAny_bind (wpAny_tests_one (wpAny_mono h (fun b s₀ h₀ => ?_) fun _ _ e => e.elim))
  cases b with
  | false =>
    simp only [Bool.false_eq_true, if_false] at h₀ ⊢
    exact hk s₀ h₀
  | true =>
    simp only [if_true] at h₀ ⊢
    exact wpAny_bind (wpAny_bind (wpAny_mono h₀ (fun x s₁ h₁ => wpAny_bind (wpAny_mono h₁ (fun _ s₂ h₂ => wpAny_pure (hk s₂ h₂)) fun _ _ e => e.elim)) fun _ _ e => e.elim))
theorem mono_listIf {c elt : Expr} {f : Value → Sem Value} : InnerMono (fun P s => wpAny (model prog w) A (isTrue c env (eval c env)) (fun b s₀ => if b = true then wpAny (model prog w) A (eval elt env) (fun x s₁ => wpAny (model prog w) A (f x) (fun _ s₂ => P s₂) NoE s₁) NoE s₀ else P s₀) NoE s) := by
  intro P P' s h q
  refine wpAny_mono q (fun b s₀ q => ?_) fun _ _ e => e
  cases b with
  | false => exact h _ q
  | true => exact wpAny_mono q (fun _ _ q => wpAny_mono q (fun _ s' q => h s' q) fun _ _ e => e) fun _ _ e => e
end
end Mine
end
section
open PySem PySem.W PyProof.Rows PySem.Calls
set_option maxRecDepth 100000
set_option maxHeartbeats 4000000
namespace Mine

section
variable {prog : Program} {w : World} {A : Around} {E : Value → Shared → Prop} {s s₀ : Shared} {env : Env} {g : Heap} {Q : Flow → Shared → Prop} {α : Type}

/-- the end of a turn, with a ledger of the state -/
def TurnEndL (g : Heap) (L : Addr) (s : Shared) (I : Addr) (oI : Obj) (mk : α → Str → Option Value) (led : α → List (Addr × Obj)) (J : α → Prop) (s₄ : Shared) : Prop :=
  ∃ h' tk' σ, s₄ = { s with heap := h', toks := tk' } ∧ Fr g L h' (mk σ) ∧ News g L h' ((I, oI) :: led σ) ∧ (∀ p ∈ led σ, p.1 ≠ I) ∧ J σ

theorem for_tuple_at {v : Str} {px : Pos} {body : List Stmt} {vs : List Value} {T : Addr} {h' : Heap} {tk : Nat} (mk : α → Str → Option Value) (led : α → List (Addr × Obj)) (J : Nat → α → Prop) (σ₀ : α)
    (hh : A.handled = none) (hv : env.kindOf v = some .local) (hp : (env.scope.kind == .class || (env.scope.kind == .module && env.locals != env.globals)) = false)
    (F₀ : Fr g env.locals h' (mk σ₀)) (N₀ : News g env.locals h' ((T, ({ cls := .type "tuple", data := .seq vs.toArray } : Obj)) :: led σ₀))
    (h0 : J 0 σ₀)
    (turn : ∀ i σ v' I oI h tk, vs[i]? = some v' → J i σ → Fr g env.locals h (fun z => if z = v then some v' else mk σ z) → News g env.locals h ((I, oI) :: (T, ({ cls := .type "tuple", data := .seq vs.toArray } : Obj)) :: led σ) → (∀ p ∈ led σ, p.1 ≠ I) → T ≠ I →
      wpAny (model prog w) A (execs body env) (fun f s₄ => match f with
        | .next | .cont => TurnEndL g env.locals s I oI mk (fun σ => (T, ({ cls := .type "tuple", data := .seq vs.toArray } : Obj)) :: led σ) (J (i + 1)) s₄
        | .brk => False
        | .ret w => Q (.ret w) s₄) NoE { s with heap := h, toks := tk })
    (fin : ∀ σ h tk, J vs.length σ → Fr g env.locals h (mk σ) → News g env.locals h (led σ) → Q .next { s with heap := h, toks := tk }) :
    ForAt prog w A env (.Name v px) body Q (.ref T) { s with heap := h', toks := tk } := by
  unfold ForAt
  have NT := N₀ (T, ({ cls := .type "tuple", data := .seq vs.toArray } : Obj)) (by simp)
  refine wpAny_pyIter_tuple (items := vs.toArray) ⟨_, NT.1, rfl, _, rfl⟩ ?_
  have hL : env.locals ≠ h'.objs.size := neN (Nat.ne_of_lt F₀.ns.lt)
  have hgI : g.get? h'.objs.size = none := Heap.get?_none_of_le (Nat.le_trans F₀.above (Nat.le_of_lt F₀.ns.lt))
  have hTI : T ≠ h'.objs.size := neN (Nat.ne_of_lt (Heap.lt_size NT.1))
  have W := Walks.tuple (prog := prog) (w := w) (A := A) hh h'.objs.size T hTI vs.toArray
  have hoff : ∀ p ∈ led σ₀, p.1 ≠ h'.objs.size := fun p hp => neN (Nat.ne_of_lt (Heap.lt_size (N₀ p (List.mem_cons_of_mem _ hp)).1))
  have hsz : vs.toArray.size = vs.length := by simp
  refine ⟨vs.length, fun i s₁ => ∃ h tk σ, s₁ = { s with heap := h, toks := tk } ∧ h.IsTupleIter h'.objs.size T i ∧ Fr g env.locals h (mk σ) ∧ News g env.locals h ((T, ({ cls := .type "tuple", data := .seq vs.toArray } : Obj)) :: led σ) ∧ (∀ p ∈ led σ, p.1 ≠ h'.objs.size) ∧ J i σ, ?_, ?_⟩
  · exact ⟨_, tk, σ₀, rfl, ⟨_, Heap.get?_push_size _ rfl, rfl, rfl⟩, F₀.push _, fun p hp => ⟨Heap.get?_push_of_some _ (N₀ p hp).1, (N₀ p hp).2⟩, hoff, h0⟩
  · rintro i s₁ hi ⟨h, tk1, σ, rfl, hit, F, N, off, hJ⟩
    have hT : h.IsTuple T vs.toArray := ⟨_, (N _ List.mem_cons_self).1, rfl, _, rfl⟩
    have offT : ∀ p ∈ (T, ({ cls := .type "tuple", data := .seq vs.toArray } : Obj)) :: led σ, p.1 ≠ h'.objs.size := fun p hp => by
      rcases List.mem_cons.mp hp with rfl | hp
      · exact hTI
      · exact off p hp
    by_cases hlt : i < vs.length
    · refine W.item i _ _ _ (by rw [hsz]; exact hlt) ⟨hit, hT⟩ fun v' h₂ tk₂ hP hst₂ hk₂ => ⟨hlt, ?_⟩
      have F₂ := LCg.fr_but F hk₂ hL hgI
      have N₂ := LCg.news_but N hk₂ offT
      refine wpAny_assign_Name (wpAny_storeName_local hv F₂.ns (fun h₃ hn₃ hs₃ => ?_) hp)
      have F₃ := F₂.set hn₃ hs₃
      have N₃ := N₂.set hs₃
      obtain ⟨oI, heI, hcI⟩ := hst₂.1
      have heI3 := hs₃.extBut _ _ (Ne.symm hL) heI
      have N₄ : News g env.locals h₃ ((h'.objs.size, oI) :: (T, ({ cls := .type "tuple", data := .seq vs.toArray } : Obj)) :: led σ) := fun p hp => by
        rcases List.mem_cons.mp hp with rfl | hp
        · exact ⟨heI3, Ne.symm hL, hgI⟩
        · exact N₃ p hp
      refine wpAny_mono (turn i σ v' h'.objs.size oI h₃ _ (by simpa using hP) hJ F₃ N₄ off hTI) (fun f s₄ hf => ?_) fun _ _ e => e
      have next : TurnEndL g env.locals s h'.objs.size oI mk (fun σ => (T, ({ cls := .type "tuple", data := .seq vs.toArray } : Obj)) :: led σ) (J (i + 1)) s₄ →
          ∃ h tk σ, s₄ = { s with heap := h, toks := tk } ∧ h.IsTupleIter h'.objs.size T (i + 1) ∧ Fr g env.locals h (mk σ) ∧ News g env.locals h ((T, ({ cls := .type "tuple", data := .seq vs.toArray } : Obj)) :: led σ) ∧ (∀ p ∈ led σ, p.1 ≠ h'.objs.size) ∧ J (i + 1) σ := by
        rintro ⟨h5, tk5, σ5, rfl, F5, N5, off5, J5⟩
        have hi5 := (N5 _ List.mem_cons_self).1
        exact ⟨h5, tk5, σ5, rfl, ⟨oI, hi5, hcI⟩, F5, fun p hp => N5 p (List.mem_cons_of_mem _ hp), fun p hp => off5 p (List.mem_cons_of_mem _ hp), J5⟩
      cases f with
      | next => exact next hf
      | cont => exact next hf
      | brk => exact hf.elim
      | ret w => exact hf
    · have : i = vs.length := by omega
      subst this
      rw [← hsz] at hit
      refine W.done _ _ _ ⟨hit, hT⟩ fun h₂ tk₂ hk₂ => fin σ h₂ tk₂ hJ (LCg.fr_but F hk₂ hL hgI) ?_
      exact fun p hp => LCg.news_but N hk₂ offT p (List.mem_cons_of_mem _ hp)
end
end Mine
end
section
open PySem PySem.W PyProof.Rows PySem.Calls
set_option maxRecDepth 100000
set_option maxHeartbeats 4000000
namespace Mine

/-- the tree's asks are answered by lt, all below n, and then Q -/
def KOk {α : Type} (lt : Nat → Nat → Bool) (n : Nat) : KasT α → (α → Prop) → Prop
  | .ret a, Q => Q a
  | .ask i j k, Q => i < n ∧ j < n ∧ KOk lt n (k (lt i j)) Q

theorem kok_bind {α β : Type} {lt : Nat → Nat → Bool} {n : Nat} {f : α → KasT β} {Q : β → Prop} : ∀ {t : KasT α} {P : α → Prop}, KOk lt n t P → (∀ a, P a → KOk lt n (f a) Q) → KOk lt n (t.bind f) Q
  | .ret _, _, h, hf => hf _ h
  | .ask _ _ _, _, h, hf => ⟨h.1, h.2.1, kok_bind h.2.2 hf⟩
theorem kok_mono {α : Type} {lt : Nat → Nat → Bool} {n : Nat} {P Q : α → Prop} (hq : ∀ a, P a → Q a) : ∀ {t : KasT α}, KOk lt n t P → KOk lt n t Q
  | .ret _, h => hq _ h
  | .ask _ _ _, h => ⟨h.1, h.2.1, kok_mono hq h.2.2⟩

theorem kok_wp {α : Type} {lt : Nat → Nat → Bool} {n : Nat} {cmp : Nat → Nat → (Bool → Shared → Prop) → Shared → Prop} {Inv : Shared → Prop} {Q : α → Shared → Prop} {P : α → Prop}
    (hc : ∀ i j C s, i < n → j < n → Inv s → (∀ s', Inv s' → C (lt i j) s') → cmp i j C s) (hQ : ∀ a s, P a → Inv s → Q a s) : ∀ {t : KasT α} {s : Shared}, KOk lt n t P → Inv s → t.kasWp cmp Q s
  | .ret a, s, h, hi => hQ a s h hi
  | .ask i j k, s, h, hi => hc i j _ s h.1 h.2.1 hi fun s' hi' => kok_wp hc hQ h.2.2 hi'

structure LtOrd (lt : Nat → Nat → Bool) (n : Nat) : Prop where
  irr : ∀ i, lt i i = false
  trans : ∀ i j k, lt i j = true → lt j k = true → lt i k = true
  conn : ∀ i j, i < n → j < n → i ≠ j → lt i j = true ∨ lt j i = true

section
variable {lt : Nat → Nat → Bool} {n : Nat}
def Perm0 (n : Nat) (p : Array Nat) : Prop := p.Perm (List.toArray (List.range n))
theorem Perm0.size {p : Array Nat} (h : Perm0 n p) : p.size = n := by have := h.size_eq; simpa using this
theorem Perm0.below {p : Array Nat} (h : Perm0 n p) {i : Nat} (hi : i < n) : p.getD i 0 < n := by
  have hs := h.size
  have hi' : i < p.size := by omega
  have e : p.getD i 0 = p[i] := by simp [Array.getD, hi']
  rw [e]
  have hm : p[i] ∈ p.toList := by simp
  have hp : p.toList.Perm (List.range n) := by simpa using h.toList
  have := (hp.mem_iff).mp hm
  simpa using this
theorem Perm0.inj {p : Array Nat} (h : Perm0 n p) {i j : Nat} (hi : i < n) (hj : j < n) (e : p.getD i 0 = p.getD j 0) : i = j := by
  have hs := h.size
  have hp : p.toList.Perm (List.range n) := by simpa using h.toList
  have hn : p.toList.Nodup := hp.nodup_iff.mpr List.nodup_range
  have hi' : i < p.toList.length := by simp; omega
  have hj' : j < p.toList.length := by simp; omega
  have hi2 : i < p.size := by omega
  have hj2 : j < p.size := by omega
  have e' : p.toList[i] = p.toList[j] := by
    simp only [Array.getD, hi2, hj2, dif_pos] at e
    simpa using e
  exact (List.getElem_inj hn).mp e'
theorem Perm0.of {p q : Array Nat} (h : Perm0 n p) (hq : q.Perm p) : Perm0 n q := hq.trans h

def Asc (lt : Nat → Nat → Bool) (p : Array Nat) (k : Nat) : Prop := ∀ i j, i < j → j < k → lt (p.getD i 0) (p.getD j 0) = true
def Desc (lt : Nat → Nat → Bool) (p : Array Nat) (k : Nat) : Prop := ∀ i j, i < j → j < k → lt (p.getD j 0) (p.getD i 0) = true

theorem asc_succ (O : LtOrd lt n) {p : Array Nat} {k : Nat} (h1 : 1 ≤ k) (h : Asc lt p k) (hl : lt (p.getD (k - 1) 0) (p.getD k 0) = true) : Asc lt p (k + 1) := by
  intro i j hij hj
  by_cases hk : j < k
  · exact h i j hij hk
  · have : j = k := by omega
    subst this
    by_cases hi : i = j - 1
    · rw [hi]; exact hl
    · exact O.trans _ _ _ (h i (j - 1) (by omega) (by omega)) hl
theorem desc_succ (O : LtOrd lt n) {p : Array Nat} {k : Nat} (h1 : 1 ≤ k) (h : Desc lt p k) (hl : lt (p.getD k 0) (p.getD (k - 1) 0) = true) : Desc lt p (k + 1) := by
  intro i j hij hj
  by_cases hk : j < k
  · exact h i j hij hk
  · have : j = k := by omega
    subst this
    by_cases hi : i = j - 1
    · rw [hi]; exact hl
    · exact O.trans _ _ _ hl (h i (j - 1) (by omega) (by omega))

theorem not_lt {p : Array Nat} (O : LtOrd lt n) (P : Perm0 n p) {i j : Nat} (hi : i < n) (hj : j < n) (hij : i ≠ j) (h : lt (p.getD i 0) (p.getD j 0) = false) : lt (p.getD j 0) (p.getD i 0) = true := by
  rcases O.conn _ _ (P.below hi) (P.below hj) (fun e => hij (P.inj hi hj e)) with q | q
  · rw [h] at q; cases q
  · exact q

theorem asc_ok (O : LtOrd lt n) {p : Array Nat} (P : Perm0 n p) : ∀ (f m : Nat), 1 ≤ m → m + f ≤ n → Asc lt p m → KOk lt n (kas_asc p f m) (fun m' => m ≤ m' ∧ m' ≤ m + f ∧ Asc lt p m' ∧ (m' < m + f → lt (p.getD m' 0) (p.getD (m' - 1) 0) = true))
  | 0, m, h1, hn, h => ⟨Nat.le_refl _, by omega, h, fun q => by omega⟩
  | f + 1, m, h1, hn, h => by
    refine ⟨P.below (by omega), P.below (by omega), ?_⟩
    cases hc : lt (p.getD m 0) (p.getD (m - 1) 0) with
    | true => exact ⟨Nat.le_refl _, by omega, h, fun _ => hc⟩
    | false =>
      show KOk lt n (kas_asc p f (m + 1)) _
      refine kok_mono (fun a ha => ?_) (asc_ok O P f (m + 1) (by omega) (by omega) (asc_succ O h1 h (not_lt O P (by omega) (by omega) (by omega) hc)))
      obtain ⟨a1, a2, a3, a4⟩ := ha
      exact ⟨by omega, by omega, a3, fun q => a4 (by omega)⟩

theorem desc_ok (O : LtOrd lt n) {p : Array Nat} (P : Perm0 n p) : ∀ (f m : Nat), 1 ≤ m → m + f ≤ n → Desc lt p m → KOk lt n (kas_desc f p m 0) (fun r => r.1 = p ∧ m ≤ r.2.1 ∧ r.2.1 ≤ m + f ∧ r.2.2 = 0 ∧ Desc lt p r.2.1)
  | 0, m, h1, hn, h => ⟨rfl, Nat.le_refl _, Nat.le_refl _, rfl, h⟩
  | f + 1, m, h1, hn, h => by
    refine ⟨P.below (by omega), P.below (by omega), ?_⟩
    cases hc : lt (p.getD m 0) (p.getD (m - 1) 0) with
    | true =>
      show KOk lt n (kas_desc f p (m + 1) 0) _
      refine kok_mono (fun a ha => ?_) (desc_ok O P f (m + 1) (by omega) (by omega) (desc_succ O h1 h hc))
      obtain ⟨a1, a2, a3, a4, a5⟩ := ha
      exact ⟨a1, by omega, by omega, a4, a5⟩
    | false =>
      refine ⟨P.below (by omega), P.below (by omega), ?_⟩
      rw [not_lt O P (by omega) (by omega) (by omega) hc]
      exact ⟨rfl, Nat.le_refl _, Nat.le_add_right _ _, rfl, h⟩

theorem getD_of {p q : Array Nat} {i j : Nat} (h : p[i]? = q[j]?) : p.getD i 0 = q.getD j 0 := by
  rw [Array.getD_eq_getD_getElem?, Array.getD_eq_getD_getElem?, h]

theorem rev_asc {p : Array Nat} (P : Perm0 n p) {m : Nat} (hm : m ≤ n) (h : Desc lt p m) : Asc lt (kas_rev p 0 m) m := by
  have hs := P.size
  have key : ∀ k, k < m → (kas_rev p 0 m).getD k 0 = p.getD (m - 1 - k) 0 := by
    intro k hk
    refine getD_of ?_
    unfold kas_rev
    rw [getElem?_mirror_all (by omega) k]
    simp [hk]
  intro i j hij hj
  rw [key i (by omega), key j hj]
  exact h _ _ (by omega) (by omega)
theorem rev_perm {p : Array Nat} (P : Perm0 n p) {m : Nat} : Perm0 n (kas_rev p 0 m) := P.of (mirror_perm _ _ _ _)

def SortQ (lt : Nat → Nat → Bool) (n : Nat) (r : Nat × Array Nat) : Prop := Perm0 n r.2 ∧ 1 ≤ r.1 ∧ r.1 ≤ n ∧ Asc lt r.2 r.1

theorem count_ok (O : LtOrd lt n) {p : Array Nat} (P : Perm0 n p) (hn : 2 ≤ n) : KOk lt n (kas_count n p) (SortQ lt n) := by
  unfold kas_count
  refine kok_bind (asc_ok O P (n - 1) 1 (Nat.le_refl _) (by omega) (fun i j hij hj => by omega)) fun m hm => ?_
  obtain ⟨m1, m2, m3, m4⟩ := hm
  by_cases he : m = n
  · have : (m == n) = true := by simpa using he
    rw [if_pos this]
    exact ⟨P, m1, by show m ≤ n; omega, m3⟩
  · have : ¬ (m == n) = true := by simpa using he
    rw [if_neg this]
    by_cases hm1 : m > 1
    · rw [if_pos hm1]
      refine ⟨P.below (by omega), P.below (by omega), ?_⟩
      rw [m3 0 (m - 1) (by omega) (by omega)]
      exact ⟨P, m1, by show m ≤ n; omega, m3⟩
    · rw [if_neg hm1]
      have : m = 1 := by omega
      subst this
      have hl := m4 (by omega)
      unfold kas_descPart
      refine kok_bind (desc_ok O P (n - (1 + 1)) (1 + 1) (by omega) (by omega) ?_) fun r hr => ?_
      · intro i j hij hj
        have : i = 0 ∧ j = 1 := by omega
        rw [this.1, this.2]; exact hl
      · obtain ⟨r1, r2, r3, r4, r5⟩ := hr
        have : ¬ r.2.2 > 0 := by omega
        rw [if_neg this, r1]
        unfold kas_tail3
        refine kok_bind (asc_ok O (rev_perm P) (n - r.2.1) r.2.1 (by omega) (by omega) (rev_asc P (by omega) r5)) fun m' hm' => ?_
        exact ⟨rev_perm P, by show 1 ≤ m'; omega, by show m' ≤ n; omega, hm'.2.2.1⟩

theorem place_ok (O : LtOrd lt n) {p : Array Nat} (P : Perm0 n p) {k : Nat} (hk : k < n) (hs : Asc lt p k) : ∀ (f l r : Nat), l ≤ r → r ≤ k → r - l ≤ f → (∀ i, i < l → lt (p.getD i 0) (p.getD k 0) = true) → (∀ i, r ≤ i → i < k → lt (p.getD k 0) (p.getD i 0) = true) →
    KOk lt n (kas_place p k f l r) (fun l' => l' ≤ k ∧ (∀ i, i < l' → lt (p.getD i 0) (p.getD k 0) = true) ∧ (∀ i, l' ≤ i → i < k → lt (p.getD k 0) (p.getD i 0) = true))
  | 0, l, r, hlr, hr, hf, h1, h2 => by
    have : l = r := by omega
    subst this
    exact ⟨hr, h1, h2⟩
  | f + 1, l, r, hlr, hr, hf, h1, h2 => by
    unfold kas_place
    by_cases hge : l ≥ r
    · rw [if_pos hge]
      have : l = r := by omega
      subst this
      exact ⟨hr, h1, h2⟩
    · rw [if_neg hge]
      have hm1 : (l + r) / 2 < r := by omega
      have hm2 : l ≤ (l + r) / 2 := by omega
      refine ⟨P.below hk, P.below (by omega), ?_⟩
      cases hc : lt (p.getD k 0) (p.getD ((l + r) / 2) 0) with
      | true =>
        show KOk lt n (kas_place p k f l ((l + r) / 2)) _
        refine place_ok O P hk hs f l ((l + r) / 2) hm2 (by omega) (by omega) h1 fun i hi hik => ?_
        by_cases e : i = (l + r) / 2
        · rw [e]; exact hc
        · exact O.trans _ _ _ hc (hs _ i (by omega) hik)
      | false =>
        show KOk lt n (kas_place p k f ((l + r) / 2 + 1) r) _
        have hlt := not_lt O P hk (by omega : (l + r) / 2 < n) (by omega) hc
        refine place_ok O P hk hs f ((l + r) / 2 + 1) r (by omega) hr (by omega) (fun i hi => ?_) h2
        by_cases e : i = (l + r) / 2
        · rw [e]; exact hlt
        · exact O.trans _ _ _ (hs i _ (by omega) (by omega)) hlt

theorem bin_ok (O : LtOrd lt n) : ∀ (f : Nat) (p : Array Nat) (k : Nat), Perm0 n p → 1 ≤ k → k + f = n → Asc lt p k → KOk lt n (kas_bin f p k) (fun q => Perm0 n q ∧ Asc lt q n)
  | 0, p, k, P, h1, hk, hs => by
    have : k = n := by omega
    subst this
    exact ⟨P, hs⟩
  | f + 1, p, k, P, h1, hk, hs => by
    unfold kas_bin
    have hsz := P.size
    refine kok_bind (place_ok O P (by omega) hs k 0 k (by omega) (Nat.le_refl _) (by omega) (fun i hi => by omega) (fun i hi hik => by omega)) fun l hl => ?_
    obtain ⟨l1, l2, l3⟩ := hl
    have key : ∀ i, i ≤ k → (bubble p k (k - l)).getD i 0 = if i < l then p.getD i 0 else if i = l then p.getD k 0 else p.getD (i - 1) 0 := by
      intro i hi
      have hb := getElem?_bubble (xs := p) (src := k) (by omega) (k - l) (by omega) i
      have e1 : k - (k - l) = l := by omega
      rw [e1] at hb
      by_cases b1 : i < l
      · rw [if_pos b1]
        rw [if_neg (by omega), if_neg (by omega)] at hb
        exact getD_of hb
      · rw [if_neg b1]
        by_cases b2 : i = l
        · rw [if_pos b2]
          rw [if_pos b2] at hb
          exact getD_of hb
        · rw [if_neg b2]
          rw [if_neg b2, if_pos (by omega)] at hb
          exact getD_of hb
    refine bin_ok O f _ (k + 1) (P.of (bubble_perm _ _ _)) (by omega) (by omega) ?_
    intro i j hij hj
    rw [key i (by omega), key j (by omega)]
    by_cases a1 : i < l
    · rw [if_pos a1]
      by_cases b1 : j < l
      · rw [if_pos b1]; exact hs i j hij (by omega)
      · rw [if_neg b1]
        by_cases b2 : j = l
        · rw [if_pos b2]; exact l2 i a1
        · rw [if_neg b2]; exact hs i (j - 1) (by omega) (by omega)
    · rw [if_neg a1, if_neg (by omega : ¬ j < l), if_neg (by omega : ¬ j = l)]
      by_cases a2 : i = l
      · rw [if_pos a2]; exact l3 (j - 1) (by omega) (by omega)
      · rw [if_neg a2]; exact hs (i - 1) (j - 1) (by omega) (by omega)

theorem sort_ok (O : LtOrd lt n) (hn : 2 ≤ n) : KOk lt n (kas_sort n) (fun q => Perm0 n q ∧ Asc lt q n) := by
  unfold kas_sort
  refine kok_bind (count_ok O (Array.Perm.refl _) hn) fun r hr => ?_
  obtain ⟨P, r1, r2, r3⟩ := hr
  have e : max r.1 1 = r.1 := by omega
  rw [e]
  by_cases hlt : r.1 < n
  · rw [if_pos hlt]
    exact bin_ok O (n - r.1) r.2 r.1 P r1 (by omega) r3
  · rw [if_neg hlt]
    have : r.1 = n := by omega
    exact ⟨P, this ▸ r3⟩
end
end Mine
end
section
open PySem PySem.W PyProof.Rows PySem.Calls
set_option maxRecDepth 100000
set_option maxHeartbeats 4000000
namespace Mine

abbrev rowLt (a b : Str × Nat) : Prop := a.1.cps.toList < b.1.cps.toList ∨ (a.1 = b.1 ∧ a.2 < b.2)
def rowB (es : List (Str × Nat)) (i j : Nat) : Bool := decide (rowLt (es.getD i (⟨#[]⟩, 0)) (es.getD j (⟨#[]⟩, 0)))

theorem rowLt_irr (a : Str × Nat) : ¬ rowLt a a := by
  intro h
  rcases h with h | h
  · exact List.lt_irrefl _ h
  · exact Nat.lt_irrefl _ h.2
theorem rowLt_trans {a b c : Str × Nat} (h1 : rowLt a b) (h2 : rowLt b c) : rowLt a c := by
  rcases h1 with h1 | ⟨h1, k1⟩
  · rcases h2 with h2 | ⟨h2, k2⟩
    · exact .inl (List.lt_trans h1 h2)
    · exact .inl (h2 ▸ h1)
  · rcases h2 with h2 | ⟨h2, k2⟩
    · exact .inl (h1.symm ▸ h2)
    · exact .inr ⟨h1.trans h2, Nat.lt_trans k1 k2⟩
theorem str_ext {x y : Str} (h : x.cps.toList = y.cps.toList) : x = y := by
  cases x; cases y; simpa using h
theorem rowLt_conn {a b : Str × Nat} (h : a ≠ b) : rowLt a b ∨ rowLt b a := by
  by_cases h1 : a.1.cps.toList < b.1.cps.toList
  · exact .inl (.inl h1)
  · by_cases h2 : b.1.cps.toList < a.1.cps.toList
    · exact .inr (.inl h2)
    · have e : a.1.cps.toList = b.1.cps.toList := List.le_antisymm (List.not_lt.mp h2) (List.not_lt.mp h1)
      have e' := str_ext e
      have hk : a.2 ≠ b.2 := fun q => h (Prod.ext e' q)
      rcases Nat.lt_or_gt_of_ne hk with q | q
      · exact .inl (.inr ⟨e', q⟩)
      · exact .inr (.inr ⟨e'.symm, q⟩)

theorem rowB_ord {es : List (Str × Nat)} (hn : es.Nodup) : LtOrd (rowB es) es.length where
  irr i := by unfold rowB; exact decide_eq_false (rowLt_irr _)
  trans i j k h1 h2 := by unfold rowB at *; exact decide_eq_true (rowLt_trans (of_decide_eq_true h1) (of_decide_eq_true h2))
  conn i j hi hj hij := by
    unfold rowB
    have e1 : es.getD i (⟨#[]⟩, 0) = es[i] := by simp [hi]
    have e2 : es.getD j (⟨#[]⟩, 0) = es[j] := by simp [hj]
    rw [e1, e2]
    have : es[i] ≠ es[j] := fun q => hij ((List.getElem_inj hn).mp q)
    rcases rowLt_conn this with q | q
    · exact .inl (decide_eq_true q)
    · exact .inr (decide_eq_true q)

abbrev rowO (x : Str) (k : Nat) (t u : Tok) : Obj := { cls := .type "tuple", data := .seq #[.str x t, .int (k : Int) u] }

inductive Rows : List Value → List (Addr × Obj) → List (Str × Nat) → Prop
  | nil : Rows [] [] []
  | snoc {ys : List Value} {tl : List (Addr × Obj)} {es : List (Str × Nat)} (T : Addr) (x : Str) (k : Nat) (t u : Tok) : Rows ys tl es → Rows (ys ++ [.ref T]) (tl ++ [(T, { cls := .type "tuple", data := .seq #[.str x t, .int (k : Int) u] })]) (es ++ [(x, k)])

/-- the rows as the ledger has them -/
def RowsIn (news : List (Addr × Obj)) (ys : List Value) (es : List (Str × Nat)) : Prop :=
  ys.length = es.length ∧ ∀ i, (hi : i < es.length) → ∃ T t u, ys[i]? = some (.ref T) ∧ (T, rowO es[i].1 es[i].2 t u) ∈ news

theorem Rows.length : ∀ {ys : List Value} {tl : List (Addr × Obj)} {es : List (Str × Nat)}, Rows ys tl es → ys.length = es.length
  | _, _, _, .nil => rfl
  | _, _, _, .snoc T x k t u r => by simp [Rows.length r]

theorem Rows.rowsIn : ∀ {ys : List Value} {tl : List (Addr × Obj)} {es : List (Str × Nat)}, Rows ys tl es → RowsIn tl ys es
  | _, _, _, .nil => ⟨rfl, fun i hi => absurd hi (Nat.not_lt_zero _)⟩
  | _, _, _, .snoc (ys := ys) (tl := tl) (es := es) T x k t u r => by
    have ih := Rows.rowsIn r
    refine ⟨by simp [ih.1], fun i hi => ?_⟩
    by_cases h : i < es.length
    · obtain ⟨T', t', u', e, hm⟩ := ih.2 i h
      refine ⟨T', t', u', ?_, ?_⟩
      · rw [List.getElem?_append_left (by rw [ih.1]; exact h)]; exact e
      · rw [List.getElem_append_left h]; exact List.mem_append_left _ hm
    · have : i = es.length := by simp at hi; omega
      subst this
      refine ⟨T, t, u, ?_, ?_⟩
      · rw [List.getElem?_append_right (by rw [ih.1]; exact Nat.le_refl _), ih.1]; simp
      · rw [List.getElem_append_right (Nat.le_refl _)]; simp
theorem RowsIn.mono {l l' : List (Addr × Obj)} {ys : List Value} {es : List (Str × Nat)} (h : RowsIn l ys es) (hs : ∀ p ∈ l, p ∈ l') : RowsIn l' ys es :=
  ⟨h.1, fun i hi => let ⟨T, t, u, e, hm⟩ := h.2 i hi; ⟨T, t, u, e, hs _ hm⟩⟩

theorem rowsIn_perm {news : List (Addr × Obj)} {ys : List Value} {es : List (Str × Nat)} (h : RowsIn news ys es) {p : Array Nat} (P : Perm0 es.length p) :
    RowsIn news (p.toList.map fun i => ys.getD i Value.none) (p.toList.map fun i => es.getD i (⟨#[]⟩, 0)) := by
  refine ⟨by simp, fun i hi => ?_⟩
  have hi' : i < p.size := by simpa using hi
  have hs := P.size
  have hb := P.below (i := i) (by omega)
  have e0 : p.getD i 0 = p[i] := by simp [Array.getD, hi']
  rw [e0] at hb
  obtain ⟨T, t, u, e, hm⟩ := h.2 p[i] hb
  refine ⟨T, t, u, ?_, ?_⟩
  · simp [hi', e]
  · simpa [hi', hb] using hm

theorem perm_es {es : List (Str × Nat)} {p : Array Nat} (P : Perm0 es.length p) : (p.toList.map fun i => es.getD i (⟨#[]⟩, 0)).Perm es := by
  have hp : p.toList.Perm (List.range es.length) := by simpa using P.toList
  have h1 := hp.map (fun i => es.getD i (⟨#[]⟩, 0))
  have h2 : (List.range es.length).map (fun i => es.getD i (⟨#[]⟩, 0)) = es := by
    apply List.ext_getElem
    · simp
    · intro i h1 h2
      simp at h1
      simp [h1]
  rw [h2] at h1
  exact h1
theorem sorted_es {es : List (Str × Nat)} {p : Array Nat} (P : Perm0 es.length p) (hs : Asc (rowB es) p es.length) : (p.toList.map fun i => es.getD i (⟨#[]⟩, 0)).Pairwise rowLt := by
  have hz := P.size
  rw [List.pairwise_iff_getElem]
  intro i j hi hj hij
  simp at hi hj
  have := hs i j hij (by omega)
  have e1 : p.getD i 0 = p[i] := by simp [Array.getD, hi]
  have e2 : p.getD j 0 = p[j] := by simp [Array.getD, hj]
  rw [e1, e2] at this
  have := of_decide_eq_true this
  simpa using this

section
variable {prog : Program} {w : World} {A : Around} {E : Value → Shared → Prop} {s : Shared} {h₀ : Heap} {L : Addr} {m : Str → Option Value} {news : List (Addr × Obj)} {ys : List Value} {es : List (Str × Nat)}

theorem row_lt {x y : Addr} {a b : Str × Nat} {t u t' u' : Tok} {Q : Bool → Shared → Prop} (hx : s.heap.get? x = some (rowO a.1 a.2 t u)) (hy : s.heap.get? y = some (rowO b.1 b.2 t' u')) (h : Q (decide (rowLt a b)) s) :
    wpAny (model prog w) A (keyLt' (tuples' true) (.ref x) (.ref y)) Q E s := by
  refine kat_lt hx rfl hy rfl ?_
  show KatLex _ _ _ _ _ _ [(.str a.1 t, .str b.1 t'), (.int (a.2 : Int) u, .int (b.2 : Int) u')] 0 s
  refine kat_cons (wpAny_eqBool_str ?_)
  by_cases he : a.1 = b.1
  · rw [decide_eq_true he]
    refine kat_yes (kat_cons (wpAny_eqBool_int ?_))
    by_cases hk : a.2 = b.2
    · have : ((a.2 : Int) == (b.2 : Int)) = true := by simp [hk]
      rw [this]
      refine kat_yes (kat_nil ?_)
      have e : a = b := Prod.ext he hk
      subst e
      rw [decide_eq_false (rowLt_irr a)] at h
      simpa using h
    · have : ((a.2 : Int) == (b.2 : Int)) = false := by simp; omega
      rw [this]
      refine kat_no (kat_one _ _ ?_)
      refine lt_int ?_
      show Q _ s
      have : decide ((a.2 : Int) < (b.2 : Int)) = decide (rowLt a b) := by
        apply decide_eq_decide.mpr
        constructor
        · intro q; exact .inr ⟨he, by omega⟩
        · rintro (q | q)
          · rw [he] at q; exact absurd q (List.lt_irrefl _)
          · omega
      rw [this]; exact h
  · rw [decide_eq_false he]
    refine kat_no (oneLt_str ?_)
    have : decide (a.1.cps.toList < b.1.cps.toList) = decide (rowLt a b) := by
      apply decide_eq_decide.mpr
      constructor
      · intro q; exact .inl q
      · rintro (q | q)
        · exact q
        · exact absurd q.1 he
    rw [this]; exact h

theorem rowsIn_tups {h : Heap} (N : News h₀ L h news) : ∀ {ys : List Value} {es : List (Str × Nat)}, RowsIn news ys es → ∃ fs, KatTups h ys fs ∧ fs.length = ys.length ∧ ∀ v ∈ fs, ∃ x t, v = .str x t
  | [], _, _ => ⟨[], trivial, rfl, fun v hv => by simp at hv⟩
  | y :: ys, [], R => by have := R.1; simp at this
  | y :: ys, e :: es, R => by
    obtain ⟨T, t, u, h1, hm⟩ := R.2 0 (by simp)
    have R' : RowsIn news ys es := ⟨by have := R.1; simpa using this, fun i hi => by
      obtain ⟨T, t, u, h1, hm⟩ := R.2 (i + 1) (by simpa using hi)
      exact ⟨T, t, u, by simpa using h1, by simpa using hm⟩⟩
    obtain ⟨fs, k, hl, hf⟩ := rowsIn_tups N R'
    simp at h1 hm
    subst h1
    refine ⟨.str e.1 t :: fs, KatTups.cons (N _ hm).1 rfl rfl rfl k, by simp [hl], fun v hv => ?_⟩
    rcases List.mem_cons.mp hv with rfl | hv
    · exact ⟨_, _, rfl⟩
    · exact hf v hv

theorem sorted_rows {l : Addr} {tl : List (Addr × Obj)} {Q : Value → Shared → Prop} (F : Fr h₀ L s.heap m) (N : News h₀ L s.heap news) (hl : s.heap.IsList l ys.toArray) (R₀ : RowsIn tl ys es) (htl : ∀ p ∈ tl, p ∈ news) (hnd : es.Nodup) (h2 : 2 ≤ es.length) (h64 : es.length < 64)
    (h : ∀ S h' ys' es' c, Fr h₀ L h' m → News h₀ L h' ((S, ({ cls := .type "list", data := .seq ys'.toArray c } : Obj)) :: news) → (∀ q ∈ news, q.1 < S) → RowsIn tl ys' es' → es'.Perm es → es'.Pairwise rowLt → Q (.ref S) { s with heap := h' }) :
    wpAny (model prog w) A (call (.builtin "sorted") [.ref l]) Q E s := by
  have R := R₀.mono htl
  have hyl := R.1
  refine kat_sorted F N hl (by omega) (by omega) fun D e1 h' F' N' hlt => ?_
  have N'' : News h₀ L h' news := fun p hp => N' p (List.mem_cons_of_mem _ hp)
  obtain ⟨fs, K, hfl, hfs⟩ := rowsIn_tups N'' R
  refine kat_kind (fs := fs) (T := Value.type "str") K (by omega) (fun v hv => by obtain ⟨x, t, rfl⟩ := hfs v hv; exact Looks.of_pure rfl) rfl ?_
  have eb : (Value.type "str" != Value.type "tuple") = true := rfl
  rw [eb, hyl]
  refine kok_wp (n := es.length) (lt := rowB es) (Inv := fun s' => s' = { s with heap := h' }) ?_ ?_ (sort_ok (rowB_ord hnd) h2) rfl
  · rintro i j C s' hi hj rfl hC
    obtain ⟨T, t, u, ei, mi⟩ := R.2 i hi
    obtain ⟨T', t', u', ej, mj⟩ := R.2 j hj
    unfold kas_ask
    have e1 : ys.getD i Value.none = .ref T := by rw [List.getD_eq_getElem?_getD, ei]; rfl
    have e2 : ys.getD j Value.none = .ref T' := by rw [List.getD_eq_getElem?_getD, ej]; rfl
    rw [e1, e2]
    refine row_lt (N'' _ mi).1 (N'' _ mj).1 ?_
    have := hC _ rfl
    unfold rowB at this
    have f1 : es.getD i (⟨#[]⟩, 0) = es[i] := by simp [hi]
    have f2 : es.getD j (⟨#[]⟩, 0) = es[j] := by simp [hj]
    rw [f1, f2] at this
    exact this
  · rintro p s' ⟨P, hs⟩ rfl
    refine KasFin.intro F' N' (.head fun p hp => Nat.ne_of_lt (hlt p hp)) fun h2 c F2 N2 => ?_
    exact h D h2 _ _ c F2 N2 hlt (rowsIn_perm R₀ P) (perm_es P) (sorted_es P hs)
end
end Mine
end
section
open PySem PySem.W PyProof.Rows PySem.Calls
set_option maxRecDepth 100000
set_option maxHeartbeats 4000000
namespace Mine
section
variable {prog : Program} {w : World} {A : Around} {E : Value → Shared → Prop} {s : Shared} {h₀ : Heap} {L a : Addr} {m : Str → Option Value} {news : List (Addr × Obj)} {ys vs : List Value} {es : List (Str × Nat)}

theorem list_sort_small {n : Nat} {P : PySem.Fin → Shared → Prop} (F : Fr h₀ L s.heap m) (N : News h₀ L s.heap news) (ho : s.heap.get? a = some (seqObj "list" vs.toArray n)) (haL : a ≠ L) (ha0 : h₀.get? a = none) (hna : ∀ p ∈ news, p.1 ≠ a)
    (h2 : vs.length < 2)
    (h : ∀ c h', Fr h₀ L h' m → News h₀ L h' ((a, seqObj "list" vs.toArray c) :: news) → P (.done (.ret .none)) { s with heap := h' }) :
    wpAny (model prog w) A (Builtin.«list.sort» ⟨[.ref a], []⟩) P E s := by
  have ha : a < s.heap.objs.size := Heap.lt_size ho
  have s1 := Heap.SameBut.update s.heap a (Obj.mapSeq fun _ => (#[] : Array Value))
  obtain ⟨e1, ho1⟩ : ∃ e1, (s.heap.update a (Obj.mapSeq fun _ => (#[] : Array Value))).get? a = some (seqObj "list" #[] e1) := ⟨_, get?_update_seq ho fun _ => #[]⟩
  have F3 : Fr h₀ L (((s.heap.update a (Obj.mapSeq fun _ => (#[] : Array Value))).push (seqObj "tuple" vs.toArray 0)).push (seqObj "list" #[] 0)) m := ((kas_fr F s1 haL ha0).push _).push _
  have N2 : News h₀ L (((s.heap.update a (Obj.mapSeq fun _ => (#[] : Array Value))).push (seqObj "tuple" vs.toArray 0)).push (seqObj "list" #[] 0)) news :=
    (kas_news N s1 hna).grown fun b x e => Heap.get?_push_of_some _ (Heap.get?_push_of_some _ e)
  have na : (((s.heap.update a (Obj.mapSeq fun _ => (#[] : Array Value))).push (seqObj "tuple" vs.toArray 0)).push (seqObj "list" #[] 0)).get? a = some (seqObj "list" #[] e1) := Heap.get?_push_of_some _ (Heap.get?_push_of_some _ ho1)
  rw [list_sort_plain]
  refine wpAny_bind (listItems_at ho rfl ?_)
  refine wpAny_bind (listUpdate_at ho rfl ?_ (by rw [List.size_toArray, sizeLine_eq]; omega) (Nat.zero_le _))
  refine wpAny_bind (seqEpoch_at ho1 rfl ?_)
  refine wpAny_bind (wpAny_newTuple ?_ (by show vs.length ≤ _; rw [sizeLine_eq]; omega))
  refine wpAny_bind (wpAny_newList ?_ (Nat.zero_le _))
  refine wpAny_holding ?_
  show wpAny (model prog w) A _ P E { s with heap := ((s.heap.update a (Obj.mapSeq fun _ => (#[] : Array Value))).push (seqObj "tuple" vs.toArray 0)).push (seqObj "list" #[] 0) }
  generalize hH : ((s.heap.update a (Obj.mapSeq fun _ => (#[] : Array Value))).push (seqObj "tuple" vs.toArray 0)).push (seqObj "list" #[] 0) = H at F3 N2 na ⊢
  dsimp only
  have hn2 : vs.toArray.size < 2 := by rw [List.size_toArray]; omega
  rw [if_pos hn2, if_pos hn2]
  refine wpAny_bind (wpAny_pure ?_)
  rw [StateT.run_pure]
  refine wpAny_bind (wpAny_pure ?_)
  dsimp only
  have hout : (arrOf (SortSt.mk' general' (vs.toArray.zip vs.toArray) #[] 7 none)).map (·.2) = vs.toArray := by
    show (vs.toArray.zip vs.toArray).map (·.2) = vs.toArray
    apply Array.ext_getElem?
    intro i
    by_cases hi : i < vs.length
    · simp [hi]
    · simp [hi]
  rw [hout]
  have s2 := Heap.SameBut.update H a (Obj.mapSeq fun _ => vs.toArray)
  obtain ⟨c2, hc2⟩ : ∃ c2, (H.update a (Obj.mapSeq fun _ => vs.toArray)).get? a = some (seqObj "list" vs.toArray c2) := ⟨_, get?_update_seq na fun _ => vs.toArray⟩
  refine wpAny_bind (seqEpoch_at na rfl ?_)
  refine wpAny_bind (listUpdate_at na rfl ?_ (Nat.zero_le _) (by rw [List.size_toArray, sizeLine_eq]; omega))
  simp only [bne_self_eq_false, Bool.false_eq_true, if_false]
  refine wpAny_pure (h c2 _ (kas_fr F3 s2 haL ha0) fun p hp => ?_)
  rcases List.mem_cons.mp hp with rfl | hp
  · exact ⟨hc2, haL, ha0⟩
  · exact kas_news N2 s2 hna p hp

theorem sorted_small {l : Addr} {Q : Value → Shared → Prop} (F : Fr h₀ L s.heap m) (N : News h₀ L s.heap news) (hl : s.heap.IsList l vs.toArray) (h2 : vs.length < 2)
    (h : ∀ D c h', Fr h₀ L h' m → News h₀ L h' ((D, seqObj "list" vs.toArray c) :: news) → (∀ q ∈ news, q.1 < D) → Q (.ref D) { s with heap := h' }) :
    wpAny (model prog w) A (call (.builtin "sorted") [.ref l]) Q E s := by
  refine Calls.call_function_entry kind_sorted plain_sorted entry_sorted (args_sorted1 _) ?_
  unfold Builtin.«sorted»
  refine wpAny_bind (m := checkCount "sorted" 1 1 _) (wpAny_pure ?_)
  refine wpAny_bind (collect_list hl ?_ (by rw [sizeLine_eq]; omega))
  refine wpAny_bind (wpAny_newList ?_ (by rw [sizeLine_eq]; omega))
  have hsz : ((s.heap.push (seqObj "list" #[] 0)).update s.heap.objs.size (Obj.mapSeq (· ++ vs.toArray))).objs.size = s.heap.objs.size + 1 := by
    rw [Heap.size_update, size_push']
  have hoL : (((s.heap.push (seqObj "list" #[] 0)).update s.heap.objs.size (Obj.mapSeq (· ++ vs.toArray))).push (seqObj "list" vs.toArray 0)).get? (s.heap.objs.size + 1) = some (seqObj "list" vs.toArray 0) := by
    rw [← hsz]; exact Heap.get?_push_size _ rfl
  have keep : ∀ b o, s.heap.get? b = some o → (((s.heap.push (seqObj "list" #[] 0)).update s.heap.objs.size (Obj.mapSeq (· ++ vs.toArray))).push (seqObj "list" vs.toArray 0)).get? b = some o := fun b o q => by
    have hlt : b < s.heap.objs.size := Heap.lt_size q
    rw [Heap.get?_push_ne _ _ _ (by rw [hsz]; exact Nat.ne_of_lt (Nat.lt_succ_of_lt hlt)), Heap.get?_update_ne _ _ _ _ (Nat.ne_of_lt hlt), Heap.get?_push_ne _ _ _ (Nat.ne_of_lt hlt)]
    exact q
  have hL : L < s.heap.objs.size := F.ns.lt
  show wpAny _ _ _ _ _ { s with heap := ((s.heap.push (seqObj "list" #[] 0)).update s.heap.objs.size (Obj.mapSeq (· ++ vs.toArray))).push (seqObj "list" vs.toArray 0) }
  rw [hsz]
  refine wpAny_bind (wpAny_holding (wpAny_call_entry slot_list_sort ⟨_, hoL, rfl⟩ entry_list_sort ?body (args_list_sort _)))
  case body =>
    refine list_sort_small (s := { s with heap := ((s.heap.push (seqObj "list" #[] 0)).update s.heap.objs.size (Obj.mapSeq (· ++ vs.toArray))).push (seqObj "list" vs.toArray 0) })
      (F.kept keep) (N.grown keep) hoL (Nat.ne_of_gt (Nat.lt_succ_of_lt hL)) (Heap.get?_none_of_le (Nat.le_trans F.above (Nat.le_succ_of_le (Nat.le_of_lt hL))))
      (fun p hp => Nat.ne_of_lt (Nat.lt_succ_of_lt (Heap.lt_size (N p hp).1))) h2 fun c h' F' N' => ?_
    exact ⟨_, rfl, wpAny_pure ⟨_, rfl, h _ c h' F' N' fun q hq => Nat.lt_succ_of_lt (Heap.lt_size (N q hq).1)⟩⟩

theorem sorted_all {l : Addr} {tl : List (Addr × Obj)} {Q : Value → Shared → Prop} (F : Fr h₀ L s.heap m) (N : News h₀ L s.heap news) (hl : s.heap.IsList l ys.toArray) (R : RowsIn tl ys es) (htl : ∀ p ∈ tl, p ∈ news) (hnd : es.Nodup) (h64 : es.length < 64)
    (h : ∀ S h' ys' es' c, Fr h₀ L h' m → News h₀ L h' ((S, ({ cls := .type "list", data := .seq ys'.toArray c } : Obj)) :: news) → (∀ q ∈ news, q.1 < S) → RowsIn tl ys' es' → es'.Perm es → es'.Pairwise rowLt → Q (.ref S) { s with heap := h' }) :
    wpAny (model prog w) A (call (.builtin "sorted") [.ref l]) Q E s := by
  by_cases h2 : 2 ≤ es.length
  · exact sorted_rows F N hl R htl hnd h2 h64 h
  · have := R.1
    refine sorted_small F N hl (by omega) fun D c h' F' N' hlt => h D h' ys es c F' N' hlt R (List.Perm.refl _) ?_
    match es, h2 with
    | [], _ => exact .nil
    | [e], _ => exact List.pairwise_singleton _ _
    | _ :: _ :: _, q => simp at q
end
end Mine
end
section
open PySem PySem.W PyProof.Rows PySem.Calls
set_option maxRecDepth 100000
namespace Mine
/-- the law's own definition, the last of the program -/
def stmtBody : Stmt → List Stmt
  | .FunctionDef _ _ b _ _ _ _ _ _ _ => b
  | .For _ _ b _ _ => b
  | _ => []
def stmtScope : Stmt → Scope
  | .FunctionDef _ _ _ _ _ _ s _ _ _ => s
  | _ => default
def stmtRhs : Stmt → PySem.Expr
  | .Assign _ v _ => v
  | _ => .Constant .none 0 default
def nthS (l : List Stmt) (n : Nat) : Stmt := l.getD n (.Pass default)
noncomputable def lawDef : Stmt := hd.view_39.main.body.reverse.headD (.Pass default)
noncomputable def lawBody : List Stmt := stmtBody lawDef
def mkScope {a b c d e} {s : Scope} (_ : s = ⟨a, b, c, d, e⟩) : Scope := ⟨a, b, c, d, e⟩
def mkFor {t i b e p} {s : Stmt} (_ : s = .For t i b e p) : Stmt := .For t i b e p
def mkIf {t b e p} {s : Stmt} (_ : s = .If t b e p) : Stmt := .If t b e p
def mkRet {v p} {s : Stmt} (_ : s = .Return v p) : Stmt := .Return v p
def mkComp {e g s p} {x : PySem.Expr} (_ : x = .ListComp e g s p) : PySem.Expr := .ListComp e g s p
def mkCall {f a k p} {x : PySem.Expr} (_ : x = .Call f a k p) : PySem.Expr := .Call f a k p
noncomputable def lawScope : Scope := mkScope (s := stmtScope lawDef) rfl
noncomputable def lawAlike : PySem.Expr := mkComp (x := stmtRhs (nthS (stmtBody (nthS lawBody 2)) 1)) rfl
noncomputable def lawCheck : Stmt := mkIf (s := nthS (stmtBody (nthS lawBody 2)) 2) rfl
noncomputable def lawMin : Stmt := mkFor (s := nthS lawBody 3) rfl
noncomputable def lawMet : PySem.Expr := mkCall (x := stmtRhs (nthS lawBody 4)) rfl
noncomputable def lawPiece : PySem.Expr := mkCall (x := stmtRhs (nthS lawBody 5)) rfl
noncomputable def lawEnd : Stmt := mkRet (s := nthS lawBody 6) rfl
def mkTail {a b c d} {l : List Stmt} (_ : l = [a, b, c, d]) : List Stmt := [a, b, c, d]
noncomputable def lawTail : List Stmt := mkTail (l := lawBody.drop 3) rfl
end Mine
end
section
open PySem PySem.W PyProof.Rows PySem.Calls
set_option maxRecDepth 100000
set_option maxHeartbeats 8000000
namespace Mine
theorem reset_C1 : ∃ x : Nat, x = x := by
  w_top off
  first | (walk1; done) | exact ⟨0, rfl⟩
local macro_rules | `(tactic| walk_at "MINE rest") => `(tactic| k_dflt (refine' my_rest ?k1 ?k2 ?k3 ?k4 ?k5 ?kA ?kF ?kK ?k6 ?k7 ?k8 ?kV ?kP ?kG ?kB ?_ ?c2 ?c3 ?c4 ?c5; (case kA => exact rfl); (case kF => exact rfl); (case kK => assumption); (case k1 => k_asm); (case k2 => k_asm); (case k3 => k_asm); (case k4 => k_asm); (case k5 => k_asm); (case k6 => k_is); (case k7 => k_is); (case k8 => ktr_room); (case kV => kl_lit); (case kP => exact rfl); (case kG => exact fun _ => rfl); (case kB => exact fun _ => locs rfl); (case c5 => decide); (case c2 => exact rfl); (case c3 => exact rfl); (case c4 => exact rfl); k_whole; intro D' g' L' h' l1 FG' F' N' B' X' T' gsub' dnew'; (try k_lt l1); (try dsimp only); (try k_lift B'); (try k_fold)))
local macro_rules | `(tactic| walk_at "MINE def") => `(tactic| k_dflt (refine' code_defG ?k1 ?k2 ?k3 ?k4 ?k5 ?kA ?kF ?kK ?k6 ?k7 ?k8 ?k9 ?kB ?_ ?c2 ?c3 ?c4 ?c5; (case kA => exact rfl); (case kF => exact rfl); (case kK => assumption); (case k1 => k_asm); (case k2 => k_asm); (case k3 => k_asm); (case k4 => k_asm); (case k5 => k_asm); (case k6 => k_is); (case k7 => k_is); (case k8 => ktr_room); (case k9 => exact BindsTo.of_eq rfl); (case c5 => decide); (case kB => exact locs rfl); (case c2 => exact rfl); (case c3 => exact rfl); (case c4 => exact rfl); k_whole; intro g' L' h' FG' F' N' B' X' T' gsub'; (try dsimp only); (try k_lift B'); (try k_fold)))
local macro_rules | `(tactic| walk_at "call type:set") => `(tactic| (k_here; (with_reducible show wpAny _ _ (call (Value.type "set") [Value.ref _]) _ _ _); k_dflt (refine' set_tup_N ?k1 ?k2 ?k3 ?k4 ?k5 ?k6 ?_; (case k1 => k_asm); (case k2 => k_asm); (case k3 => exact rfl); (case k4 => k_mem); (case k5 => first | exact StrsAre.two | exact StrsAre.one); (case k6 => exact Nat.le_of_ble_eq_true rfl); k_whole; intro d' h' tk' o' F' N' so' fit'; try k_sweep)))
local macro_rules | `(tactic| walk_at "call builtin:len") => `(tactic| (k_here; (with_reducible show wpAny _ _ (call (Value.builtin "len") [Value.ref _]) _ _ _); k_dflt (refine' len_set_N ?k1 ?k2 ?k3 ?k4 ?_; (case k1 => k_asm); (case k2 => k_mem); (case k3 => assumption); (case k4 => assumption); k_whole)))
local macro_rules | `(tactic| walk_at "MINE calm") => `(tactic| (refine ⟨_, _, rfl, ?kE, ?kP⟩; (case kE => first | exact calm_rest (by assumption) (by assumption) (by assumption) (by assumption) (by assumption) (by first | exact List.forall_mem_nil _ | k_sub) | exact calm_def (by assumption) (by assumption) (by assumption) (by assumption) (by first | exact List.forall_mem_nil _ | k_sub))))
local macro_rules | `(tactic| walk_at "MINE defC") => `(tactic| k_dflt (refine' my_defC ?k1 ?k2 ?k3 ?k4 ?k5 ?kA ?kF ?kK ?k6 ?k7 ?k8 ?k9 ?kB ?kD ?_ ?c2 ?c3 ?c4; (case kA => exact rfl); (case kF => exact rfl); (case kK => assumption); (case k1 => k_asm); (case k2 => k_asm); (case k3 => k_asm); (case k4 => k_asm); (case k5 => k_asm); (case k6 => k_is); (case k7 => k_is); (case k8 => ktr_room); (case k9 => exact BindsTo.of_eq rfl); (case kB => exact rfl); (case kD => decide +kernel); (case c2 => exact rfl); (case c3 => exact rfl); (case c4 => exact rfl); k_whole; intro g' L' h' tk' cells' FG' F' N' Y' B' X' T' gsub' l1; (try k_lt l1); k_cells Y'; (try simp only [List.cons_append, List.nil_append] at N'); (try dsimp only); (try k_lift B'); (try k_fold)))
local macro_rules | `(tactic| walk_at "binaryOp FloorDiv int int") => `(tactic| (with_reducible refine floordiv_int (pow3_ne _) ?_ (Or.inl (pow3_room (by omega)))))
local macro_rules | `(tactic| walk_at "CompSrc") => `(tactic| (k_here; (rename MarkT => mkT); (try k_fmods); k_dflt (refine LCg.CompSrc.range (by rfl) (by k_asm) (by k_asm) (by assumption) (by first | decide | exact small_one (by l_bnd) (by l_bnd) (by l_bnd) (by l_bnd)) (by first | exact rangeSize_nat _ _ | rfl) (by first | exact Nat.le_of_ble_eq_true rfl | (rw [PySem.sizeLine_eq]; first | omega | ((have hb9 := len_ints_list (by lay_of)); omega)) | size_fits) ?_; intro g'; (refine' kct_range _ (fun k' t' I' oI' C' oC' D' m' ys' h' tk' E' hlo' hhi' hC' hx' F' N' off' ne' => ?_) ?_); (all_goals (try (simp only [LCg.Off3, and_true] at off'))); (all_goals (try ((show KPfMark → _); intro hMark'))); kcf_last)))
local macro_rules | `(tactic| walk_at "getAttr ref") => `(tactic| (k_here; k_dflt (refine' get_sm ?k1 ?k2 ?k3 ?k4 ?k5 ?k6 ?k7 ?k8 ?k9 ?k10 ?k11 ?k12 ?_; (case k1 => k_asm); (case k2 => k_asm); (case k3 => k_inst); (case k4 => k_is); (case k5 => k_is); (case k6 => k_is); (case k7 => k_is); (case k8 => k_is); (case k9 => decide +kernel); (case k10 => k_get); (case k11 => k_is); (case k12 => k_handed); k_whole)))
local macro_rules | `(tactic| walk_at "MINE restC") => `(tactic| k_dflt (refine' my_restC ?k1 ?k2 ?k3 ?k4 ?k5 ?kA ?kF ?kK ?k6 ?k7 ?k8 ?kV ?kP ?kG ?kB ?kD ?_ ?c2 ?c3 ?c4; (case kA => exact rfl); (case kF => exact rfl); (case kK => assumption); (case k1 => k_asm); (case k2 => k_asm); (case k3 => k_asm); (case k4 => k_asm); (case k5 => k_asm); (case k6 => k_is); (case k7 => k_is); (case k8 => ktr_room); (case kV => kl_lit); (case kP => exact rfl); (case kG => exact fun _ => rfl); (case kB => exact fun _ => rfl); (case kD => decide +kernel); (case c2 => exact rfl); (case c3 => exact rfl); (case c4 => exact rfl); k_whole; intro D' g' L' h' tk' cells' l1 FG' F' N' Y' B' X' T' gsub' dnew' dlt'; (try k_lt l1); k_cells Y'; (try simp only [List.cons_append, List.nil_append] at N'); (try dsimp only); (try k_lift B'); (try k_fold)))
local macro_rules | `(tactic| walk_at "MINE fresh") => `(tactic| (refine fresh_of (by assumption) (by assumption) (by k_mem) ?_; simp only [List.map_cons, List.map_nil, List.mem_cons, List.not_mem_nil, or_false, not_or]; (repeat' apply And.intro) <;> (first | omega | (refine neN ?_; omega))))
local macro_rules | `(tactic| walk_at "MINE use") => `(tactic| (
  (case k1 => k_asm); (case k2 => k_asm); (case k3 => k_in); (case k4 => k_asm); (case k5 => k_asm); (case k6 => first | exact rfl | assumption); (case k7 => lcg_sub); (case k8 => first | decide | ktr_room); (case k9 => first | decide | ktr_units)))
local macro_rules | `(tactic| walk_at "eval Call Attribute") => `(tactic| (k_here; (with_reducible show wpAny _ _ (eval (Expr.Call (Expr.Attribute _ _ _) [Expr.Starred _ _] [] _) _) _ _ _); refine MethodCall_star ?_))
local macro_rules | `(tactic| walk_at "callWith ref") => `(tactic| (k_here; (with_reducible show wpAny _ _ (callWith _ (Value.ref _) _ (backTo _ (starEach [Expr.Starred _ _] _)) []) _ _ _); k_dflt (refine' callWith_MS ?k1 ?k2 ?k3 ?k4 ?_; (case k1 => k_asm); (case k2 => k_asm); (case k3 => k_mem); (case k4 => k_is); k_whole)))
local macro_rules | `(tactic| walk_at "exec For Name Call cons nil") => `(tactic| (k_here; (rename MarkF => mkF); refine stop_at ?_))
local macro_rules | `(tactic| walk_at "exec For Name Name cons nil") => `(tactic| (k_here; (rename MarkF => mkF); refine stop_at ?_))
local macro_rules | `(tactic| walk_at "exec For Name Tuple cons nil") => `(tactic| (k_here; (rename MarkF => mkF); refine stop_at ?_))
local macro_rules | `(tactic| walk_at "callWith type:zip") => `(tactic| (k_here; (with_reducible show wpAny _ _ (callWith _ (Value.type _) _ (backTo _ (starEach [Expr.Starred _ _] _)) []) _ _ _); refine callWith_typeS (by rfl) ?_))
local macro_rules | `(tactic| walk_at "callWith ref") => `(tactic| (k_here; kco_any "__call__"; kco_here; (with_reducible show wpAny _ _ (callWith _ (Value.ref _) _ (backTo _ (starEach [Expr.Starred _ _] _)) []) _ _ _); k_dflt (refine' callWith_IS ?k1 ?k2 ?k3 ?k4 ?_; (case k1 => k_in); (case k2 => k_inst); (case k3 => rfl); (case k4 => k_is); k_whole)))
local macro_rules | `(tactic| walk_at "call builtin:len") => `(tactic| (k_here; (with_reducible show wpAny _ _ (call (Value.builtin "len") [Value.str _ _]) _ _ _); refine PyProof.Rows.len_str (by omega) ?_))
theorem dedup_two (x y : Str) : ((((dedup [x, y]).length : Nat) : Int) == 1) = decide (x = y) := by
  unfold dedup dstep
  by_cases h : x = y
  · subst h; simp
  · have h2 : ¬ y = x := fun e => h e.symm
    simp [h, h2]
theorem ident_c : ∀ {w : World} (x y : Str) (t1 t2 : Tok), Does 2 w 100 [.str x t1, .str y t2] [] (fun _ => True) (fun _ v _ => v = .bool (decide (x = y))) := by
  unfold Does
  k_fill
  intro w x y t1 t2 loose mean mg mb dp un gd cn cs a ccd cl outer A₀ base h₀ L m s B F X N T hk hdp hun _
  walk_at "MINE rest"
  k_steps
  walk_at "MINE calm"
  exact congrArg Value.bool (dedup_two x y)
theorem word_c : ∀ {w : World} (n : Int) (t : Tok), Does 2 w 270 [.int n t] [] (fun _ => True) (fun _ v _ => ∃ (x : Str) (t : Tok), v = .str x t ∧ 1 ≤ x.length ∧ x.length ≤ 7) := by
  unfold Does
  k_fill
  intro w n t loose mean mg mb dp un gd cn cs a ccd cl outer A₀ base h₀ L m s B F X N T hk hdp hun _
  have mark : MarkT := True.intro
  walk_at "MINE defC"
  k_steps
  walk_at "MINE calm"
  refine ⟨_, _, rfl, ?_, ?_⟩ <;> omega
theorem getseq_p : ∀ {w : World} (b d : Addr) (t1 t2 t3 : Tok) (n : Nat) (x y : Str) (tx ty : Tok),
    Does 2 w 108 [.ref b, .str x tx, .str y ty] [(b, instObj 262 d), (d, dictOf [⟨PyData.keyHash w.params "qval", .str "qval" t1, .int 1 t2⟩, ⟨PyData.keyHash w.params "sim_test", .str "sim_test" t3, .ref 100⟩] n)] (fun _ => True)
      (fun H v h' => ∃ l k, v = .ref l ∧ H.get? l = none ∧ h'.get? l = some { cls := .type "list", data := .seq #[.str x tx, .str y ty] k }) := by
  unfold Does
  k_fill
  intro w b d t1 t2 t3 n x y tx ty loose mean mg mb dp un gd cn cs a ccd cl outer A₀ base h₀ L m s B F X N T hk hdp hun _
  walk_at "MINE restC"
  k_steps
  walk_at "MINE calm"
  refine ⟨_, _, rfl, ?_, News.get (by assumption) (by k_mem)⟩
  walk_at "MINE fresh"
theorem getseq_l : ∀ {w : World} (b d : Addr) (t1 t2 t3 : Tok) (n : Nat) (x y : Str) (tx ty : Tok),
    Does 2 w 108 [.ref b, .str x tx, .str y ty] [(b, instObj 221 d), (d, dictOf [⟨PyData.keyHash w.params "qval", .str "qval" t1, .int 1 t2⟩, ⟨PyData.keyHash w.params "external", .str "external" t3, .bool true⟩] n)] (fun _ => True)
      (fun H v h' => ∃ l k, v = .ref l ∧ H.get? l = none ∧ h'.get? l = some { cls := .type "list", data := .seq #[.str x tx, .str y ty] k }) := by
  unfold Does
  k_fill
  intro w b d t1 t2 t3 n x y tx ty loose mean mg mb dp un gd cn cs a ccd cl outer A₀ base h₀ L m s B F X N T hk hdp hun _
  walk_at "MINE restC"
  k_steps
  walk_at "MINE calm"
  refine ⟨_, _, rfl, ?_, News.get (by assumption) (by k_mem)⟩
  walk_at "MINE fresh"
end Mine
end
section
open PySem PySem.W PyProof.Rows PySem.Calls
set_option maxRecDepth 100000
set_option maxHeartbeats 8000000
namespace Mine
theorem reset_C2 : ∃ x : Nat, x = x := by
  w_top off
  first | (walk1; done) | exact ⟨0, rfl⟩
local macro_rules | `(tactic| walk_at "MINE rest") => `(tactic| k_dflt (refine' my_rest ?k1 ?k2 ?k3 ?k4 ?k5 ?kA ?kF ?kK ?k6 ?k7 ?k8 ?kV ?kP ?kG ?kB ?_ ?c2 ?c3 ?c4 ?c5; (case kA => exact rfl); (case kF => exact rfl); (case kK => assumption); (case k1 => k_asm); (case k2 => k_asm); (case k3 => k_asm); (case k4 => k_asm); (case k5 => k_asm); (case k6 => k_is); (case k7 => k_is); (case k8 => ktr_room); (case kV => kl_lit); (case kP => exact rfl); (case kG => exact fun _ => rfl); (case kB => exact fun _ => locs rfl); (case c5 => decide); (case c2 => exact rfl); (case c3 => exact rfl); (case c4 => exact rfl); k_whole; intro D' g' L' h' l1 FG' F' N' B' X' T' gsub' dnew'; (try k_lt l1); (try dsimp only); (try k_lift B'); (try k_fold)))
local macro_rules | `(tactic| walk_at "MINE def") => `(tactic| k_dflt (refine' code_defG ?k1 ?k2 ?k3 ?k4 ?k5 ?kA ?kF ?kK ?k6 ?k7 ?k8 ?k9 ?kB ?_ ?c2 ?c3 ?c4 ?c5; (case kA => exact rfl); (case kF => exact rfl); (case kK => assumption); (case k1 => k_asm); (case k2 => k_asm); (case k3 => k_asm); (case k4 => k_asm); (case k5 => k_asm); (case k6 => k_is); (case k7 => k_is); (case k8 => ktr_room); (case k9 => exact BindsTo.of_eq rfl); (case c5 => decide); (case kB => exact locs rfl); (case c2 => exact rfl); (case c3 => exact rfl); (case c4 => exact rfl); k_whole; intro g' L' h' FG' F' N' B' X' T' gsub'; (try dsimp only); (try k_lift B'); (try k_fold)))
local macro_rules | `(tactic| walk_at "call type:set") => `(tactic| (k_here; (with_reducible show wpAny _ _ (call (Value.type "set") [Value.ref _]) _ _ _); k_dflt (refine' set_tup_N ?k1 ?k2 ?k3 ?k4 ?k5 ?k6 ?_; (case k1 => k_asm); (case k2 => k_asm); (case k3 => exact rfl); (case k4 => k_mem); (case k5 => first | exact StrsAre.two | exact StrsAre.one); (case k6 => exact Nat.le_of_ble_eq_true rfl); k_whole; intro d' h' tk' o' F' N' so' fit'; try k_sweep)))
local macro_rules | `(tactic| walk_at "call builtin:len") => `(tactic| (k_here; (with_reducible show wpAny _ _ (call (Value.builtin "len") [Value.ref _]) _ _ _); k_dflt (refine' len_set_N ?k1 ?k2 ?k3 ?k4 ?_; (case k1 => k_asm); (case k2 => k_mem); (case k3 => assumption); (case k4 => assumption); k_whole)))
local macro_rules | `(tactic| walk_at "MINE calm") => `(tactic| (refine ⟨_, _, rfl, ?kE, ?kP⟩; (case kE => first | exact calm_rest (by assumption) (by assumption) (by assumption) (by assumption) (by assumption) (by first | exact List.forall_mem_nil _ | k_sub) | exact calm_def (by assumption) (by assumption) (by assumption) (by assumption) (by first | exact List.forall_mem_nil _ | k_sub))))
local macro_rules | `(tactic| walk_at "MINE defC") => `(tactic| k_dflt (refine' my_defC ?k1 ?k2 ?k3 ?k4 ?k5 ?kA ?kF ?kK ?k6 ?k7 ?k8 ?k9 ?kB ?kD ?_ ?c2 ?c3 ?c4; (case kA => exact rfl); (case kF => exact rfl); (case kK => assumption); (case k1 => k_asm); (case k2 => k_asm); (case k3 => k_asm); (case k4 => k_asm); (case k5 => k_asm); (case k6 => k_is); (case k7 => k_is); (case k8 => ktr_room); (case k9 => exact BindsTo.of_eq rfl); (case kB => exact rfl); (case kD => decide +kernel); (case c2 => exact rfl); (case c3 => exact rfl); (case c4 => exact rfl); k_whole; intro g' L' h' tk' cells' FG' F' N' Y' B' X' T' gsub' l1; (try k_lt l1); k_cells Y'; (try simp only [List.cons_append, List.nil_append] at N'); (try dsimp only); (try k_lift B'); (try k_fold)))
local macro_rules | `(tactic| walk_at "binaryOp FloorDiv int int") => `(tactic| (with_reducible refine floordiv_int (pow3_ne _) ?_ (Or.inl (pow3_room (by omega)))))
local macro_rules | `(tactic| walk_at "CompSrc") => `(tactic| (k_here; (rename MarkT => mkT); (try k_fmods); k_dflt (refine LCg.CompSrc.range (by rfl) (by k_asm) (by k_asm) (by assumption) (by first | decide | exact small_one (by l_bnd) (by l_bnd) (by l_bnd) (by l_bnd)) (by first | exact rangeSize_nat _ _ | rfl) (by first | exact Nat.le_of_ble_eq_true rfl | (rw [PySem.sizeLine_eq]; first | omega | ((have hb9 := len_ints_list (by lay_of)); omega)) | size_fits) ?_; intro g'; (refine' kct_range _ (fun k' t' I' oI' C' oC' D' m' ys' h' tk' E' hlo' hhi' hC' hx' F' N' off' ne' => ?_) ?_); (all_goals (try (simp only [LCg.Off3, and_true] at off'))); (all_goals (try ((show KPfMark → _); intro hMark'))); kcf_last)))
local macro_rules | `(tactic| walk_at "getAttr ref") => `(tactic| (k_here; k_dflt (refine' get_sm ?k1 ?k2 ?k3 ?k4 ?k5 ?k6 ?k7 ?k8 ?k9 ?k10 ?k11 ?k12 ?_; (case k1 => k_asm); (case k2 => k_asm); (case k3 => k_inst); (case k4 => k_is); (case k5 => k_is); (case k6 => k_is); (case k7 => k_is); (case k8 => k_is); (case k9 => decide +kernel); (case k10 => k_get); (case k11 => k_is); (case k12 => k_handed); k_whole)))
local macro_rules | `(tactic| walk_at "MINE restC") => `(tactic| k_dflt (refine' my_restC ?k1 ?k2 ?k3 ?k4 ?k5 ?kA ?kF ?kK ?k6 ?k7 ?k8 ?kV ?kP ?kG ?kB ?kD ?_ ?c2 ?c3 ?c4; (case kA => exact rfl); (case kF => exact rfl); (case kK => assumption); (case k1 => k_asm); (case k2 => k_asm); (case k3 => k_asm); (case k4 => k_asm); (case k5 => k_asm); (case k6 => k_is); (case k7 => k_is); (case k8 => ktr_room); (case kV => kl_lit); (case kP => exact rfl); (case kG => exact fun _ => rfl); (case kB => exact fun _ => rfl); (case kD => decide +kernel); (case c2 => exact rfl); (case c3 => exact rfl); (case c4 => exact rfl); k_whole; intro D' g' L' h' tk' cells' l1 FG' F' N' Y' B' X' T' gsub' dnew' dlt'; (try k_lt l1); k_cells Y'; (try simp only [List.cons_append, List.nil_append] at N'); (try dsimp only); (try k_lift B'); (try k_fold)))
local macro_rules | `(tactic| walk_at "MINE fresh") => `(tactic| (refine fresh_of (by assumption) (by assumption) (by k_mem) ?_; simp only [List.map_cons, List.map_nil, List.mem_cons, List.not_mem_nil, or_false, not_or]; (repeat' apply And.intro) <;> (first | omega | (refine neN ?_; omega))))
local macro_rules | `(tactic| walk_at "MINE use") => `(tactic| (
  (case k1 => k_asm); (case k2 => k_asm); (case k3 => k_in); (case k4 => k_asm); (case k5 => k_asm); (case k6 => first | exact rfl | assumption); (case k7 => lcg_sub); (case k8 => first | decide | ktr_room); (case k9 => first | decide | ktr_units)))
local macro_rules | `(tactic| walk_at "eval Call Attribute") => `(tactic| (k_here; (with_reducible show wpAny _ _ (eval (Expr.Call (Expr.Attribute _ _ _) [Expr.Starred _ _] [] _) _) _ _ _); refine MethodCall_star ?_))
local macro_rules | `(tactic| walk_at "callWith ref") => `(tactic| (k_here; (with_reducible show wpAny _ _ (callWith _ (Value.ref _) _ (backTo _ (starEach [Expr.Starred _ _] _)) []) _ _ _); k_dflt (refine' callWith_MS ?k1 ?k2 ?k3 ?k4 ?_; (case k1 => k_asm); (case k2 => k_asm); (case k3 => k_mem); (case k4 => k_is); k_whole)))
local macro_rules | `(tactic| walk_at "exec For Name Call cons nil") => `(tactic| (k_here; (rename MarkF => mkF); refine stop_at ?_))
local macro_rules | `(tactic| walk_at "exec For Name Name cons nil") => `(tactic| (k_here; (rename MarkF => mkF); refine stop_at ?_))
local macro_rules | `(tactic| walk_at "exec For Name Tuple cons nil") => `(tactic| (k_here; (rename MarkF => mkF); refine stop_at ?_))
local macro_rules | `(tactic| walk_at "callWith type:zip") => `(tactic| (k_here; (with_reducible show wpAny _ _ (callWith _ (Value.type _) _ (backTo _ (starEach [Expr.Starred _ _] _)) []) _ _ _); refine callWith_typeS (by rfl) ?_))
local macro_rules | `(tactic| walk_at "callWith ref") => `(tactic| (k_here; kco_any "__call__"; kco_here; (with_reducible show wpAny _ _ (callWith _ (Value.ref _) _ (backTo _ (starEach [Expr.Starred _ _] _)) []) _ _ _); k_dflt (refine' callWith_IS ?k1 ?k2 ?k3 ?k4 ?_; (case k1 => k_in); (case k2 => k_inst); (case k3 => rfl); (case k4 => k_is); k_whole)))
local macro_rules | `(tactic| walk_at "call builtin:len") => `(tactic| (k_here; (with_reducible show wpAny _ _ (call (Value.builtin "len") [Value.str _ _]) _ _ _); refine PyProof.Rows.len_str (by omega) ?_))
section
local macro_rules | `(tactic| walk_at "call ref") => `(tactic| (k_here; k_dflt (refine' does_meth (getseq_p _ _ _ _ _ _ _ _ _ _) ?k1 ?k2 ?k3 ?k4 ?k5 ?k6 ?k7 ?k8 ?k9 ?kq True.intro ?_; walk_at "MINE use"; (case kq => k_mem); k_whole; intro v9 h9 tk9 F9 N9 k9 p9; (obtain ⟨l9, j9, e9, u9, g9⟩ := p9); subst e9; (have N10 := news_add (by assumption) u9 N9 g9); clear N9; try k_sweep)))
local macro_rules | `(tactic| walk_at "call ref") => `(tactic| (k_here; k_dflt (refine' does_use (ident_c _ _ _ _) ?k1 ?k2 ?k3 ?k4 ?k5 ?k6 ?k7 ?k8 ?k9 True.intro ?_; walk_at "MINE use"; k_whole; intro v9 h9 tk9 F9 N9 k9 p9; subst p9; try k_sweep)))
theorem begin_p : ∀ {w : World} (b d : Addr) (t1 t2 t3 : Tok) (nv : Nat) (x y : Str) (tx ty : Tok), x.cps.size ≤ 1000 →
    Does 8 w 252 [.ref b, .str x tx, .str y ty] [(b, instObj 262 d), (d, dictOf [⟨PyData.keyHash w.params "qval", .str "qval" t1, .int 1 t2⟩, ⟨PyData.keyHash w.params "sim_test", .str "sim_test" t3, .ref 100⟩] nv)] (fun _ => True)
      (fun _ v _ => ∃ (z : Str) (t : Tok), v = .str z t ∧ z.length = (lcp x.cps.toList y.cps.toList).length ∧ z.length ≤ 1000) := by
  unfold Does
  k_fill
  intro w b d t1 t2 t3 nv x y tx ty hx7 loose mean mg mb dp un gd cn cs a ccd cl outer A₀ base h₀ L m s B F X N T hk hdp hun _
  have mark : MarkF := True.intro
  k_dflt (refine' my_rest ?k1 ?k2 ?k3 ?k4 ?k5 ?kA ?kF ?kK ?k6 ?k7 ?k8 ?kV ?kP ?kG ?kB ?_ ?c2 ?c3 ?c4 ?c5; (case kA => exact rfl); (case kF => exact rfl); (case kK => assumption); (case k1 => k_asm); (case k2 => k_asm); (case k3 => k_asm); (case k4 => k_asm); (case k5 => k_asm); (case k6 => k_is); (case k7 => k_is); (case k8 => ktr_room); (case kV => kl_lit); (case kP => exact rfl); (case kG => exact fun _ => rfl); (case kB => exact fun _ => locs rfl); (case c5 => decide); (case c2 => exact rfl); (case c3 => exact rfl); (case c4 => exact rfl); k_whole; intro D' g' L' h' l1 FG' F' N' B' X' T' gsub' dnew'; (try k_lt l1); (try dsimp only); (try k_lift B'); (try k_fold))
  k_steps
  unfold StopAt
  rename Fr _ _ _ _ => F1
  rename News _ _ _ _ => N1
  refine beg_loop (s := s) (x := x) (y := y) (tx := tx) (ty := ty) (by rfl) (by rfl) (by rfl) (by rfl) F1 N1 ?iter ?turn ?fin
  case iter =>
    intro Q' hQ'
    k_steps
    rename Fr _ _ _ _ => F2
    rename News _ _ _ _ => N2
    refine call_zip_strs fun hz n hn Z kz => ?_
    have hL := F2.ns.lt
    subst hn
    exact hQ' hz _ _ hL (Heap.lt_size (N2 _ List.mem_cons_self).1) (fun p hp => Heap.lt_size (N2 p (List.mem_cons_of_mem _ hp)).1) (Nat.le_trans F2.above (Nat.le_of_lt hL)) Z (F2.keeps kz) (N2.grown kz)
  case turn =>
    intro i c d T t u ch vs k n zl u0 h tk ex ey hcar hcl hix hiy hj F2 N2 hzl hln hrn hnT hZ
    have hoff := off_of hln hzl
    clear F1 N1 hrn
    simp only [List.cons_append, List.nil_append] at N2
    try k_fold
    k_steps
    · dsimp only
      rename Fr _ _ _ _ => F3
      rename News _ _ _ _ => N3
      exact begJ_next (T := T) F3 (fun z => by by_cases e : z = Str.ofString "c" <;> simp [e]) N3 hzl hZ hcar hcl hix hiy hj ex ey (by assumption)
    · dsimp only
      rename Fr _ _ _ _ => F3
      rename News _ _ _ _ => N3
      exact begP_brk (T := T) F3 (fun z => by by_cases e : z = Str.ofString "c" <;> simp [e]) N3 hcar hcl hix hiy hj ex ey (by assumption)
  case fin =>
    clear F1 N1
    rintro s' ⟨h2, tk2, u2, vs, k, ch, rfl, F2, N2, hcar, hcl, hcx⟩
    dsimp only
    try k_fold
    k_steps
    walk_at "MINE calm"
    exact ⟨_, _, rfl, Eq.trans (by assumption) hcl, by omega⟩
end
end Mine
end
section
open PySem PySem.W PyProof.Rows PySem.Calls
set_option maxRecDepth 100000
set_option maxHeartbeats 8000000
namespace Mine
theorem reset_C3 : ∃ x : Nat, x = x := by
  w_top off
  first | (walk1; done) | exact ⟨0, rfl⟩
local macro_rules | `(tactic| walk_at "MINE rest") => `(tactic| k_dflt (refine' my_rest ?k1 ?k2 ?k3 ?k4 ?k5 ?kA ?kF ?kK ?k6 ?k7 ?k8 ?kV ?kP ?kG ?kB ?_ ?c2 ?c3 ?c4 ?c5; (case kA => exact rfl); (case kF => exact rfl); (case kK => assumption); (case k1 => k_asm); (case k2 => k_asm); (case k3 => k_asm); (case k4 => k_asm); (case k5 => k_asm); (case k6 => k_is); (case k7 => k_is); (case k8 => ktr_room); (case kV => kl_lit); (case kP => exact rfl); (case kG => exact fun _ => rfl); (case kB => exact fun _ => locs rfl); (case c5 => decide); (case c2 => exact rfl); (case c3 => exact rfl); (case c4 => exact rfl); k_whole; intro D' g' L' h' l1 FG' F' N' B' X' T' gsub' dnew'; (try k_lt l1); (try dsimp only); (try k_lift B'); (try k_fold)))
local macro_rules | `(tactic| walk_at "MINE def") => `(tactic| k_dflt (refine' code_defG ?k1 ?k2 ?k3 ?k4 ?k5 ?kA ?kF ?kK ?k6 ?k7 ?k8 ?k9 ?kB ?_ ?c2 ?c3 ?c4 ?c5; (case kA => exact rfl); (case kF => exact rfl); (case kK => assumption); (case k1 => k_asm); (case k2 => k_asm); (case k3 => k_asm); (case k4 => k_asm); (case k5 => k_asm); (case k6 => k_is); (case k7 => k_is); (case k8 => ktr_room); (case k9 => exact BindsTo.of_eq rfl); (case c5 => decide); (case kB => exact locs rfl); (case c2 => exact rfl); (case c3 => exact rfl); (case c4 => exact rfl); k_whole; intro g' L' h' FG' F' N' B' X' T' gsub'; (try dsimp only); (try k_lift B'); (try k_fold)))
local macro_rules | `(tactic| walk_at "call type:set") => `(tactic| (k_here; (with_reducible show wpAny _ _ (call (Value.type "set") [Value.ref _]) _ _ _); k_dflt (refine' set_tup_N ?k1 ?k2 ?k3 ?k4 ?k5 ?k6 ?_; (case k1 => k_asm); (case k2 => k_asm); (case k3 => exact rfl); (case k4 => k_mem); (case k5 => first | exact StrsAre.two | exact StrsAre.one); (case k6 => exact Nat.le_of_ble_eq_true rfl); k_whole; intro d' h' tk' o' F' N' so' fit'; try k_sweep)))
local macro_rules | `(tactic| walk_at "call builtin:len") => `(tactic| (k_here; (with_reducible show wpAny _ _ (call (Value.builtin "len") [Value.ref _]) _ _ _); k_dflt (refine' len_set_N ?k1 ?k2 ?k3 ?k4 ?_; (case k1 => k_asm); (case k2 => k_mem); (case k3 => assumption); (case k4 => assumption); k_whole)))
local macro_rules | `(tactic| walk_at "MINE calm") => `(tactic| (refine ⟨_, _, rfl, ?kE, ?kP⟩; (case kE => first | exact calm_rest (by assumption) (by assumption) (by assumption) (by assumption) (by assumption) (by first | exact List.forall_mem_nil _ | k_sub) | exact calm_def (by assumption) (by assumption) (by assumption) (by assumption) (by first | exact List.forall_mem_nil _ | k_sub))))
local macro_rules | `(tactic| walk_at "MINE defC") => `(tactic| k_dflt (refine' my_defC ?k1 ?k2 ?k3 ?k4 ?k5 ?kA ?kF ?kK ?k6 ?k7 ?k8 ?k9 ?kB ?kD ?_ ?c2 ?c3 ?c4; (case kA => exact rfl); (case kF => exact rfl); (case kK => assumption); (case k1 => k_asm); (case k2 => k_asm); (case k3 => k_asm); (case k4 => k_asm); (case k5 => k_asm); (case k6 => k_is); (case k7 => k_is); (case k8 => ktr_room); (case k9 => exact BindsTo.of_eq rfl); (case kB => exact rfl); (case kD => decide +kernel); (case c2 => exact rfl); (case c3 => exact rfl); (case c4 => exact rfl); k_whole; intro g' L' h' tk' cells' FG' F' N' Y' B' X' T' gsub' l1; (try k_lt l1); k_cells Y'; (try simp only [List.cons_append, List.nil_append] at N'); (try dsimp only); (try k_lift B'); (try k_fold)))
local macro_rules | `(tactic| walk_at "binaryOp FloorDiv int int") => `(tactic| (with_reducible refine floordiv_int (pow3_ne _) ?_ (Or.inl (pow3_room (by omega)))))
local macro_rules | `(tactic| walk_at "CompSrc") => `(tactic| (k_here; (rename MarkT => mkT); (try k_fmods); k_dflt (refine LCg.CompSrc.range (by rfl) (by k_asm) (by k_asm) (by assumption) (by first | decide | exact small_one (by l_bnd) (by l_bnd) (by l_bnd) (by l_bnd)) (by first | exact rangeSize_nat _ _ | rfl) (by first | exact Nat.le_of_ble_eq_true rfl | (rw [PySem.sizeLine_eq]; first | omega | ((have hb9 := len_ints_list (by lay_of)); omega)) | size_fits) ?_; intro g'; (refine' kct_range _ (fun k' t' I' oI' C' oC' D' m' ys' h' tk' E' hlo' hhi' hC' hx' F' N' off' ne' => ?_) ?_); (all_goals (try (simp only [LCg.Off3, and_true] at off'))); (all_goals (try ((show KPfMark → _); intro hMark'))); kcf_last)))
local macro_rules | `(tactic| walk_at "getAttr ref") => `(tactic| (k_here; k_dflt (refine' get_sm ?k1 ?k2 ?k3 ?k4 ?k5 ?k6 ?k7 ?k8 ?k9 ?k10 ?k11 ?k12 ?_; (case k1 => k_asm); (case k2 => k_asm); (case k3 => k_inst); (case k4 => k_is); (case k5 => k_is); (case k6 => k_is); (case k7 => k_is); (case k8 => k_is); (case k9 => decide +kernel); (case k10 => k_get); (case k11 => k_is); (case k12 => k_handed); k_whole)))
local macro_rules | `(tactic| walk_at "MINE restC") => `(tactic| k_dflt (refine' my_restC ?k1 ?k2 ?k3 ?k4 ?k5 ?kA ?kF ?kK ?k6 ?k7 ?k8 ?kV ?kP ?kG ?kB ?kD ?_ ?c2 ?c3 ?c4; (case kA => exact rfl); (case kF => exact rfl); (case kK => assumption); (case k1 => k_asm); (case k2 => k_asm); (case k3 => k_asm); (case k4 => k_asm); (case k5 => k_asm); (case k6 => k_is); (case k7 => k_is); (case k8 => ktr_room); (case kV => kl_lit); (case kP => exact rfl); (case kG => exact fun _ => rfl); (case kB => exact fun _ => rfl); (case kD => decide +kernel); (case c2 => exact rfl); (case c3 => exact rfl); (case c4 => exact rfl); k_whole; intro D' g' L' h' tk' cells' l1 FG' F' N' Y' B' X' T' gsub' dnew' dlt'; (try k_lt l1); k_cells Y'; (try simp only [List.cons_append, List.nil_append] at N'); (try dsimp only); (try k_lift B'); (try k_fold)))
local macro_rules | `(tactic| walk_at "MINE fresh") => `(tactic| (refine fresh_of (by assumption) (by assumption) (by k_mem) ?_; simp only [List.map_cons, List.map_nil, List.mem_cons, List.not_mem_nil, or_false, not_or]; (repeat' apply And.intro) <;> (first | omega | (refine neN ?_; omega))))
local macro_rules | `(tactic| walk_at "MINE use") => `(tactic| (
  (case k1 => k_asm); (case k2 => k_asm); (case k3 => k_in); (case k4 => k_asm); (case k5 => k_asm); (case k6 => first | exact rfl | assumption); (case k7 => lcg_sub); (case k8 => first | decide | ktr_room); (case k9 => first | decide | ktr_units)))
local macro_rules | `(tactic| walk_at "eval Call Attribute") => `(tactic| (k_here; (with_reducible show wpAny _ _ (eval (Expr.Call (Expr.Attribute _ _ _) [Expr.Starred _ _] [] _) _) _ _ _); refine MethodCall_star ?_))
local macro_rules | `(tactic| walk_at "callWith ref") => `(tactic| (k_here; (with_reducible show wpAny _ _ (callWith _ (Value.ref _) _ (backTo _ (starEach [Expr.Starred _ _] _)) []) _ _ _); k_dflt (refine' callWith_MS ?k1 ?k2 ?k3 ?k4 ?_; (case k1 => k_asm); (case k2 => k_asm); (case k3 => k_mem); (case k4 => k_is); k_whole)))
local macro_rules | `(tactic| walk_at "exec For Name Call cons nil") => `(tactic| (k_here; (rename MarkF => mkF); refine stop_at ?_))
local macro_rules | `(tactic| walk_at "exec For Name Name cons nil") => `(tactic| (k_here; (rename MarkF => mkF); refine stop_at ?_))
local macro_rules | `(tactic| walk_at "exec For Name Tuple cons nil") => `(tactic| (k_here; (rename MarkF => mkF); refine stop_at ?_))
local macro_rules | `(tactic| walk_at "callWith type:zip") => `(tactic| (k_here; (with_reducible show wpAny _ _ (callWith _ (Value.type _) _ (backTo _ (starEach [Expr.Starred _ _] _)) []) _ _ _); refine callWith_typeS (by rfl) ?_))
local macro_rules | `(tactic| walk_at "callWith ref") => `(tactic| (k_here; kco_any "__call__"; kco_here; (with_reducible show wpAny _ _ (callWith _ (Value.ref _) _ (backTo _ (starEach [Expr.Starred _ _] _)) []) _ _ _); k_dflt (refine' callWith_IS ?k1 ?k2 ?k3 ?k4 ?_; (case k1 => k_in); (case k2 => k_inst); (case k3 => rfl); (case k4 => k_is); k_whole)))
local macro_rules | `(tactic| walk_at "call builtin:len") => `(tactic| (k_here; (with_reducible show wpAny _ _ (call (Value.builtin "len") [Value.str _ _]) _ _ _); refine PyProof.Rows.len_str (by omega) ?_))
local macro_rules | `(tactic| walk_at "call ref") => `(tactic| (k_here; k_dflt (refine' does_meth (begin_p _ _ _ _ _ _ _ _ _ _ (by assumption)) ?k1 ?k2 ?k3 ?k4 ?k5 ?k6 ?k7 ?k8 ?k9 ?kq True.intro ?_; walk_at "MINE use"; (case kq => k_mem); k_whole; intro v9 h9 tk9 F9 N9 k9 p9; (obtain ⟨z9, t9, e9, l9, b9⟩ := p9); subst e9; try k_sweep)))
theorem pcall_p : ∀ {w : World} (b d : Addr) (t1 t2 t3 : Tok) (nv : Nat) (x y : Str) (tx ty : Tok), x.cps.size ≤ 1000 →
    Does 12 w 245 [.ref b, .str x tx, .str y ty] [(b, instObj 262 d), (d, dictOf [⟨PyData.keyHash w.params "qval", .str "qval" t1, .int 1 t2⟩, ⟨PyData.keyHash w.params "sim_test", .str "sim_test" t3, .ref 100⟩] nv)] (fun _ => True)
      (fun _ v _ => ∃ (z : Str) (t : Tok), v = .str z t ∧ z.length = (lcp x.cps.toList y.cps.toList).length ∧ z.length ≤ 1000) := by
  unfold Does
  k_fill
  intro w b d t1 t2 t3 nv x y tx ty hx7 loose mean mg mb dp un gd cn cs a ccd cl outer A₀ base h₀ L m s B F X N T hk hdp hun _
  k_dflt (refine' my_rest ?k1 ?k2 ?k3 ?k4 ?k5 ?kA ?kF ?kK ?k6 ?k7 ?k8 ?kV ?kP ?kG ?kB ?_ ?c2 ?c3 ?c4 ?c5; (case kA => exact rfl); (case kF => exact rfl); (case kK => assumption); (case k1 => k_asm); (case k2 => k_asm); (case k3 => k_asm); (case k4 => k_asm); (case k5 => k_asm); (case k6 => k_is); (case k7 => k_is); (case k8 => ktr_room); (case kV => kl_lit); (case kP => exact rfl); (case kG => exact fun _ => rfl); (case kB => exact fun _ => locs rfl); (case c5 => decide); (case c2 => exact rfl); (case c3 => exact rfl); (case c4 => exact rfl); k_whole; intro D' g' L' h' l1 FG' F' N' B' X' T' gsub' dnew'; (try k_lt l1); (try dsimp only); (try k_lift B'); (try k_fold))
  k_steps
  walk_at "MINE calm"
  exact ⟨_, _, rfl, by assumption, by assumption⟩
local macro_rules | `(tactic| walk_at "call ref") => `(tactic| (k_here; k_dflt (refine' does_inst (pcall_p _ _ _ _ _ _ _ _ _ _ (by assumption)) ?k1 ?k2 ?k3 ?k4 ?k5 ?k6 ?k7 ?k8 ?k9 ?ki ?kp ?ks ?kf ?kn True.intro ?_; walk_at "MINE use"; (case ki => k_inst); (case kp => rfl); (case ks => k_is); (case kf => k_is); (case kn => k_is); k_whole; intro v9 h9 tk9 F9 N9 k9 p9; (obtain ⟨z9, t9, e9, l9, b9⟩ := p9); subst e9; try k_sweep)))
theorem psim_p : ∀ {w : World} (b d : Addr) (t1 t2 t3 : Tok) (nv : Nat) (x y : Str) (tx ty : Tok), x.cps.size ≤ 1000 →
    Does 16 w 259 [.ref b, .str x tx, .str y ty] [(b, instObj 262 d), (d, dictOf [⟨PyData.keyHash w.params "qval", .str "qval" t1, .int 1 t2⟩, ⟨PyData.keyHash w.params "sim_test", .str "sim_test" t3, .ref 100⟩] nv)] (fun _ => True)
      (fun _ v _ => ∃ (t : Tok), v = .int (lcp x.cps.toList y.cps.toList).length t) := by
  unfold Does
  k_fill
  intro w b d t1 t2 t3 nv x y tx ty hx7 loose mean mg mb dp un gd cn cs a ccd cl outer A₀ base h₀ L m s B F X N T hk hdp hun _
  k_dflt (refine' my_rest ?k1 ?k2 ?k3 ?k4 ?k5 ?kA ?kF ?kK ?k6 ?k7 ?k8 ?kV ?kP ?kG ?kB ?_ ?c2 ?c3 ?c4 ?c5; (case kA => exact rfl); (case kF => exact rfl); (case kK => assumption); (case k1 => k_asm); (case k2 => k_asm); (case k3 => k_asm); (case k4 => k_asm); (case k5 => k_asm); (case k6 => k_is); (case k7 => k_is); (case k8 => ktr_room); (case kV => kl_lit); (case kP => exact rfl); (case kG => exact fun _ => rfl); (case kB => exact fun _ => locs rfl); (case c5 => decide); (case c2 => exact rfl); (case c3 => exact rfl); (case c4 => exact rfl); k_whole; intro D' g' L' h' l1 FG' F' N' B' X' T' gsub' dnew'; (try k_lt l1); (try dsimp only); (try k_lift B'); (try k_fold))
  k_steps
  walk_at "MINE calm"
  rename (_ = (lcp _ _).length) => hl
  exact ⟨_, by rw [hl]⟩
end Mine
end
section
open PySem PySem.W PyProof.Rows PySem.Calls
set_option maxRecDepth 100000
set_option maxHeartbeats 8000000
namespace Mine
theorem reset_C4 : ∃ x : Nat, x = x := by
  w_top off
  first | (walk1; done) | exact ⟨0, rfl⟩
local macro_rules | `(tactic| walk_at "MINE rest") => `(tactic| k_dflt (refine' my_rest ?k1 ?k2 ?k3 ?k4 ?k5 ?kA ?kF ?kK ?k6 ?k7 ?k8 ?kV ?kP ?kG ?kB ?_ ?c2 ?c3 ?c4 ?c5; (case kA => exact rfl); (case kF => exact rfl); (case kK => assumption); (case k1 => k_asm); (case k2 => k_asm); (case k3 => k_asm); (case k4 => k_asm); (case k5 => k_asm); (case k6 => k_is); (case k7 => k_is); (case k8 => ktr_room); (case kV => kl_lit); (case kP => exact rfl); (case kG => exact fun _ => rfl); (case kB => exact fun _ => locs rfl); (case c5 => decide); (case c2 => exact rfl); (case c3 => exact rfl); (case c4 => exact rfl); k_whole; intro D' g' L' h' l1 FG' F' N' B' X' T' gsub' dnew'; (try k_lt l1); (try dsimp only); (try k_lift B'); (try k_fold)))
local macro_rules | `(tactic| walk_at "MINE def") => `(tactic| k_dflt (refine' code_defG ?k1 ?k2 ?k3 ?k4 ?k5 ?kA ?kF ?kK ?k6 ?k7 ?k8 ?k9 ?kB ?_ ?c2 ?c3 ?c4 ?c5; (case kA => exact rfl); (case kF => exact rfl); (case kK => assumption); (case k1 => k_asm); (case k2 => k_asm); (case k3 => k_asm); (case k4 => k_asm); (case k5 => k_asm); (case k6 => k_is); (case k7 => k_is); (case k8 => ktr_room); (case k9 => exact BindsTo.of_eq rfl); (case c5 => decide); (case kB => exact locs rfl); (case c2 => exact rfl); (case c3 => exact rfl); (case c4 => exact rfl); k_whole; intro g' L' h' FG' F' N' B' X' T' gsub'; (try dsimp only); (try k_lift B'); (try k_fold)))
local macro_rules | `(tactic| walk_at "call type:set") => `(tactic| (k_here; (with_reducible show wpAny _ _ (call (Value.type "set") [Value.ref _]) _ _ _); k_dflt (refine' set_tup_N ?k1 ?k2 ?k3 ?k4 ?k5 ?k6 ?_; (case k1 => k_asm); (case k2 => k_asm); (case k3 => exact rfl); (case k4 => k_mem); (case k5 => first | exact StrsAre.two | exact StrsAre.one); (case k6 => exact Nat.le_of_ble_eq_true rfl); k_whole; intro d' h' tk' o' F' N' so' fit'; try k_sweep)))
local macro_rules | `(tactic| walk_at "call builtin:len") => `(tactic| (k_here; (with_reducible show wpAny _ _ (call (Value.builtin "len") [Value.ref _]) _ _ _); k_dflt (refine' len_set_N ?k1 ?k2 ?k3 ?k4 ?_; (case k1 => k_asm); (case k2 => k_mem); (case k3 => assumption); (case k4 => assumption); k_whole)))
local macro_rules | `(tactic| walk_at "MINE calm") => `(tactic| (refine ⟨_, _, rfl, ?kE, ?kP⟩; (case kE => first | exact calm_rest (by assumption) (by assumption) (by assumption) (by assumption) (by assumption) (by first | exact List.forall_mem_nil _ | k_sub) | exact calm_def (by assumption) (by assumption) (by assumption) (by assumption) (by first | exact List.forall_mem_nil _ | k_sub))))
local macro_rules | `(tactic| walk_at "MINE defC") => `(tactic| k_dflt (refine' my_defC ?k1 ?k2 ?k3 ?k4 ?k5 ?kA ?kF ?kK ?k6 ?k7 ?k8 ?k9 ?kB ?kD ?_ ?c2 ?c3 ?c4; (case kA => exact rfl); (case kF => exact rfl); (case kK => assumption); (case k1 => k_asm); (case k2 => k_asm); (case k3 => k_asm); (case k4 => k_asm); (case k5 => k_asm); (case k6 => k_is); (case k7 => k_is); (case k8 => ktr_room); (case k9 => exact BindsTo.of_eq rfl); (case kB => exact rfl); (case kD => decide +kernel); (case c2 => exact rfl); (case c3 => exact rfl); (case c4 => exact rfl); k_whole; intro g' L' h' tk' cells' FG' F' N' Y' B' X' T' gsub' l1; (try k_lt l1); k_cells Y'; (try simp only [List.cons_append, List.nil_append] at N'); (try dsimp only); (try k_lift B'); (try k_fold)))
local macro_rules | `(tactic| walk_at "binaryOp FloorDiv int int") => `(tactic| (with_reducible refine floordiv_int (pow3_ne _) ?_ (Or.inl (pow3_room (by omega)))))
local macro_rules | `(tactic| walk_at "CompSrc") => `(tactic| (k_here; (rename MarkT => mkT); (try k_fmods); k_dflt (refine LCg.CompSrc.range (by rfl) (by k_asm) (by k_asm) (by assumption) (by first | decide | exact small_one (by l_bnd) (by l_bnd) (by l_bnd) (by l_bnd)) (by first | exact rangeSize_nat _ _ | rfl) (by first | exact Nat.le_of_ble_eq_true rfl | (rw [PySem.sizeLine_eq]; first | omega | ((have hb9 := len_ints_list (by lay_of)); omega)) | size_fits) ?_; intro g'; (refine' kct_range _ (fun k' t' I' oI' C' oC' D' m' ys' h' tk' E' hlo' hhi' hC' hx' F' N' off' ne' => ?_) ?_); (all_goals (try (simp only [LCg.Off3, and_true] at off'))); (all_goals (try ((show KPfMark → _); intro hMark'))); kcf_last)))
local macro_rules | `(tactic| walk_at "getAttr ref") => `(tactic| (k_here; k_dflt (refine' get_sm ?k1 ?k2 ?k3 ?k4 ?k5 ?k6 ?k7 ?k8 ?k9 ?k10 ?k11 ?k12 ?_; (case k1 => k_asm); (case k2 => k_asm); (case k3 => k_inst); (case k4 => k_is); (case k5 => k_is); (case k6 => k_is); (case k7 => k_is); (case k8 => k_is); (case k9 => decide +kernel); (case k10 => k_get); (case k11 => k_is); (case k12 => k_handed); k_whole)))
local macro_rules | `(tactic| walk_at "MINE restC") => `(tactic| k_dflt (refine' my_restC ?k1 ?k2 ?k3 ?k4 ?k5 ?kA ?kF ?kK ?k6 ?k7 ?k8 ?kV ?kP ?kG ?kB ?kD ?_ ?c2 ?c3 ?c4; (case kA => exact rfl); (case kF => exact rfl); (case kK => assumption); (case k1 => k_asm); (case k2 => k_asm); (case k3 => k_asm); (case k4 => k_asm); (case k5 => k_asm); (case k6 => k_is); (case k7 => k_is); (case k8 => ktr_room); (case kV => kl_lit); (case kP => exact rfl); (case kG => exact fun _ => rfl); (case kB => exact fun _ => rfl); (case kD => decide +kernel); (case c2 => exact rfl); (case c3 => exact rfl); (case c4 => exact rfl); k_whole; intro D' g' L' h' tk' cells' l1 FG' F' N' Y' B' X' T' gsub' dnew' dlt'; (try k_lt l1); k_cells Y'; (try simp only [List.cons_append, List.nil_append] at N'); (try dsimp only); (try k_lift B'); (try k_fold)))
local macro_rules | `(tactic| walk_at "MINE fresh") => `(tactic| (refine fresh_of (by assumption) (by assumption) (by k_mem) ?_; simp only [List.map_cons, List.map_nil, List.mem_cons, List.not_mem_nil, or_false, not_or]; (repeat' apply And.intro) <;> (first | omega | (refine neN ?_; omega))))
local macro_rules | `(tactic| walk_at "MINE use") => `(tactic| (
  (case k1 => k_asm); (case k2 => k_asm); (case k3 => k_in); (case k4 => k_asm); (case k5 => k_asm); (case k6 => first | exact rfl | assumption); (case k7 => lcg_sub); (case k8 => first | decide | ktr_room); (case k9 => first | decide | ktr_units)))
local macro_rules | `(tactic| walk_at "eval Call Attribute") => `(tactic| (k_here; (with_reducible show wpAny _ _ (eval (Expr.Call (Expr.Attribute _ _ _) [Expr.Starred _ _] [] _) _) _ _ _); refine MethodCall_star ?_))
local macro_rules | `(tactic| walk_at "callWith ref") => `(tactic| (k_here; (with_reducible show wpAny _ _ (callWith _ (Value.ref _) _ (backTo _ (starEach [Expr.Starred _ _] _)) []) _ _ _); k_dflt (refine' callWith_MS ?k1 ?k2 ?k3 ?k4 ?_; (case k1 => k_asm); (case k2 => k_asm); (case k3 => k_mem); (case k4 => k_is); k_whole)))
local macro_rules | `(tactic| walk_at "exec For Name Call cons nil") => `(tactic| (k_here; (rename MarkF => mkF); refine stop_at ?_))
local macro_rules | `(tactic| walk_at "exec For Name Name cons nil") => `(tactic| (k_here; (rename MarkF => mkF); refine stop_at ?_))
local macro_rules | `(tactic| walk_at "exec For Name Tuple cons nil") => `(tactic| (k_here; (rename MarkF => mkF); refine stop_at ?_))
local macro_rules | `(tactic| walk_at "callWith type:zip") => `(tactic| (k_here; (with_reducible show wpAny _ _ (callWith _ (Value.type _) _ (backTo _ (starEach [Expr.Starred _ _] _)) []) _ _ _); refine callWith_typeS (by rfl) ?_))
local macro_rules | `(tactic| walk_at "callWith ref") => `(tactic| (k_here; kco_any "__call__"; kco_here; (with_reducible show wpAny _ _ (callWith _ (Value.ref _) _ (backTo _ (starEach [Expr.Starred _ _] _)) []) _ _ _); k_dflt (refine' callWith_IS ?k1 ?k2 ?k3 ?k4 ?_; (case k1 => k_in); (case k2 => k_inst); (case k3 => rfl); (case k4 => k_is); k_whole)))
local macro_rules | `(tactic| walk_at "call builtin:len") => `(tactic| (k_here; (with_reducible show wpAny _ _ (call (Value.builtin "len") [Value.str _ _]) _ _ _); refine PyProof.Rows.len_str (by omega) ?_))
local macro_rules | `(tactic| walk_at "exec While BoolOp cons nil") => `(tactic| (k_here; (rename MarkF => mkF); refine stop_at ?_))

def standMk (m0 : Str → Option Value) (ua ub us vp vk : Option Value) (z : Str) : Option Value :=
  if z = Str.ofString "a" then ua else if z = Str.ofString "b" then ub else if z = Str.ofString "size" then us else if z = Str.ofString "place" then vp else if z = Str.ofString "best" then vk else m0 z

theorem stand_start {g h : Heap} {L : Addr} {m : Str → Option Value} (F : Fr g L h m) (m0 : Str → Option Value) (t : Tok) (e : ∀ z, m z = standMk m0 none none none (some (.int ((0 : Nat) : Int) t)) (some (.int ((0 : Nat) : Int) t)) z) :
    Fr g L h (standMk m0 none none none (some (.int ((0 : Nat) : Int) t)) (some (.int ((0 : Nat) : Int) t))) := fr_same F e

theorem bind_tok {C : Prop} (P : Tok → Prop) {t : Tok} (h : P t) (k : ∀ t, P t → C) : C := k t h
def stBase (b : Addr) (x y : Str) (tx ty : Tok) (z : Str) : Option Value := List.lookup z [(Str.ofString "s2", Value.str y ty), (Str.ofString "s1", Value.str x tx), (Str.ofString "self", Value.ref b)]

structure SS where
  ua : Option Value
  ub : Option Value
  us : Option Value
  p : Nat
  tp : Tok
  k : Nat
  tk : Tok
def SS.mk' (m0 : Str → Option Value) (σ : SS) : Str → Option Value := standMk m0 σ.ua σ.ub σ.us (some (.int (σ.p : Int) σ.tp)) (some (.int (σ.k : Int) σ.tk))

theorem zero_cast (i : Nat) : (0 : Int) + (i : Int) = (i : Int) := by omega
local macro_rules | `(tactic| walk_at "MINE names") => `(tactic| (
  intro z;
  (by_cases h1 : z = Str.ofString "a"; · subst h1; first | rfl | (show some _ = some _; rw [zero_cast]));
  (by_cases h2 : z = Str.ofString "b"; · subst h2; rfl);
  (by_cases h3 : z = Str.ofString "size"; · subst h3; rfl);
  (by_cases h4 : z = Str.ofString "place"; · subst h4; first | rfl | (show some (Value.int (0 + _) _) = some _; rw [zero_cast]));
  (by_cases h5 : z = Str.ofString "best"; · subst h5; rfl);
  simp only [SS.mk', standMk, if_neg h1, if_neg h2, if_neg h3, if_neg h4, if_neg h5] <;> rfl))
theorem stand_p : ∀ {w : World} (b : Addr) (x y : Str) (tx ty : Tok), x.cps.size ≤ 1000 → y.cps.size ≤ 1000 →
    Does 2 w 197 [.ref b, .str x tx, .str y ty] [] (fun _ => True) (fun _ v _ => ∃ (p k : Nat) (t : Tok), v = .str ⟨((x.cps.toList.drop p).take k).toArray⟩ t ∧ Best x.cps.toList y.cps.toList (fun a b => a < x.cps.size ∧ b < y.cps.size) p k) := by
  unfold Does
  k_fill
  intro w b x y tx ty hx7 hy7 loose mean mg mb dp un gd cn cs a ccd cl outer A₀ base h₀ L m s B F X N T hk hdp hun _
  have mark : MarkF := True.intro
  have hxl : x.length ≤ 1000 := hx7
  have hyl : y.length ≤ 1000 := hy7
  k_dflt (refine' code_defG ?k1 ?k2 ?k3 ?k4 ?k5 ?kA ?kF ?kK ?k6 ?k7 ?k8 ?k9 ?kB ?_ ?c2 ?c3 ?c4 ?c5; (case kA => exact rfl); (case kF => exact rfl); (case kK => assumption); (case k1 => k_asm); (case k2 => k_asm); (case k3 => k_asm); (case k4 => k_asm); (case k5 => k_asm); (case k6 => k_is); (case k7 => k_is); (case k8 => ktr_room); (case k9 => exact BindsTo.of_eq rfl); (case c5 => decide); (case kB => exact locs rfl); (case c2 => exact rfl); (case c3 => exact rfl); (case c4 => exact rfl); k_whole; intro g' L' h' FG' F' N' B' X' T' gsub'; (try dsimp only); (try k_lift B'); (try k_fold))
  k_steps
  unfold StopAt
  rename Fr _ _ _ _ => F1
  rename News _ _ _ _ => N1
  refine bind_tok (fun t => Fr g' L' _ (standMk (stBase b x y tx ty) none none none (some (.int ((0 : Nat) : Int) t)) (some (.int ((0 : Nat) : Int) t)))) (stand_start F1 (stBase b x y tx ty) _ (fun z => by
    unfold standMk
    by_cases h5 : z = Str.ofString "best"
    · subst h5; rfl
    by_cases h4 : z = Str.ofString "place"
    · subst h4; rfl
    by_cases h1 : z = Str.ofString "a"
    · subst h1; rfl
    by_cases h2 : z = Str.ofString "b"
    · subst h2; rfl
    by_cases h3 : z = Str.ofString "size"
    · subst h3; rfl
    simp only [if_neg h1, if_neg h2, if_neg h3, if_neg h4, if_neg h5]
    rfl)) fun t0 F2 => ?_
  clear F1
  refine for_range (s := s) (g := g') (news := []) (SS.mk' (stBase b x y tx ty)) (fun i σ => Best x.cps.toList y.cps.toList (fun a b => a < i ∧ b < y.cps.size) σ.p σ.k) ⟨none, none, none, 0, t0, 0, t0⟩ 0 x.cps.size (by rfl) (by rfl) (by rfl) ?iter ?h0 ?turn ?fin
  case iter =>
    intro Q' hQ'
    k_steps
    rename IsRange _ _ _ _ _ _ _ _ => R
    rename Fr _ _ _ _ => F3
    rename News _ _ _ _ => N3
    exact hQ' _ _ _ _ _ _ _ R (by show (x.length : Int) = 0 + (x.cps.size : Int); simp [Str.length]) (small_one (by omega) (by omega) (by omega) (by omega)) F3 N3
  case h0 => exact ⟨fun a b h => absurd h.1 (Nat.not_lt_zero _), Nat.zero_le _, Nat.zero_le _, .inl ⟨rfl, rfl⟩⟩
  case turn =>
    intro i σ ti I oI h tk hi hJ F3 N3 hnI
    clear F2 N1
    try k_fold
    k_steps
    unfold StopAt
    rename Fr _ _ _ _ => F4
    rename News _ _ _ _ => N4
    refine for_range (s := s) (g := g') (news := [(I, oI)]) (fun (σ' : SS) z => if z = Str.ofString "a" then some (.int (0 + (i : Int)) ti) else SS.mk' (stBase b x y tx ty) σ' z) (fun j σ => Best x.cps.toList y.cps.toList (fun a b => (a < i ∧ b < y.cps.size) ∨ (a = i ∧ b < j)) σ.p σ.k) σ 0 y.cps.size (by rfl) (by rfl) (by rfl) ?iter2 ?h02 ?turn2 ?fin2
    case iter2 =>
      intro Q' hQ'
      (try clear F3 N3)
      k_steps
      rename IsRange _ _ _ _ _ _ _ _ => R
      rename Fr _ _ _ _ => F5
      rename News _ _ _ _ => N5
      exact hQ' _ _ _ _ _ _ _ R (by show (y.length : Int) = 0 + (y.cps.size : Int); simp [Str.length]) (small_one (by omega) (by omega) (by omega) (by omega)) F5 N5
    case h02 => exact ⟨fun a b h => hJ.1 a b (by rcases h with h | h; exact h; omega), hJ.2⟩
    case turn2 =>
      intro j σ tj J oJ h tk hj hJ2 F5 N5 hnJ
      (try clear F4 N4)
      try k_fold
      k_steps
      unfold StopAt
      rename Fr _ _ _ _ => F6
      rename News _ _ _ _ => N6
      refine bind_tok (fun t => Fr g' L' _ (standMk (stBase b x y tx ty) (some (.int (0 + (i : Int)) ti)) (some (.int (0 + (j : Int)) tj)) (some (.int ((0 : Nat) : Int) t)) (some (.int (σ.p : Int) σ.tp)) (some (.int (σ.k : Int) σ.tk)))) (fr_same F6 (fun z => by
        unfold standMk
        by_cases h1 : z = Str.ofString "a"
        · subst h1; rfl
        by_cases h2 : z = Str.ofString "b"
        · subst h2; rfl
        by_cases h3 : z = Str.ofString "size"
        · subst h3; rfl
        by_cases h4 : z = Str.ofString "place"
        · subst h4; rfl
        by_cases h5 : z = Str.ofString "best"
        · subst h5; rfl
        simp only [SS.mk', standMk, if_neg h1, if_neg h2, if_neg h3, if_neg h4, if_neg h5])) fun t0 F7 => ?_
      clear F6
      refine my_While (s := s) (g := g') (led := [(J, oJ), (I, oI)]) (fun (σ' : Nat × Tok) => standMk (stBase b x y tx ty) (some (.int (0 + (i : Int)) ti)) (some (.int (0 + (j : Int)) tj)) (some (.int (σ'.1 : Int) σ'.2)) (some (.int (σ.p : Int) σ.tp)) (some (.int (σ.k : Int) σ.tk))) (fun σ' => RunJ x y i j σ'.1) (fun σ' => x.cps.size + 1 - σ'.1) (0, t0) rfl F7 N6 ⟨fun c h => absurd h (Nat.not_lt_zero _), by show i + 0 ≤ _; omega, by show j + 0 ≤ _; omega⟩ ?wturn
      case wturn =>
        intro σ' h tk hW F8 N8
        clear F7 N6
        try k_fold
        k_steps
        all_goals (try dsimp only)
        · rename Fr _ _ _ _ => F9
          rename News _ _ _ _ => N9
          exact turn_end (σ'.1 + 1, _) F9 (by walk_at "MINE names") N9 (fun _ h => h) ⟨run_step (by assumption) (by assumption) (by assumption) hW, by have := hW.2.1; dsimp only; omega⟩
        · rename Fr _ _ _ _ => F9
          rename News _ _ _ _ => N9
          exact turn_end ⟨none, some (.int (0 + (j : Int)) tj), some (.int (σ'.1 : Int) σ'.2), i, ti, σ'.1, _⟩ F9 (by walk_at "MINE names") N9 (by k_sub) (best_take hJ2 (by simpa using hi) (by simpa using hj) (run_end3 (by assumption) (by assumption) (by assumption) hW) (by assumption))
        · rename Fr _ _ _ _ => F9
          rename News _ _ _ _ => N9
          exact turn_end ⟨none, some (.int (0 + (j : Int)) tj), some (.int (σ'.1 : Int) σ'.2), σ.p, σ.tp, σ.k, σ.tk⟩ F9 (by walk_at "MINE names") N9 (by k_sub) (best_skip hJ2 (run_end3 (by assumption) (by assumption) (by assumption) hW) (by assumption))
        · rename Fr _ _ _ _ => F9
          rename News _ _ _ _ => N9
          exact turn_end ⟨none, some (.int (0 + (j : Int)) tj), some (.int (σ'.1 : Int) σ'.2), i, ti, σ'.1, _⟩ F9 (by walk_at "MINE names") N9 (by k_sub) (best_take hJ2 (by simpa using hi) (by simpa using hj) (run_end2 (by assumption) hW) (by assumption))
        · rename Fr _ _ _ _ => F9
          rename News _ _ _ _ => N9
          exact turn_end ⟨none, some (.int (0 + (j : Int)) tj), some (.int (σ'.1 : Int) σ'.2), σ.p, σ.tp, σ.k, σ.tk⟩ F9 (by walk_at "MINE names") N9 (by k_sub) (best_skip hJ2 (run_end2 (by assumption) hW) (by assumption))
        · rename Fr _ _ _ _ => F9
          rename News _ _ _ _ => N9
          exact turn_end ⟨none, some (.int (0 + (j : Int)) tj), some (.int (σ'.1 : Int) σ'.2), i, ti, σ'.1, _⟩ F9 (by walk_at "MINE names") N9 (by k_sub) (best_take hJ2 (by simpa using hi) (by simpa using hj) (run_end1 (by assumption) hW) (by assumption))
        · rename Fr _ _ _ _ => F9
          rename News _ _ _ _ => N9
          exact turn_end ⟨none, some (.int (0 + (j : Int)) tj), some (.int (σ'.1 : Int) σ'.2), σ.p, σ.tp, σ.k, σ.tk⟩ F9 (by walk_at "MINE names") N9 (by k_sub) (best_skip hJ2 (run_end1 (by assumption) hW) (by assumption))
    case fin2 =>
      intro σ h tk hJ2 F5 N5
      (try clear F4 N4)
      refine wpAny_execs_nil ?_
      show TurnEnd _ _ _ _ _ _ _
      exact turn_end { σ with ua := some (.int (0 + (i : Int)) ti) } F5 (by walk_at "MINE names") N5 (fun _ h => h) ⟨fun a b h => hJ2.1 a b (by simp at h hi ⊢; omega), hJ2.2⟩
  case fin =>
    intro σ h tk hJ F3 N3
    clear F2 N1
    dsimp only
    try k_fold
    k_steps
    walk_at "MINE calm"
    exact ⟨σ.p, σ.k, _, by rw [best_slice hJ], hJ⟩
end Mine
end
section
open PySem PySem.W PyProof.Rows PySem.Calls
set_option maxRecDepth 100000
set_option maxHeartbeats 8000000
namespace Mine
theorem reset_C5 : ∃ x : Nat, x = x := by
  w_top off
  first | (walk1; done) | exact ⟨0, rfl⟩
local macro_rules | `(tactic| walk_at "MINE rest") => `(tactic| k_dflt (refine' my_rest ?k1 ?k2 ?k3 ?k4 ?k5 ?kA ?kF ?kK ?k6 ?k7 ?k8 ?kV ?kP ?kG ?kB ?_ ?c2 ?c3 ?c4 ?c5; (case kA => exact rfl); (case kF => exact rfl); (case kK => assumption); (case k1 => k_asm); (case k2 => k_asm); (case k3 => k_asm); (case k4 => k_asm); (case k5 => k_asm); (case k6 => k_is); (case k7 => k_is); (case k8 => ktr_room); (case kV => kl_lit); (case kP => exact rfl); (case kG => exact fun _ => rfl); (case kB => exact fun _ => locs rfl); (case c5 => decide); (case c2 => exact rfl); (case c3 => exact rfl); (case c4 => exact rfl); k_whole; intro D' g' L' h' l1 FG' F' N' B' X' T' gsub' dnew'; (try k_lt l1); (try dsimp only); (try k_lift B'); (try k_fold)))
local macro_rules | `(tactic| walk_at "MINE def") => `(tactic| k_dflt (refine' code_defG ?k1 ?k2 ?k3 ?k4 ?k5 ?kA ?kF ?kK ?k6 ?k7 ?k8 ?k9 ?kB ?_ ?c2 ?c3 ?c4 ?c5; (case kA => exact rfl); (case kF => exact rfl); (case kK => assumption); (case k1 => k_asm); (case k2 => k_asm); (case k3 => k_asm); (case k4 => k_asm); (case k5 => k_asm); (case k6 => k_is); (case k7 => k_is); (case k8 => ktr_room); (case k9 => exact BindsTo.of_eq rfl); (case c5 => decide); (case kB => exact locs rfl); (case c2 => exact rfl); (case c3 => exact rfl); (case c4 => exact rfl); k_whole; intro g' L' h' FG' F' N' B' X' T' gsub'; (try dsimp only); (try k_lift B'); (try k_fold)))
local macro_rules | `(tactic| walk_at "call type:set") => `(tactic| (k_here; (with_reducible show wpAny _ _ (call (Value.type "set") [Value.ref _]) _ _ _); k_dflt (refine' set_tup_N ?k1 ?k2 ?k3 ?k4 ?k5 ?k6 ?_; (case k1 => k_asm); (case k2 => k_asm); (case k3 => exact rfl); (case k4 => k_mem); (case k5 => first | exact StrsAre.two | exact StrsAre.one); (case k6 => exact Nat.le_of_ble_eq_true rfl); k_whole; intro d' h' tk' o' F' N' so' fit'; try k_sweep)))
local macro_rules | `(tactic| walk_at "call builtin:len") => `(tactic| (k_here; (with_reducible show wpAny _ _ (call (Value.builtin "len") [Value.ref _]) _ _ _); k_dflt (refine' len_set_N ?k1 ?k2 ?k3 ?k4 ?_; (case k1 => k_asm); (case k2 => k_mem); (case k3 => assumption); (case k4 => assumption); k_whole)))
local macro_rules | `(tactic| walk_at "MINE calm") => `(tactic| (refine ⟨_, _, rfl, ?kE, ?kP⟩; (case kE => first | exact calm_rest (by assumption) (by assumption) (by assumption) (by assumption) (by assumption) (by first | exact List.forall_mem_nil _ | k_sub) | exact calm_def (by assumption) (by assumption) (by assumption) (by assumption) (by first | exact List.forall_mem_nil _ | k_sub))))
local macro_rules | `(tactic| walk_at "MINE defC") => `(tactic| k_dflt (refine' my_defC ?k1 ?k2 ?k3 ?k4 ?k5 ?kA ?kF ?kK ?k6 ?k7 ?k8 ?k9 ?kB ?kD ?_ ?c2 ?c3 ?c4; (case kA => exact rfl); (case kF => exact rfl); (case kK => assumption); (case k1 => k_asm); (case k2 => k_asm); (case k3 => k_asm); (case k4 => k_asm); (case k5 => k_asm); (case k6 => k_is); (case k7 => k_is); (case k8 => ktr_room); (case k9 => exact BindsTo.of_eq rfl); (case kB => exact rfl); (case kD => decide +kernel); (case c2 => exact rfl); (case c3 => exact rfl); (case c4 => exact rfl); k_whole; intro g' L' h' tk' cells' FG' F' N' Y' B' X' T' gsub' l1; (try k_lt l1); k_cells Y'; (try simp only [List.cons_append, List.nil_append] at N'); (try dsimp only); (try k_lift B'); (try k_fold)))
local macro_rules | `(tactic| walk_at "binaryOp FloorDiv int int") => `(tactic| (with_reducible refine floordiv_int (pow3_ne _) ?_ (Or.inl (pow3_room (by omega)))))
local macro_rules | `(tactic| walk_at "CompSrc") => `(tactic| (k_here; (rename MarkT => mkT); (try k_fmods); k_dflt (refine LCg.CompSrc.range (by rfl) (by k_asm) (by k_asm) (by assumption) (by first | decide | exact small_one (by l_bnd) (by l_bnd) (by l_bnd) (by l_bnd)) (by first | exact rangeSize_nat _ _ | rfl) (by first | exact Nat.le_of_ble_eq_true rfl | (rw [PySem.sizeLine_eq]; first | omega | ((have hb9 := len_ints_list (by lay_of)); omega)) | size_fits) ?_; intro g'; (refine' kct_range _ (fun k' t' I' oI' C' oC' D' m' ys' h' tk' E' hlo' hhi' hC' hx' F' N' off' ne' => ?_) ?_); (all_goals (try (simp only [LCg.Off3, and_true] at off'))); (all_goals (try ((show KPfMark → _); intro hMark'))); kcf_last)))
local macro_rules | `(tactic| walk_at "getAttr ref") => `(tactic| (k_here; k_dflt (refine' get_sm ?k1 ?k2 ?k3 ?k4 ?k5 ?k6 ?k7 ?k8 ?k9 ?k10 ?k11 ?k12 ?_; (case k1 => k_asm); (case k2 => k_asm); (case k3 => k_inst); (case k4 => k_is); (case k5 => k_is); (case k6 => k_is); (case k7 => k_is); (case k8 => k_is); (case k9 => decide +kernel); (case k10 => k_get); (case k11 => k_is); (case k12 => k_handed); k_whole)))
local macro_rules | `(tactic| walk_at "MINE restC") => `(tactic| k_dflt (refine' my_restC ?k1 ?k2 ?k3 ?k4 ?k5 ?kA ?kF ?kK ?k6 ?k7 ?k8 ?kV ?kP ?kG ?kB ?kD ?_ ?c2 ?c3 ?c4; (case kA => exact rfl); (case kF => exact rfl); (case kK => assumption); (case k1 => k_asm); (case k2 => k_asm); (case k3 => k_asm); (case k4 => k_asm); (case k5 => k_asm); (case k6 => k_is); (case k7 => k_is); (case k8 => ktr_room); (case kV => kl_lit); (case kP => exact rfl); (case kG => exact fun _ => rfl); (case kB => exact fun _ => rfl); (case kD => decide +kernel); (case c2 => exact rfl); (case c3 => exact rfl); (case c4 => exact rfl); k_whole; intro D' g' L' h' tk' cells' l1 FG' F' N' Y' B' X' T' gsub' dnew' dlt'; (try k_lt l1); k_cells Y'; (try simp only [List.cons_append, List.nil_append] at N'); (try dsimp only); (try k_lift B'); (try k_fold)))
local macro_rules | `(tactic| walk_at "MINE fresh") => `(tactic| (refine fresh_of (by assumption) (by assumption) (by k_mem) ?_; simp only [List.map_cons, List.map_nil, List.mem_cons, List.not_mem_nil, or_false, not_or]; (repeat' apply And.intro) <;> (first | omega | (refine neN ?_; omega))))
local macro_rules | `(tactic| walk_at "MINE use") => `(tactic| (
  (case k1 => k_asm); (case k2 => k_asm); (case k3 => k_in); (case k4 => k_asm); (case k5 => k_asm); (case k6 => first | exact rfl | assumption); (case k7 => lcg_sub); (case k8 => first | decide | ktr_room); (case k9 => first | decide | ktr_units)))
local macro_rules | `(tactic| walk_at "eval Call Attribute") => `(tactic| (k_here; (with_reducible show wpAny _ _ (eval (Expr.Call (Expr.Attribute _ _ _) [Expr.Starred _ _] [] _) _) _ _ _); refine MethodCall_star ?_))
local macro_rules | `(tactic| walk_at "callWith ref") => `(tactic| (k_here; (with_reducible show wpAny _ _ (callWith _ (Value.ref _) _ (backTo _ (starEach [Expr.Starred _ _] _)) []) _ _ _); k_dflt (refine' callWith_MS ?k1 ?k2 ?k3 ?k4 ?_; (case k1 => k_asm); (case k2 => k_asm); (case k3 => k_mem); (case k4 => k_is); k_whole)))
local macro_rules | `(tactic| walk_at "exec For Name Call cons nil") => `(tactic| (k_here; (rename MarkF => mkF); refine stop_at ?_))
local macro_rules | `(tactic| walk_at "exec For Name Name cons nil") => `(tactic| (k_here; (rename MarkF => mkF); refine stop_at ?_))
local macro_rules | `(tactic| walk_at "exec For Name Tuple cons nil") => `(tactic| (k_here; (rename MarkF => mkF); refine stop_at ?_))
local macro_rules | `(tactic| walk_at "callWith type:zip") => `(tactic| (k_here; (with_reducible show wpAny _ _ (callWith _ (Value.type _) _ (backTo _ (starEach [Expr.Starred _ _] _)) []) _ _ _); refine callWith_typeS (by rfl) ?_))
local macro_rules | `(tactic| walk_at "callWith ref") => `(tactic| (k_here; kco_any "__call__"; kco_here; (with_reducible show wpAny _ _ (callWith _ (Value.ref _) _ (backTo _ (starEach [Expr.Starred _ _] _)) []) _ _ _); k_dflt (refine' callWith_IS ?k1 ?k2 ?k3 ?k4 ?_; (case k1 => k_in); (case k2 => k_inst); (case k3 => rfl); (case k4 => k_is); k_whole)))
local macro_rules | `(tactic| walk_at "call builtin:len") => `(tactic| (k_here; (with_reducible show wpAny _ _ (call (Value.builtin "len") [Value.str _ _]) _ _ _); refine PyProof.Rows.len_str (by omega) ?_))
theorem both {P : Str → Prop} {x y : Str} (hx : P x) (hy : P y) : ∀ z ∈ [x, y], P z := by
  intro z hz
  simp only [List.mem_cons, List.not_mem_nil, or_false] at hz
  rcases hz with rfl | rfl
  · exact hx
  · exact hy
local macro_rules | `(tactic| walk_at "call builtin:all") => `(tactic| (k_here; (with_reducible show wpAny _ _ (call (Value.builtin "all") [Value.ref _]) _ _ _); k_dflt (refine' all_strs_N ?k1 ?k2 ?k3 ?k4 ?k5 ?k6 ?_; (case k1 => k_asm); (case k2 => k_asm); (case k3 => exact rfl); (case k4 => k_mem); (case k5 => exact StrsAre.two); (case k6 => exact both (by omega) (by omega)); k_whole; intro h' tk' F' N')))
local macro_rules | `(tactic| walk_at "call type:map") => `(tactic| (k_here; k_dflt (refine' map_len_N ?k1 ?k2 ?k4 ?_; (case k1 => k_asm); (case k2 => k_asm); (case k4 => k_mem); k_whole; intro h' n' hlt' F' N')))
local macro_rules | `(tactic| walk_at "call builtin:max") => `(tactic| (k_here; k_dflt (refine' max_map_N (b := 200) ?k1 ?k2 ?k3 ?k4 ?k5 ?k6 ?k7 ?k8 ?k9 ?_; (case k1 => k_asm); (case k2 => k_asm); (case k3 => exact rfl); (case k4 => assumption); (case k5 => k_mem); (case k6 => exact StrsAre.two); (case k7 => exact both (by omega) (by omega)); (case k8 => exact both (by omega) (by omega)); (case k9 => exact Nat.succ_pos _); k_whole; intro h' tk' M' t' hM' F' N')))
local macro_rules | `(tactic| walk_at "call ref") => `(tactic| (k_here; k_dflt (refine' does_meth (getseq_l _ _ _ _ _ _ _ _ _ _) ?k1 ?k2 ?k3 ?k4 ?k5 ?k6 ?k7 ?k8 ?k9 ?kq True.intro ?_; walk_at "MINE use"; (case kq => k_mem); k_whole; intro v9 h9 tk9 F9 N9 k9 p9; (obtain ⟨l9, j9, e9, u9, g9⟩ := p9); subst e9; (have N10 := news_add (by assumption) u9 N9 g9); clear N9; try k_sweep)))
local macro_rules | `(tactic| walk_at "call ref") => `(tactic| (k_here; k_dflt (refine' does_meth (stand_p _ _ _ _ _ (by assumption) (by assumption)) ?k1 ?k2 ?k3 ?k4 ?k5 ?k6 ?k7 ?k8 ?k9 ?kq True.intro ?_; walk_at "MINE use"; (case kq => k_mem); k_whole; intro v9 h9 tk9 F9 N9 k9 p9; (obtain ⟨p9, q9, t9, e9, b9⟩ := p9); subst e9; try k_sweep)))
theorem lcs_p : ∀ {w : World} (b d : Addr) (t1 t2 t3 : Tok) (nv : Nat) (x y : Str) (tx ty : Tok), 1 ≤ x.length → x.length ≤ 100 → 1 ≤ y.length → y.length ≤ 100 →
    Does 8 w 211 [.ref b, .str x tx, .str y ty] [(b, instObj 221 d), (d, dictOf [⟨PyData.keyHash w.params "qval", .str "qval" t1, .int 1 t2⟩, ⟨PyData.keyHash w.params "external", .str "external" t3, .bool true⟩] nv)] (fun _ => True)
      (fun _ v _ => ∃ (p k : Nat) (t : Tok), v = .str ⟨((x.cps.toList.drop p).take k).toArray⟩ t ∧ Best x.cps.toList y.cps.toList (fun a b => a < x.cps.size ∧ b < y.cps.size) p k) := by
  unfold Does
  k_fill
  intro w b d t1 t2 t3 nv x y tx ty hx1 hx7 hy1 hy7 loose mean mg mb dp un gd cn cs a ccd cl outer A₀ base h₀ L m s B F X N T hk hdp hun _
  have hxs : x.cps.size ≤ 1000 := by have : x.length = x.cps.size := rfl; omega
  have hys : y.cps.size ≤ 1000 := by have : y.length = y.cps.size := rfl; omega
  k_dflt (refine' my_rest ?k1 ?k2 ?k3 ?k4 ?k5 ?kA ?kF ?kK ?k6 ?k7 ?k8 ?kV ?kP ?kG ?kB ?_ ?c2 ?c3 ?c4 ?c5; (case kA => exact rfl); (case kF => exact rfl); (case kK => assumption); (case k1 => k_asm); (case k2 => k_asm); (case k3 => k_asm); (case k4 => k_asm); (case k5 => k_asm); (case k6 => k_is); (case k7 => k_is); (case k8 => ktr_room); (case kV => kl_lit); (case kP => exact rfl); (case kG => exact fun _ => rfl); (case kB => exact fun _ => locs rfl); (case c5 => decide); (case c2 => exact rfl); (case c3 => exact rfl); (case c4 => exact rfl); k_whole; intro D' g' L' h' l1 FG' F' N' B' X' T' gsub' dnew'; (try k_lt l1); (try dsimp only); (try k_lift B'); (try k_fold))
  k_steps
  walk_at "MINE calm"
  exact ⟨_, _, _, rfl, by assumption⟩
end Mine
end
section
open PySem PySem.W PyProof.Rows PySem.Calls
set_option maxRecDepth 100000
set_option maxHeartbeats 8000000
namespace Mine
theorem reset_C6 : ∃ x : Nat, x = x := by
  w_top off
  first | (walk1; done) | exact ⟨0, rfl⟩
local macro_rules | `(tactic| walk_at "MINE rest") => `(tactic| k_dflt (refine' my_rest ?k1 ?k2 ?k3 ?k4 ?k5 ?kA ?kF ?kK ?k6 ?k7 ?k8 ?kV ?kP ?kG ?kB ?_ ?c2 ?c3 ?c4 ?c5; (case kA => exact rfl); (case kF => exact rfl); (case kK => assumption); (case k1 => k_asm); (case k2 => k_asm); (case k3 => k_asm); (case k4 => k_asm); (case k5 => k_asm); (case k6 => k_is); (case k7 => k_is); (case k8 => ktr_room); (case kV => kl_lit); (case kP => exact rfl); (case kG => exact fun _ => rfl); (case kB => exact fun _ => locs rfl); (case c5 => decide); (case c2 => exact rfl); (case c3 => exact rfl); (case c4 => exact rfl); k_whole; intro D' g' L' h' l1 FG' F' N' B' X' T' gsub' dnew'; (try k_lt l1); (try dsimp only); (try k_lift B'); (try k_fold)))
local macro_rules | `(tactic| walk_at "MINE def") => `(tactic| k_dflt (refine' code_defG ?k1 ?k2 ?k3 ?k4 ?k5 ?kA ?kF ?kK ?k6 ?k7 ?k8 ?k9 ?kB ?_ ?c2 ?c3 ?c4 ?c5; (case kA => exact rfl); (case kF => exact rfl); (case kK => assumption); (case k1 => k_asm); (case k2 => k_asm); (case k3 => k_asm); (case k4 => k_asm); (case k5 => k_asm); (case k6 => k_is); (case k7 => k_is); (case k8 => ktr_room); (case k9 => exact BindsTo.of_eq rfl); (case c5 => decide); (case kB => exact locs rfl); (case c2 => exact rfl); (case c3 => exact rfl); (case c4 => exact rfl); k_whole; intro g' L' h' FG' F' N' B' X' T' gsub'; (try dsimp only); (try k_lift B'); (try k_fold)))
local macro_rules | `(tactic| walk_at "call type:set") => `(tactic| (k_here; (with_reducible show wpAny _ _ (call (Value.type "set") [Value.ref _]) _ _ _); k_dflt (refine' set_tup_N ?k1 ?k2 ?k3 ?k4 ?k5 ?k6 ?_; (case k1 => k_asm); (case k2 => k_asm); (case k3 => exact rfl); (case k4 => k_mem); (case k5 => first | exact StrsAre.two | exact StrsAre.one); (case k6 => exact Nat.le_of_ble_eq_true rfl); k_whole; intro d' h' tk' o' F' N' so' fit'; try k_sweep)))
local macro_rules | `(tactic| walk_at "call builtin:len") => `(tactic| (k_here; (with_reducible show wpAny _ _ (call (Value.builtin "len") [Value.ref _]) _ _ _); k_dflt (refine' len_set_N ?k1 ?k2 ?k3 ?k4 ?_; (case k1 => k_asm); (case k2 => k_mem); (case k3 => assumption); (case k4 => assumption); k_whole)))
local macro_rules | `(tactic| walk_at "MINE calm") => `(tactic| (refine ⟨_, _, rfl, ?kE, ?kP⟩; (case kE => first | exact calm_rest (by assumption) (by assumption) (by assumption) (by assumption) (by assumption) (by first | exact List.forall_mem_nil _ | k_sub) | exact calm_def (by assumption) (by assumption) (by assumption) (by assumption) (by first | exact List.forall_mem_nil _ | k_sub))))
local macro_rules | `(tactic| walk_at "MINE defC") => `(tactic| k_dflt (refine' my_defC ?k1 ?k2 ?k3 ?k4 ?k5 ?kA ?kF ?kK ?k6 ?k7 ?k8 ?k9 ?kB ?kD ?_ ?c2 ?c3 ?c4; (case kA => exact rfl); (case kF => exact rfl); (case kK => assumption); (case k1 => k_asm); (case k2 => k_asm); (case k3 => k_asm); (case k4 => k_asm); (case k5 => k_asm); (case k6 => k_is); (case k7 => k_is); (case k8 => ktr_room); (case k9 => exact BindsTo.of_eq rfl); (case kB => exact rfl); (case kD => decide +kernel); (case c2 => exact rfl); (case c3 => exact rfl); (case c4 => exact rfl); k_whole; intro g' L' h' tk' cells' FG' F' N' Y' B' X' T' gsub' l1; (try k_lt l1); k_cells Y'; (try simp only [List.cons_append, List.nil_append] at N'); (try dsimp only); (try k_lift B'); (try k_fold)))
local macro_rules | `(tactic| walk_at "binaryOp FloorDiv int int") => `(tactic| (with_reducible refine floordiv_int (pow3_ne _) ?_ (Or.inl (pow3_room (by omega)))))
local macro_rules | `(tactic| walk_at "CompSrc") => `(tactic| (k_here; (rename MarkT => mkT); (try k_fmods); k_dflt (refine LCg.CompSrc.range (by rfl) (by k_asm) (by k_asm) (by assumption) (by first | decide | exact small_one (by l_bnd) (by l_bnd) (by l_bnd) (by l_bnd)) (by first | exact rangeSize_nat _ _ | rfl) (by first | exact Nat.le_of_ble_eq_true rfl | (rw [PySem.sizeLine_eq]; first | omega | ((have hb9 := len_ints_list (by lay_of)); omega)) | size_fits) ?_; intro g'; (refine' kct_range _ (fun k' t' I' oI' C' oC' D' m' ys' h' tk' E' hlo' hhi' hC' hx' F' N' off' ne' => ?_) ?_); (all_goals (try (simp only [LCg.Off3, and_true] at off'))); (all_goals (try ((show KPfMark → _); intro hMark'))); kcf_last)))
local macro_rules | `(tactic| walk_at "getAttr ref") => `(tactic| (k_here; k_dflt (refine' get_sm ?k1 ?k2 ?k3 ?k4 ?k5 ?k6 ?k7 ?k8 ?k9 ?k10 ?k11 ?k12 ?_; (case k1 => k_asm); (case k2 => k_asm); (case k3 => k_inst); (case k4 => k_is); (case k5 => k_is); (case k6 => k_is); (case k7 => k_is); (case k8 => k_is); (case k9 => decide +kernel); (case k10 => k_get); (case k11 => k_is); (case k12 => k_handed); k_whole)))
local macro_rules | `(tactic| walk_at "MINE restC") => `(tactic| k_dflt (refine' my_restC ?k1 ?k2 ?k3 ?k4 ?k5 ?kA ?kF ?kK ?k6 ?k7 ?k8 ?kV ?kP ?kG ?kB ?kD ?_ ?c2 ?c3 ?c4; (case kA => exact rfl); (case kF => exact rfl); (case kK => assumption); (case k1 => k_asm); (case k2 => k_asm); (case k3 => k_asm); (case k4 => k_asm); (case k5 => k_asm); (case k6 => k_is); (case k7 => k_is); (case k8 => ktr_room); (case kV => kl_lit); (case kP => exact rfl); (case kG => exact fun _ => rfl); (case kB => exact fun _ => rfl); (case kD => decide +kernel); (case c2 => exact rfl); (case c3 => exact rfl); (case c4 => exact rfl); k_whole; intro D' g' L' h' tk' cells' l1 FG' F' N' Y' B' X' T' gsub' dnew' dlt'; (try k_lt l1); k_cells Y'; (try simp only [List.cons_append, List.nil_append] at N'); (try dsimp only); (try k_lift B'); (try k_fold)))
local macro_rules | `(tactic| walk_at "MINE fresh") => `(tactic| (refine fresh_of (by assumption) (by assumption) (by k_mem) ?_; simp only [List.map_cons, List.map_nil, List.mem_cons, List.not_mem_nil, or_false, not_or]; (repeat' apply And.intro) <;> (first | omega | (refine neN ?_; omega))))
local macro_rules | `(tactic| walk_at "MINE use") => `(tactic| (
  (case k1 => k_asm); (case k2 => k_asm); (case k3 => k_in); (case k4 => k_asm); (case k5 => k_asm); (case k6 => first | exact rfl | assumption); (case k7 => lcg_sub); (case k8 => first | decide | ktr_room); (case k9 => first | decide | ktr_units)))
local macro_rules | `(tactic| walk_at "eval Call Attribute") => `(tactic| (k_here; (with_reducible show wpAny _ _ (eval (Expr.Call (Expr.Attribute _ _ _) [Expr.Starred _ _] [] _) _) _ _ _); refine MethodCall_star ?_))
local macro_rules | `(tactic| walk_at "callWith ref") => `(tactic| (k_here; (with_reducible show wpAny _ _ (callWith _ (Value.ref _) _ (backTo _ (starEach [Expr.Starred _ _] _)) []) _ _ _); k_dflt (refine' callWith_MS ?k1 ?k2 ?k3 ?k4 ?_; (case k1 => k_asm); (case k2 => k_asm); (case k3 => k_mem); (case k4 => k_is); k_whole)))
local macro_rules | `(tactic| walk_at "exec For Name Call cons nil") => `(tactic| (k_here; (rename MarkF => mkF); refine stop_at ?_))
local macro_rules | `(tactic| walk_at "exec For Name Name cons nil") => `(tactic| (k_here; (rename MarkF => mkF); refine stop_at ?_))
local macro_rules | `(tactic| walk_at "exec For Name Tuple cons nil") => `(tactic| (k_here; (rename MarkF => mkF); refine stop_at ?_))
local macro_rules | `(tactic| walk_at "callWith type:zip") => `(tactic| (k_here; (with_reducible show wpAny _ _ (callWith _ (Value.type _) _ (backTo _ (starEach [Expr.Starred _ _] _)) []) _ _ _); refine callWith_typeS (by rfl) ?_))
local macro_rules | `(tactic| walk_at "callWith ref") => `(tactic| (k_here; kco_any "__call__"; kco_here; (with_reducible show wpAny _ _ (callWith _ (Value.ref _) _ (backTo _ (starEach [Expr.Starred _ _] _)) []) _ _ _); k_dflt (refine' callWith_IS ?k1 ?k2 ?k3 ?k4 ?_; (case k1 => k_in); (case k2 => k_inst); (case k3 => rfl); (case k4 => k_is); k_whole)))
local macro_rules | `(tactic| walk_at "call builtin:len") => `(tactic| (k_here; (with_reducible show wpAny _ _ (call (Value.builtin "len") [Value.str _ _]) _ _ _); refine PyProof.Rows.len_str (by omega) ?_))
open PyProof.Rows.LCg
local macro_rules | `(tactic| walk_at "eval ListComp") => `(tactic| (k_here; refine stop_at ?_))

local macro_rules | `(tactic| walk_at "call builtin:len") => `(tactic| (k_here; (with_reducible show wpAny _ _ (call (Value.builtin "len") [Value.ref _]) _ _ _); k_dflt (refine' my_len ?k1 ?k2 ?k3 ?_; (case k1 => k_asm); (case k2 => k_mem); (case k3 => omega); k_whole)))
local macro_rules | `(tactic| walk_at "subscriptTail Name Name ref int") => `(tactic| (k_here; k_dflt (refine' my_item ?k1 ?k2 ?k3 ?k4 ?k5 ?_; (case k1 => k_asm); (case k2 => k_mem); (case k3 => assumption); (case k4 => omega); (case k5 => omega); k_whole)))
local macro_rules | `(tactic| walk_at "subscriptTail Subscript Slice str ref") => `(tactic| (k_here; (with_reducible show wpAny _ _ (subscriptTail _ (Expr.Slice (some _) none none _) _ _) _ _ _); (with_reducible rename Fr _ _ _ _ => F'); (with_reducible rename News _ _ _ _ => N'); refine slice_strN_sn_len (s := ⟨_, _, _, _, _⟩) F' N' ?_ (hsz := by assumption); clear F' N'; intro h' t' k' F' N' l'))
local macro_rules | `(tactic| walk_at "call builtin:list.append") => `(tactic| (k_here; refine stop_at ?_))
local macro_rules | `(tactic| walk_at "call builtin:sorted") => `(tactic| (k_here; refine stop_at ?_))
structure ES where
  uk : Option Value
  uf : Option Value
  ys : List Value
  tl : List (Addr × Obj)
  es : List (Str × Nat)
def ES.mk0 (σ : ES) (z : Str) : Option Value := if z = Str.ofString "k" then σ.uk else if z = Str.ofString "first" then σ.uf else none
def ES.mk1 (k : Value) (σ : ES) (z : Str) : Option Value := if z = Str.ofString "k" then some k else if z = Str.ofString "first" then σ.uf else none
def mk2 (k f : Value) (z : Str) : Option Value := if z = Str.ofString "k" then some k else if z = Str.ofString "first" then some f else none
def endsOne (x : Str) (k j : Nat) : List (Str × Nat) := (List.range j).map fun f => (⟨(x.cps.toList.drop f).toArray⟩, k)
def endsUpTo (xs : List Str) (i : Nat) : List (Str × Nat) := (List.range i).flatMap fun k => endsOne (xs.getD k ⟨#[]⟩) k (xs.getD k ⟨#[]⟩).length

theorem ends_len {xs : List Str} (hx7 : ∀ x ∈ xs, 1 ≤ x.length ∧ x.length ≤ 7) : ∀ i, i ≤ xs.length → (endsUpTo xs i).length ≤ 7 * i
  | 0, _ => by simp [endsUpTo]
  | i + 1, h => by
    have ih := ends_len hx7 i (by omega)
    have hi : i < xs.length := by omega
    have hx := hx7 xs[i] (List.getElem_mem hi)
    have e : (endsUpTo xs (i + 1)) = endsUpTo xs i ++ endsOne xs[i] i xs[i].length := by
      simp [endsUpTo, List.range_succ, hi]
    rw [e, List.length_append]
    simp only [endsOne, List.length_map, List.length_range]
    omega
theorem endsOne_nodup (x : Str) (k j : Nat) (h : j ≤ x.cps.size) : (endsOne x k j).Nodup := by
  unfold endsOne
  rw [List.Nodup, List.pairwise_map]
  refine List.Pairwise.imp_of_mem (fun {a b} ha hb hab => ?_) List.pairwise_lt_range
  intro e
  have e1 : (x.cps.toList.drop a) = (x.cps.toList.drop b) := by
    have := congrArg (fun q : Str × Nat => q.1.cps.toList) e
    simpa using this
  have e2 := congrArg List.length e1
  simp at ha hb
  simp at e2
  omega
theorem endsUpTo_succ {xs : List Str} {i : Nat} {x : Str} (h : xs[i]? = some x) : endsUpTo xs (i + 1) = endsUpTo xs i ++ endsOne x i x.length := by
  simp [endsUpTo, List.range_succ, h]
theorem endsUpTo_lt {xs : List Str} {i : Nat} : ∀ e ∈ endsUpTo xs i, e.2 < i := by
  intro e he
  simp only [endsUpTo, List.mem_flatMap, List.mem_range, endsOne, List.mem_map] at he
  obtain ⟨k, hk, f, _, rfl⟩ := he
  exact hk
theorem endsUpTo_nodup {xs : List Str} : ∀ i, i ≤ xs.length → (endsUpTo xs i).Nodup
  | 0, _ => by simp [endsUpTo]
  | i + 1, h => by
    have hi : i < xs.length := by omega
    rw [endsUpTo_succ (List.getElem?_eq_getElem hi), List.nodup_append]
    refine ⟨endsUpTo_nodup i (by omega), endsOne_nodup _ _ _ (Nat.le_refl _), ?_⟩
    intro a ha b hb e
    have h1 := endsUpTo_lt a ha
    simp only [endsOne, List.mem_map] at hb
    obtain ⟨f, _, rfl⟩ := hb
    rw [e] at h1
    exact Nat.lt_irrefl _ h1
def EndsP (xs : List Str) (H : Heap) (v : Value) (h' : Heap) : Prop :=
  ∃ (S : Addr) (ys : List Value) (es : List (Str × Nat)) (c : Nat) (tl : List (Addr × Obj)), v = .ref S ∧ (∀ p ∈ (S, ({ cls := .type "list", data := .seq ys.toArray c } : Obj)) :: tl, H.get? p.1 = none ∧ h'.get? p.1 = some p.2) ∧ RowsIn tl ys es ∧ es.Perm (endsUpTo xs xs.length) ∧ es.Pairwise rowLt
theorem rows_objs {ys : List Value} {tl : List (Addr × Obj)} {es : List (Str × Nat)} (h : Rows ys tl es) : ∀ p ∈ tl, p.2.cls = .type "tuple" := by
  induction h with
  | nil => intro p hp; simp at hp
  | snoc T x k t u _ ih =>
    intro p hp
    rcases List.mem_append.mp hp with hp | hp
    · exact ih p hp
    · rw [List.mem_singleton.mp hp]
theorem slice_from_nat (x : Str) (a : Nat) (h : a ≤ x.cps.size) : Txt.slice x (some (a : Int)) none = ⟨(x.cps.toList.drop a).toArray⟩ := by
  have e : Txt.slice x (some (a : Int)) none = Txt.slice x (some (a : Int)) (some (x.cps.size : Int)) := by
    have hlen : (x.length : Int) = x.cps.size := rfl
    unfold Txt.slice Builtin.Str.strSliceIndices
    have h1 : ¬ (x.cps.size : Int) < 0 := by omega
    have h2 : max 0 (min (x.cps.size : Int) (x.length : Int)) = x.length := by omega
    simp only [show (1 : Int) > 0 by decide, if_true, h1, if_false, h2]
  rw [e, slice_nat x a x.cps.size h (Nat.le_refl _)]
  congr 2
  rw [List.take_of_length_le]
  simp
theorem ends_p : ∀ {w : World} (wl : Addr) (vs : List Value) (kw : Nat) (xs : List Str), StrsAre vs xs → xs.length ≤ 2 → (∀ x ∈ xs, 1 ≤ x.length ∧ x.length ≤ 7) →
    Does 2 w 275 [.ref wl] [(wl, { cls := .type "list", data := .seq vs.toArray kw })] (fun _ => True) (EndsP xs) := by
  unfold Does
  k_fill
  intro w wl vs kw xs hvs hx2 hx7 loose mean mg mb dp un gd cn cs a ccd cl outer A₀ base h₀ L m s B F X N T hk hdp hun _
  have hvl := hvs.length
  k_dflt (refine' my_defC ?k1 ?k2 ?k3 ?k4 ?k5 ?kA ?kF ?kK ?k6 ?k7 ?k8 ?k9 ?kB ?kD ?_ ?c2 ?c3 ?c4; (case kA => exact rfl); (case kF => exact rfl); (case kK => assumption); (case k1 => k_asm); (case k2 => k_asm); (case k3 => k_asm); (case k4 => k_asm); (case k5 => k_asm); (case k6 => k_is); (case k7 => k_is); (case k8 => ktr_room); (case k9 => exact BindsTo.of_eq rfl); (case kB => exact rfl); (case kD => decide +kernel); (case c2 => exact rfl); (case c3 => exact rfl); (case c4 => exact rfl); k_whole; intro g' L' h' tk' cells' FG' F' N' Y' B' X' T' gsub' l1; (try k_lt l1); k_cells Y'; (try simp only [List.cons_append, List.nil_append] at N'); (try dsimp only); (try k_lift B'); (try k_fold))
  rename Obj => oW
  k_steps
  unfold StopAt
  rename Fr _ _ _ _ => F1
  rename News _ _ _ _ => N1
  refine my_ListComp (s := s) F1 (by with_unfolding_all rfl) (by decide) (by rfl) (by decide) ?_
  k_steps
  rename IsRange _ _ _ _ _ _ _ _ => R1
  rename Fr _ _ _ _ => F2
  rename News _ _ _ _ => N2
  refine from_range (n := vs.length) (s := s) ES.mk0 (fun σ => lst σ.ys) (fun σ => (L' + 1, oW) :: (wl, ({ cls := .type "list", data := .seq vs.toArray kw } : Obj)) :: σ.tl) (fun i σ => Rows σ.ys σ.tl σ.es ∧ σ.es = endsUpTo xs i) (fun _ => ⟨none, none, [], [], []⟩) plain_list (by rfl) (fun I C D => turn_list2_0 _ _ _ _ _ _ _ _ _ _) (fun C D => inner_mid (by intro _; rfl)) (fun C D => mono_mid) (by rfl) (by rfl) (by rfl) R1 ?hb ?hsm F2 N2 (fun _ => rfl) ?h2 (fun _ => rfl) (fun _ => ⟨.nil, rfl⟩) ?turn ?fin
  case hb => omega
  case hsm => exact small_one (by omega) (by omega) (by omega) (by omega)
  case h2 => intro lb; funext z; simp [ES.mk0]
  case turn =>
    intro I C D i σ v oI oC h tk hi hJ hP F3 hns N3 offs offI hCD hIC hID
    obtain ⟨ti, rfl⟩ := hP
    obtain ⟨x, tx, hxi, hvi⟩ := hvs.get i _ (List.getElem?_eq_getElem hi)
    have hit : vs.toArray[(0 + (i : Int)).toNat]? = some (.str x tx) := by
      have : (0 + (i : Int)).toNat = i := by omega
      rw [this]; simp [hi, hvi]
    have hx := hx7 x (List.mem_of_getElem? hxi)
    have hxl : x.length ≤ 7 := hx.2
    have hxz : x.length ≤ sizeLine := Nat.le_trans hxl (by decide)
    have hns2 : NsObj oC (ES.mk1 (.int (0 + (i : Int)) ti) σ) := ns_same hns fun z => by
      unfold ES.mk1 ES.mk0
      by_cases h1 : z = Str.ofString "k"
      · simp [h1]
      · simp [h1]
    have hmk : ES.mk1 (.int (0 + (i : Int)) ti) σ (Str.ofString "k") = some (.int (0 + (i : Int)) ti) := rfl
    clear hns; (try clear F2 N2); (try clear R1); (try clear F1); (try clear N1)
    dsimp only at N3 ⊢
    try k_fold
    k_steps
    rename IsRange _ _ _ _ _ _ _ _ => R4
    rename Fr _ _ _ _ => F4
    rename News _ _ _ _ => N4
    refine mid_range (s := s) (n := x.length) (ES.mk1 (.int (0 + (i : Int)) ti)) (fun σ => lst σ.ys) (fun σ => (I, oI) :: (L' + 1, oW) :: (wl, ({ cls := .type "list", data := .seq vs.toArray kw } : Obj)) :: σ.tl) (fun j σ' => (Rows σ'.ys σ'.tl σ'.es ∧ ∀ p ∈ σ'.tl, p.1 ≠ I) ∧ σ'.es = endsUpTo xs i ++ endsOne x i j) σ plain_list (by rfl) (fun I => turn_list2_1 _ _ _ _ _ _ _ _ _ _) inner_list mono_emit (by rfl) (by rfl) (by rfl) R4 ?hb2 ?hsm2 (cst_of F4 N4 hns2 ?hs2 hCD ?ho2) ⟨⟨hJ.1, fun p hp => offI p (by simp [hp])⟩, by rw [hJ.2]; simp [endsOne]⟩ ?turn2 ?fin2
    case hb2 => omega
    case hsm2 => exact small_one (by omega) (by omega) (by omega) (by omega)
    case hs2 => k_sub
    case ho2 =>
      intro p hp
      rcases List.mem_cons.mp hp with rfl | hp
      · exact ⟨hIC, hID⟩
      · exact offs p hp
    case turn2 =>
      intro I2 j σ2 v2 oI2 oC2 h tk hj hJ2 hP2 F5 hns5 N5 offs5 offI5 hCD hIC2 hID2
      obtain ⟨tj, rfl⟩ := hP2
      have hns6 : NsObj oC2 (mk2 (.int (0 + (i : Int)) ti) (.int (0 + (j : Int)) tj)) := ns_same hns5 fun z => by
        unfold ES.mk1 mk2
        by_cases h1 : z = Str.ofString "k"
        · subst h1; rfl
        · by_cases h2 : z = Str.ofString "first"
          · subst h2; rfl
          · simp [h1, h2]
      have hmk2 : mk2 (.int (0 + (i : Int)) ti) (.int (0 + (j : Int)) tj) (Str.ofString "k") = some (.int (0 + (i : Int)) ti) := rfl
      have hmk3 : mk2 (.int (0 + (i : Int)) ti) (.int (0 + (j : Int)) tj) (Str.ofString "first") = some (.int (0 + (j : Int)) tj) := rfl
      clear hns5; (try clear F4); (try clear N4); (try clear R4)
      dsimp only at N5 ⊢
      try k_fold
      k_steps
      unfold StopAt
      rename Fr _ _ _ _ => F6
      rename News _ _ _ _ => N6
      rename_i t8 k8 l8 T h9 hT
      have eS : Txt.slice x (some (0 + (j : Int))) none = ⟨(x.cps.toList.drop j).toArray⟩ := by
        rw [show (0 : Int) + (j : Int) = (j : Int) by omega]
        exact slice_from_nat x j (Nat.le_of_lt hj)
      have eI : (0 : Int) + (i : Int) = (i : Int) := by omega
      have hlen : σ2.ys.length ≤ sizeLine := by
        rw [hJ2.1.1.length, hJ2.2, List.length_append]
        have h1 := ends_len hx7 i (by omega)
        have h2 : (endsOne x i j).length = j := by simp [endsOne]
        have h3 : 28 ≤ sizeLine := by decide
        omega
      have hTC : T ≠ C := Ne.symm (neN (Nat.ne_of_lt hT.1))
      have hTD : T ≠ D := Ne.symm (neN (Nat.ne_of_lt hT.2.1))
      have hTI2 : T ≠ I2 := Ne.symm (neN (Nat.ne_of_lt hT.2.2.1))
      have hTI : T ≠ I := Ne.symm (neN (Nat.ne_of_lt hT.2.2.2.1))
      rw [eS, eI] at N6
      refine append_cst (led := (I2, oI2) :: (I, oI) :: (L' + 1, oW) :: (wl, ({ cls := .type "list", data := .seq vs.toArray kw } : Obj)) :: (σ2.tl ++ [(T, ({ cls := .type "tuple", data := .seq #[.str ⟨(x.cps.toList.drop j).toArray⟩ t8, .int (i : Int) ti] } : Obj))])) F6 N6 hns6 ?hs3 hCD ?ho3 hlen ?h3
      case hs3 =>
        intro p hp
        simp only [List.mem_cons, List.mem_append, List.not_mem_nil, or_false] at hp ⊢
        rcases hp with hp | hp | hp | hp | hp | hp | hp | hp
        · exact .inr (.inl hp)
        · exact .inr (.inr (.inl hp))
        · exact .inr (.inr (.inr (.inl hp)))
        · exact .inr (.inr (.inr (.inr (.inl hp))))
        · exact .inr (.inr (.inr (.inr (.inr (.inl hp)))))
        · exact .inr (.inr (.inr (.inr (.inr (.inr (.inl hp))))))
        · exact .inr (.inr (.inr (.inr (.inr (.inr (.inr hp))))))
        · exact .inl hp
      case ho3 =>
        intro p hp
        simp only [List.mem_cons, List.mem_append, List.not_mem_nil, or_false] at hp
        rcases hp with rfl | rfl | rfl | rfl | hp | rfl
        · exact ⟨hIC2, hID2⟩
        · exact offs5 _ (by simp)
        · exact offs5 _ (by simp)
        · exact offs5 _ (by simp)
        · exact offs5 _ (by simp [hp])
        · exact ⟨hTC, hTD⟩
      case h3 =>
        intro s' hc
        refine ⟨⟨σ2.uk, some (.int (0 + (j : Int)) tj), σ2.ys ++ [.ref T], σ2.tl ++ [(T, ({ cls := .type "tuple", data := .seq #[.str ⟨(x.cps.toList.drop j).toArray⟩ t8, .int (i : Int) ti] } : Obj))], σ2.es ++ [(⟨(x.cps.toList.drop j).toArray⟩, i)]⟩, oI2, ⟨⟨.snoc T _ i _ _ hJ2.1.1, ?_⟩, ?_⟩, rfl, ?_, ?_⟩
        · intro p hp
          rcases List.mem_append.mp hp with hp | hp
          · exact hJ2.1.2 p hp
          · rw [List.mem_singleton.mp hp]; exact hTI
        · show σ2.es ++ _ = _
          rw [hJ2.2]
          simp [endsOne, List.range_succ]
        · obtain ⟨h1, tk1, oC1, e1, F1, n1, N1, r1⟩ := hc
          exact ⟨h1, tk1, oC1, e1, F1, ns_same n1 fun z => by unfold mk2 ES.mk1; rfl, N1, r1⟩
        · intro p hp
          simp only [List.mem_cons, List.mem_append, List.not_mem_nil, or_false] at hp
          rcases hp with rfl | rfl | rfl | hp | rfl
          · exact offI5 _ (by simp)
          · exact offI5 _ (by simp)
          · exact offI5 _ (by simp)
          · exact offI5 _ (by simp [hp])
          · exact hTI2
    case fin2 =>
      rintro σ2 s' hJ2 ⟨h5, tk5, oC5, rfl, F5, hns5, N5, hCD5, offs5⟩
      refine ⟨rfl, { σ2 with uk := some (.int (0 + (i : Int)) ti) }, oI, ⟨hJ2.1.1, ?_⟩, rfl, ⟨h5, tk5, oC5, rfl, F5, ns_same hns5 fun z => rfl, N5, hCD5, offs5⟩, ?_⟩
      · show σ2.es = _
        rw [hJ2.2]
        simp [endsUpTo, List.range_succ, hxi]
      · intro p hp
        simp only [List.mem_cons] at hp
        rcases hp with rfl | rfl | hp
        · exact offI _ (by simp)
        · exact offI _ (by simp)
        · exact hJ2.1.2 p hp
  case fin =>
    intro D σ _ hJ h tk F9 N9
    (try clear F2 N2); (try clear R1); (try clear F1); (try clear N1)
    try k_fold
    k_steps
    unfold StopAt
    have hxe : vs.length = xs.length := hvl
    rw [hxe] at hJ
    have hnd : σ.es.Nodup := by rw [hJ.2]; exact endsUpTo_nodup _ (Nat.le_refl _)
    have hle : σ.es.length < 64 := by rw [hJ.2]; have := ends_len hx7 xs.length (Nat.le_refl _); omega
    refine sorted_all F9 N9 ⟨_, (N9 (D, lst σ.ys) (by simp)).1, rfl, _, rfl⟩ hJ.1.rowsIn (fun p hp => by simp [hp]) hnd hle ?_
    intro S h' ys' es' c F10 N10 hlt R10 hp10 hs10
    clear F9 N9
    k_steps
    walk_at "MINE calm"
    have Nw := N10 (wl, ({ cls := .type "list", data := .seq vs.toArray kw } : Obj)) (by simp)
    refine ⟨S, ys', es', c, σ.tl, rfl, ?_, R10, hJ.2 ▸ hp10, hs10⟩
    intro p hp
    have hmem : p ∈ (S, ({ cls := .type "list", data := .seq ys'.toArray c } : Obj)) :: (D, lst σ.ys) :: (L' + 1, oW) :: (wl, ({ cls := .type "list", data := .seq vs.toArray kw } : Obj)) :: σ.tl := by
      rcases List.mem_cons.mp hp with rfl | hp
      · simp
      · simp [hp]
    have Np := N10 p hmem
    refine ⟨?_, Np.1⟩
    have hne : p.1 ≠ wl := by
      rcases List.mem_cons.mp hp with rfl | hp
      · exact Ne.symm (neN (Nat.ne_of_lt (hlt (wl, ({ cls := .type "list", data := .seq vs.toArray kw } : Obj)) (by simp))))
      · intro e
        have ht := rows_objs hJ.1 p hp
        have h1 := Np.1
        rw [e, Nw.1] at h1
        have h2 := Option.some.inj h1
        rw [← h2] at ht
        simp at ht
    exact fresh_of gsub' N10 hmem (by simpa using hne)
end Mine
end
section
open PySem PySem.W PyProof.Rows PySem.Calls
set_option maxRecDepth 100000
set_option maxHeartbeats 8000000
namespace Mine
theorem reset_C7 : ∃ x : Nat, x = x := by
  w_top off
  first | (walk1; done) | exact ⟨0, rfl⟩
local macro_rules | `(tactic| walk_at "MINE rest") => `(tactic| k_dflt (refine' my_rest ?k1 ?k2 ?k3 ?k4 ?k5 ?kA ?kF ?kK ?k6 ?k7 ?k8 ?kV ?kP ?kG ?kB ?_ ?c2 ?c3 ?c4 ?c5; (case kA => exact rfl); (case kF => exact rfl); (case kK => assumption); (case k1 => k_asm); (case k2 => k_asm); (case k3 => k_asm); (case k4 => k_asm); (case k5 => k_asm); (case k6 => k_is); (case k7 => k_is); (case k8 => ktr_room); (case kV => kl_lit); (case kP => exact rfl); (case kG => exact fun _ => rfl); (case kB => exact fun _ => locs rfl); (case c5 => decide); (case c2 => exact rfl); (case c3 => exact rfl); (case c4 => exact rfl); k_whole; intro D' g' L' h' l1 FG' F' N' B' X' T' gsub' dnew'; (try k_lt l1); (try dsimp only); (try k_lift B'); (try k_fold)))
local macro_rules | `(tactic| walk_at "MINE def") => `(tactic| k_dflt (refine' code_defG ?k1 ?k2 ?k3 ?k4 ?k5 ?kA ?kF ?kK ?k6 ?k7 ?k8 ?k9 ?kB ?_ ?c2 ?c3 ?c4 ?c5; (case kA => exact rfl); (case kF => exact rfl); (case kK => assumption); (case k1 => k_asm); (case k2 => k_asm); (case k3 => k_asm); (case k4 => k_asm); (case k5 => k_asm); (case k6 => k_is); (case k7 => k_is); (case k8 => ktr_room); (case k9 => exact BindsTo.of_eq rfl); (case c5 => decide); (case kB => exact locs rfl); (case c2 => exact rfl); (case c3 => exact rfl); (case c4 => exact rfl); k_whole; intro g' L' h' FG' F' N' B' X' T' gsub'; (try dsimp only); (try k_lift B'); (try k_fold)))
local macro_rules | `(tactic| walk_at "call type:set") => `(tactic| (k_here; (with_reducible show wpAny _ _ (call (Value.type "set") [Value.ref _]) _ _ _); k_dflt (refine' set_tup_N ?k1 ?k2 ?k3 ?k4 ?k5 ?k6 ?_; (case k1 => k_asm); (case k2 => k_asm); (case k3 => exact rfl); (case k4 => k_mem); (case k5 => first | exact StrsAre.two | exact StrsAre.one); (case k6 => exact Nat.le_of_ble_eq_true rfl); k_whole; intro d' h' tk' o' F' N' so' fit'; try k_sweep)))
local macro_rules | `(tactic| walk_at "call builtin:len") => `(tactic| (k_here; (with_reducible show wpAny _ _ (call (Value.builtin "len") [Value.ref _]) _ _ _); k_dflt (refine' len_set_N ?k1 ?k2 ?k3 ?k4 ?_; (case k1 => k_asm); (case k2 => k_mem); (case k3 => assumption); (case k4 => assumption); k_whole)))
local macro_rules | `(tactic| walk_at "MINE calm") => `(tactic| (refine ⟨_, _, rfl, ?kE, ?kP⟩; (case kE => first | exact calm_rest (by assumption) (by assumption) (by assumption) (by assumption) (by assumption) (by first | exact List.forall_mem_nil _ | k_sub) | exact calm_def (by assumption) (by assumption) (by assumption) (by assumption) (by first | exact List.forall_mem_nil _ | k_sub))))
local macro_rules | `(tactic| walk_at "MINE defC") => `(tactic| k_dflt (refine' my_defC ?k1 ?k2 ?k3 ?k4 ?k5 ?kA ?kF ?kK ?k6 ?k7 ?k8 ?k9 ?kB ?kD ?_ ?c2 ?c3 ?c4; (case kA => exact rfl); (case kF => exact rfl); (case kK => assumption); (case k1 => k_asm); (case k2 => k_asm); (case k3 => k_asm); (case k4 => k_asm); (case k5 => k_asm); (case k6 => k_is); (case k7 => k_is); (case k8 => ktr_room); (case k9 => exact BindsTo.of_eq rfl); (case kB => exact rfl); (case kD => decide +kernel); (case c2 => exact rfl); (case c3 => exact rfl); (case c4 => exact rfl); k_whole; intro g' L' h' tk' cells' FG' F' N' Y' B' X' T' gsub' l1; (try k_lt l1); k_cells Y'; (try simp only [List.cons_append, List.nil_append] at N'); (try dsimp only); (try k_lift B'); (try k_fold)))
local macro_rules | `(tactic| walk_at "binaryOp FloorDiv int int") => `(tactic| (with_reducible refine floordiv_int (pow3_ne _) ?_ (Or.inl (pow3_room (by omega)))))
local macro_rules | `(tactic| walk_at "CompSrc") => `(tactic| (k_here; (rename MarkT => mkT); (try k_fmods); k_dflt (refine LCg.CompSrc.range (by rfl) (by k_asm) (by k_asm) (by assumption) (by first | decide | exact small_one (by l_bnd) (by l_bnd) (by l_bnd) (by l_bnd)) (by first | exact rangeSize_nat _ _ | rfl) (by first | exact Nat.le_of_ble_eq_true rfl | (rw [PySem.sizeLine_eq]; first | omega | ((have hb9 := len_ints_list (by lay_of)); omega)) | size_fits) ?_; intro g'; (refine' kct_range _ (fun k' t' I' oI' C' oC' D' m' ys' h' tk' E' hlo' hhi' hC' hx' F' N' off' ne' => ?_) ?_); (all_goals (try (simp only [LCg.Off3, and_true] at off'))); (all_goals (try ((show KPfMark → _); intro hMark'))); kcf_last)))
local macro_rules | `(tactic| walk_at "getAttr ref") => `(tactic| (k_here; k_dflt (refine' get_sm ?k1 ?k2 ?k3 ?k4 ?k5 ?k6 ?k7 ?k8 ?k9 ?k10 ?k11 ?k12 ?_; (case k1 => k_asm); (case k2 => k_asm); (case k3 => k_inst); (case k4 => k_is); (case k5 => k_is); (case k6 => k_is); (case k7 => k_is); (case k8 => k_is); (case k9 => decide +kernel); (case k10 => k_get); (case k11 => k_is); (case k12 => k_handed); k_whole)))
local macro_rules | `(tactic| walk_at "MINE restC") => `(tactic| k_dflt (refine' my_restC ?k1 ?k2 ?k3 ?k4 ?k5 ?kA ?kF ?kK ?k6 ?k7 ?k8 ?kV ?kP ?kG ?kB ?kD ?_ ?c2 ?c3 ?c4; (case kA => exact rfl); (case kF => exact rfl); (case kK => assumption); (case k1 => k_asm); (case k2 => k_asm); (case k3 => k_asm); (case k4 => k_asm); (case k5 => k_asm); (case k6 => k_is); (case k7 => k_is); (case k8 => ktr_room); (case kV => kl_lit); (case kP => exact rfl); (case kG => exact fun _ => rfl); (case kB => exact fun _ => rfl); (case kD => decide +kernel); (case c2 => exact rfl); (case c3 => exact rfl); (case c4 => exact rfl); k_whole; intro D' g' L' h' tk' cells' l1 FG' F' N' Y' B' X' T' gsub' dnew' dlt'; (try k_lt l1); k_cells Y'; (try simp only [List.cons_append, List.nil_append] at N'); (try dsimp only); (try k_lift B'); (try k_fold)))
local macro_rules | `(tactic| walk_at "MINE fresh") => `(tactic| (refine fresh_of (by assumption) (by assumption) (by k_mem) ?_; simp only [List.map_cons, List.map_nil, List.mem_cons, List.not_mem_nil, or_false, not_or]; (repeat' apply And.intro) <;> (first | omega | (refine neN ?_; omega))))
local macro_rules | `(tactic| walk_at "MINE use") => `(tactic| (
  (case k1 => k_asm); (case k2 => k_asm); (case k3 => k_in); (case k4 => k_asm); (case k5 => k_asm); (case k6 => first | exact rfl | assumption); (case k7 => lcg_sub); (case k8 => first | decide | ktr_room); (case k9 => first | decide | ktr_units)))
local macro_rules | `(tactic| walk_at "eval Call Attribute") => `(tactic| (k_here; (with_reducible show wpAny _ _ (eval (Expr.Call (Expr.Attribute _ _ _) [Expr.Starred _ _] [] _) _) _ _ _); refine MethodCall_star ?_))
local macro_rules | `(tactic| walk_at "callWith ref") => `(tactic| (k_here; (with_reducible show wpAny _ _ (callWith _ (Value.ref _) _ (backTo _ (starEach [Expr.Starred _ _] _)) []) _ _ _); k_dflt (refine' callWith_MS ?k1 ?k2 ?k3 ?k4 ?_; (case k1 => k_asm); (case k2 => k_asm); (case k3 => k_mem); (case k4 => k_is); k_whole)))
local macro_rules | `(tactic| walk_at "exec For Name Call cons nil") => `(tactic| (k_here; (rename MarkF => mkF); refine stop_at ?_))
local macro_rules | `(tactic| walk_at "exec For Name Name cons nil") => `(tactic| (k_here; (rename MarkF => mkF); refine stop_at ?_))
local macro_rules | `(tactic| walk_at "exec For Name Tuple cons nil") => `(tactic| (k_here; (rename MarkF => mkF); refine stop_at ?_))
local macro_rules | `(tactic| walk_at "callWith type:zip") => `(tactic| (k_here; (with_reducible show wpAny _ _ (callWith _ (Value.type _) _ (backTo _ (starEach [Expr.Starred _ _] _)) []) _ _ _); refine callWith_typeS (by rfl) ?_))
local macro_rules | `(tactic| walk_at "callWith ref") => `(tactic| (k_here; kco_any "__call__"; kco_here; (with_reducible show wpAny _ _ (callWith _ (Value.ref _) _ (backTo _ (starEach [Expr.Starred _ _] _)) []) _ _ _); k_dflt (refine' callWith_IS ?k1 ?k2 ?k3 ?k4 ?_; (case k1 => k_in); (case k2 => k_inst); (case k3 => rfl); (case k4 => k_is); k_whole)))
local macro_rules | `(tactic| walk_at "call builtin:len") => `(tactic| (k_here; (with_reducible show wpAny _ _ (call (Value.builtin "len") [Value.str _ _]) _ _ _); refine PyProof.Rows.len_str (by omega) ?_))
open PyProof.Rows.LCg
local macro_rules | `(tactic| walk_at "eval SetComp") => `(tactic| (k_here; refine stop_at ?_))
local macro_rules | `(tactic| walk_at "call builtin:len") => `(tactic| (k_here; (with_reducible show wpAny _ _ (call (Value.builtin "len") [Value.ref _]) _ _ _); k_dflt (refine' len_set_N ?k1 ?k2 ?k3 ?k4 ?_; (case k1 => k_asm); (case k2 => k_mem); (case k3 => assumption); (case k4 => assumption); k_whole)))
local macro_rules | `(tactic| walk_at "subscriptTail Name Slice str ref") => `(tactic| (k_here; (with_reducible show wpAny _ _ (subscriptTail _ (Expr.Slice (some _) (some _) none _) _ _) _ _ _); (with_reducible rename Fr _ _ _ _ => F'); (with_reducible rename News _ _ _ _ => N'); refine slice_strN_ss_len (s := ⟨_, _, _, _, _⟩) F' N' ?_ (hsz := by assumption); clear F' N'; intro h' t' k' F' N' l'))
local macro_rules | `(tactic| walk_at "call builtin:set.add") => `(tactic| (k_here; refine stop_at ?_))
structure PS where
  uw : Option Value
  uf : Option Value
  ul : Option Value
  oS : Obj
  ps : List Str
def PS.mk0 (σ : PS) (z : Str) : Option Value := if z = Str.ofString "word" then σ.uw else if z = Str.ofString "first" then σ.uf else if z = Str.ofString "last" then σ.ul else none
def PS.mk1 (k : Value) (σ : PS) (z : Str) : Option Value := if z = Str.ofString "word" then some k else if z = Str.ofString "first" then σ.uf else if z = Str.ofString "last" then σ.ul else none
def PS.mk2 (k f : Value) (σ : PS) (z : Str) : Option Value := if z = Str.ofString "word" then some k else if z = Str.ofString "first" then some f else if z = Str.ofString "last" then σ.ul else none
def mkP3 (k f l : Value) (z : Str) : Option Value := if z = Str.ofString "word" then some k else if z = Str.ofString "first" then some f else if z = Str.ofString "last" then some l else none

theorem pieces_p : ∀ {w : World} (wl : Addr) (vs : List Value) (kw : Nat) (xs : List Str), StrsAre vs xs → xs.length ≤ 2 → (∀ x ∈ xs, 1 ≤ x.length ∧ x.length ≤ 7) →
    Does 2 w 280 [.ref wl] [(wl, { cls := .type "list", data := .seq vs.toArray kw })] (fun _ => True) (fun _ v _ => ∃ t, v = .int ((dedup (piecesUpTo xs xs.length)).length : Nat) t) := by
  unfold Does
  k_fill
  intro w wl vs kw xs hvs hx2 hx7 loose mean mg mb dp un gd cn cs a ccd cl outer A₀ base h₀ L m s B F X N T hk hdp hun _
  have hvl := hvs.length
  k_dflt (refine' code_defG ?k1 ?k2 ?k3 ?k4 ?k5 ?kA ?kF ?kK ?k6 ?k7 ?k8 ?k9 ?kB ?_ ?c2 ?c3 ?c4 ?c5; (case kA => exact rfl); (case kF => exact rfl); (case kK => assumption); (case k1 => k_asm); (case k2 => k_asm); (case k3 => k_asm); (case k4 => k_asm); (case k5 => k_asm); (case k6 => k_is); (case k7 => k_is); (case k8 => ktr_room); (case k9 => exact BindsTo.of_eq rfl); (case c5 => decide); (case kB => exact locs rfl); (case c2 => exact rfl); (case c3 => exact rfl); (case c4 => exact rfl); k_whole; intro g' L' h' FG' F' N' B' X' T' gsub'; (try dsimp only); (try k_lift B'); (try k_fold))
  k_steps
  unfold StopAt
  rename Fr _ _ _ _ => F1
  rename News _ _ _ _ => N1
  refine my_SetComp (s := s) F1 (by with_unfolding_all rfl) (by decide) (by rfl) (by decide) ?_
  k_steps
  rename Fr _ _ _ _ => F2
  rename News _ _ _ _ => N2
  refine from_list (vs := vs) (kw := kw) (s := s) PS.mk0 (fun σ => σ.oS) (fun σ => [(wl, ({ cls := .type "list", data := .seq vs.toArray kw } : Obj))]) (fun i σ => SetIs Challenge.rw_dr5026_01.row.prog w σ.oS σ.ps ∧ σ.ps = piecesUpTo xs i) (fun lb => ⟨none, none, none, set0 lb, []⟩) plain_set (by rfl) (fun I C D => turn_set3_0 _ _ _ _ _ _ _ _ _ _ _ _) (fun C D => inner_mid (by intro _; rfl)) (fun C D => mono_mid) (by rfl) (by rfl) (by rfl) (fun _ => by simp) F2 N2 (fun _ => rfl) ?h2 (fun _ => rfl) (fun lb => ⟨setIs_nil lb, rfl⟩) ?turn ?fin
  case h2 => intro lb; funext z; simp [PS.mk0]
  case turn =>
    intro I C D i σ v oI oC h tk hi hJ hP F3 hns N3 offs offI hCD hIC hID
    obtain ⟨x, tx, hxi, hvi⟩ := hvs.get i v hP
    subst hvi
    have hx := hx7 x (List.mem_of_getElem? hxi)
    have hxl : x.length ≤ 7 := hx.2
    have hx1 : x.length ≤ 1000 := by omega
    have hxz : x.length ≤ sizeLine := Nat.le_trans hxl (by decide)
    have hns2 : NsObj oC (PS.mk1 (.str x tx) σ) := ns_same hns fun z => by
      unfold PS.mk1 PS.mk0
      by_cases h1 : z = Str.ofString "word"
      · simp [h1]
      · simp [h1]
    have hmk : PS.mk1 (.str x tx) σ (Str.ofString "word") = some (.str x tx) := rfl
    clear hns; (try clear F2 N2); (try clear F1); (try clear N1)
    dsimp only at N3 ⊢
    try k_fold
    k_steps
    rename IsRange _ _ _ _ _ _ _ _ => R4
    rename Fr _ _ _ _ => F4
    rename News _ _ _ _ => N4
    refine mid_range (s := s) (n := x.length) (PS.mk1 (.str x tx)) (fun σ => σ.oS) (fun σ => [(I, oI), (wl, ({ cls := .type "list", data := .seq vs.toArray kw } : Obj))]) (fun j σ' => SetIs Challenge.rw_dr5026_01.row.prog w σ'.oS σ'.ps ∧ σ'.ps = piecesUpTo xs i ++ piecesWord x j) σ plain_set (by rfl) (fun I => turn_set3_1 _ _ _ _ _ _ _ _ _ _ _ _) (inner_mid (by intro _; rfl)) mono_mid (by rfl) (by rfl) (by rfl) R4 ?hb2 ?hsm2 (cst_of F4 N4 hns2 ?hs2 hCD ?ho2) ⟨hJ.1, by rw [hJ.2]; simp [piecesWord]⟩ ?turn2 ?fin2
    case hb2 => omega
    case hsm2 => exact small_one (by omega) (by omega) (by omega) (by omega)
    case hs2 => k_sub
    case ho2 =>
      intro p hp
      rcases List.mem_cons.mp hp with rfl | hp
      · exact ⟨hIC, hID⟩
      · exact offs p hp
    case turn2 =>
      intro I2 j σ2 v2 oI2 oC2 h tk hj hJ2 hP2 F5 hns5 N5 offs5 offI5 hCD hIC2 hID2
      obtain ⟨tj, rfl⟩ := hP2
      have hns6 : NsObj oC2 (PS.mk2 (.str x tx) (.int (0 + (j : Int)) tj) σ2) := ns_same hns5 fun z => by
        unfold PS.mk1 PS.mk2
        by_cases h1 : z = Str.ofString "word"
        · subst h1; rfl
        · by_cases h2 : z = Str.ofString "first"
          · subst h2; rfl
          · simp [h1, h2]
      have hmk2 : PS.mk2 (.str x tx) (.int (0 + (j : Int)) tj) σ2 (Str.ofString "word") = some (.str x tx) := rfl
      have hmk3 : PS.mk2 (.str x tx) (.int (0 + (j : Int)) tj) σ2 (Str.ofString "first") = some (.int (0 + (j : Int)) tj) := rfl
      clear hns5; (try clear F4); (try clear N4); (try clear R4)
      dsimp only at N5 ⊢
      try k_fold
      k_steps
      rename IsRange _ _ _ _ _ _ _ _ => R6
      rename Fr _ _ _ _ => F6
      rename News _ _ _ _ => N6
      refine mid_range (s := s) (n := x.length - j) (PS.mk2 (.str x tx) (.int (0 + (j : Int)) tj)) (fun σ => σ.oS) (fun σ => [(I2, oI2), (I, oI), (wl, ({ cls := .type "list", data := .seq vs.toArray kw } : Obj))]) (fun l σ' => SetIs Challenge.rw_dr5026_01.row.prog w σ'.oS σ'.ps ∧ σ'.ps = piecesUpTo xs i ++ piecesWord x j ++ piecesOne x j l) σ2 plain_set (by rfl) (fun I => turn_set3_2 _ _ _ _ _ _ _ _ _ _ _ _) inner_set mono_emit (by rfl) (by rfl) (by rfl) R6 ?hb3 ?hsm3 (cst_of F6 N6 hns6 ?hs3 hCD ?ho3) ⟨hJ2.1, by rw [hJ2.2]; simp [piecesOne]⟩ ?turn3 ?fin3
      case hb3 => omega
      case hsm3 => exact small_one (by omega) (by omega) (by omega) (by omega)
      case hs3 => k_sub
      case ho3 =>
        intro p hp
        rcases List.mem_cons.mp hp with rfl | hp
        · exact ⟨hIC2, hID2⟩
        · exact offs5 p hp
      case turn3 =>
        intro I3 l σ3 v3 oI3 oC3 h tk hl hJ3 hP3 F7 hns7 N7 offs7 offI7 hCD hIC3 hID3
        obtain ⟨tl, rfl⟩ := hP3
        have hns8 : NsObj oC3 (mkP3 (.str x tx) (.int (0 + (j : Int)) tj) (.int (0 + (j : Int) + 1 + (l : Int)) tl)) := ns_same hns7 fun z => by
          unfold PS.mk2 mkP3
          by_cases h1 : z = Str.ofString "word"
          · subst h1; rfl
          · by_cases h2 : z = Str.ofString "first"
            · subst h2; rfl
            · by_cases h3 : z = Str.ofString "last"
              · subst h3; rfl
              · simp [h1, h2, h3]
        have hmk4 : mkP3 (.str x tx) (.int (0 + (j : Int)) tj) (.int (0 + (j : Int) + 1 + (l : Int)) tl) (Str.ofString "word") = some (.str x tx) := rfl
        have hmk5 : mkP3 (.str x tx) (.int (0 + (j : Int)) tj) (.int (0 + (j : Int) + 1 + (l : Int)) tl) (Str.ofString "first") = some (.int (0 + (j : Int)) tj) := rfl
        have hmk6 : mkP3 (.str x tx) (.int (0 + (j : Int)) tj) (.int (0 + (j : Int) + 1 + (l : Int)) tl) (Str.ofString "last") = some (.int (0 + (j : Int) + 1 + (l : Int)) tl) := rfl
        clear hns7; (try clear F6); (try clear N6); (try clear R6)
        dsimp only at N7 ⊢
        try k_fold
        k_steps
        unfold StopAt
        rename Fr _ _ _ _ => F8
        rename News _ _ _ _ => N8
        have eS : Txt.slice x (some (0 + (j : Int))) (some (0 + (j : Int) + 1 + (l : Int))) = ⟨((x.cps.toList.drop j).take (l + 1)).toArray⟩ := by
          have hxc : x.length = x.cps.size := rfl
          have := slice_nat x j (j + (l + 1)) (by omega) (by omega)
          rw [show j + (l + 1) - j = l + 1 by omega] at this
          rw [← this, show (0 : Int) + (j : Int) = (j : Int) by omega, show (j : Int) + 1 + (l : Int) = ((j + (l + 1) : Nat) : Int) by omega]
        have hroom : σ3.ps.length + 1 < scanBound := by
          rw [hJ3.2, List.length_append, List.length_append, piecesOne_len]
          have h1 := piecesUpTo_len hx7 i (by omega)
          have h2 := piecesWord_len hxl j
          have h3 : 1000 < scanBound := by decide
          omega
        rw [eS]
        refine add_cst (led := [(I3, oI3), (I2, oI2), (I, oI), (wl, ({ cls := .type "list", data := .seq vs.toArray kw } : Obj))]) F8 N8 hns8 ?hs4 hCD ?ho4 hJ3.1 hroom ?h4
        case hs4 => k_sub
        case ho4 =>
          intro p hp
          rcases List.mem_cons.mp hp with rfl | hp
          · exact ⟨hIC3, hID3⟩
          · exact offs7 p hp
        case h4 =>
          intro oD' s' hso hc
          refine ⟨⟨σ3.uw, σ3.uf, some (.int (0 + (j : Int) + 1 + (l : Int)) tl), oD', σ3.ps ++ [⟨((x.cps.toList.drop j).take (l + 1)).toArray⟩]⟩, oI3, ⟨hso, ?_⟩, rfl, ?_, offI7⟩
          · show σ3.ps ++ _ = _
            rw [hJ3.2, piecesOne_succ, List.append_assoc, List.append_assoc]
          · obtain ⟨h1, tk1, oC1, e1, F1, n1, N1, r1⟩ := hc
            exact ⟨h1, tk1, oC1, e1, F1, ns_same n1 fun z => by unfold mkP3 PS.mk2; rfl, N1, r1⟩
      case fin3 =>
        rintro σ3 s' hJ3 ⟨h5, tk5, oC5, rfl, F7, hns7, N7, hCD7, offs7⟩
        refine ⟨rfl, { σ3 with uf := some (.int (0 + (j : Int)) tj) }, oI2, ⟨hJ3.1, ?_⟩, rfl, ⟨h5, tk5, oC5, rfl, F7, ns_same hns7 fun z => rfl, N7, hCD7, offs7⟩, offI5⟩
        show σ3.ps = _
        rw [hJ3.2, piecesWord_succ, List.append_assoc]
    case fin2 =>
      rintro σ2 s' hJ2 ⟨h5, tk5, oC5, rfl, F5, hns5, N5, hCD5, offs5⟩
      refine ⟨rfl, { σ2 with uw := some (.str x tx) }, oI, ⟨hJ2.1, ?_⟩, rfl, ⟨h5, tk5, oC5, rfl, F5, ns_same hns5 fun z => rfl, N5, hCD5, offs5⟩, offI⟩
      show σ2.ps = _
      rw [hJ2.2, piecesUpTo_succ hxi]
  case fin =>
    intro D σ _ hJ h tk F9 N9
    (try clear F2 N2); (try clear F1); (try clear N1)
    have hS : σ.oS.SetObjOf (strKind Challenge.rw_dr5026_01.row.prog w) (fun k => (dedup σ.ps).any (· == k)) (dedup σ.ps).length := hJ.1
    have hxe : vs.length = xs.length := hvl
    rw [hxe] at hJ
    have hfit : (((dedup σ.ps).length : Nat) : Int) < 2 ^ 63 := by
      have h1 := foldl_dstep_le σ.ps []
      have h2 : (dedup σ.ps).length ≤ σ.ps.length := by simpa [dedup] using h1
      have h3 := piecesUpTo_len hx7 xs.length (Nat.le_refl _)
      rw [hJ.2] at h2 ⊢
      omega
    try k_fold
    k_steps
    walk_at "MINE calm"
    exact ⟨_, by rw [hJ.2]⟩
end Mine
end
section
open PySem PySem.W PyProof.Rows PySem.Calls
set_option maxRecDepth 100000
set_option maxHeartbeats 8000000
namespace Mine
theorem reset_L2 : ∃ x : Nat, x = x := by
  w_top off
  first | (walk1; done) | exact ⟨0, rfl⟩
local macro_rules | `(tactic| walk_at "MINE rest") => `(tactic| k_dflt (refine' my_rest ?k1 ?k2 ?k3 ?k4 ?k5 ?kA ?kF ?kK ?k6 ?k7 ?k8 ?kV ?kP ?kG ?kB ?_ ?c2 ?c3 ?c4 ?c5; (case kA => exact rfl); (case kF => exact rfl); (case kK => assumption); (case k1 => k_asm); (case k2 => k_asm); (case k3 => k_asm); (case k4 => k_asm); (case k5 => k_asm); (case k6 => k_is); (case k7 => k_is); (case k8 => ktr_room); (case kV => kl_lit); (case kP => exact rfl); (case kG => exact fun _ => rfl); (case kB => exact fun _ => locs rfl); (case c5 => decide); (case c2 => exact rfl); (case c3 => exact rfl); (case c4 => exact rfl); k_whole; intro D' g' L' h' l1 FG' F' N' B' X' T' gsub' dnew'; (try k_lt l1); (try dsimp only); (try k_lift B'); (try k_fold)))
local macro_rules | `(tactic| walk_at "MINE def") => `(tactic| k_dflt (refine' code_defG ?k1 ?k2 ?k3 ?k4 ?k5 ?kA ?kF ?kK ?k6 ?k7 ?k8 ?k9 ?kB ?_ ?c2 ?c3 ?c4 ?c5; (case kA => exact rfl); (case kF => exact rfl); (case kK => assumption); (case k1 => k_asm); (case k2 => k_asm); (case k3 => k_asm); (case k4 => k_asm); (case k5 => k_asm); (case k6 => k_is); (case k7 => k_is); (case k8 => ktr_room); (case k9 => exact BindsTo.of_eq rfl); (case c5 => decide); (case kB => exact locs rfl); (case c2 => exact rfl); (case c3 => exact rfl); (case c4 => exact rfl); k_whole; intro g' L' h' FG' F' N' B' X' T' gsub'; (try dsimp only); (try k_lift B'); (try k_fold)))
local macro_rules | `(tactic| walk_at "call type:set") => `(tactic| (k_here; (with_reducible show wpAny _ _ (call (Value.type "set") [Value.ref _]) _ _ _); k_dflt (refine' set_tup_N ?k1 ?k2 ?k3 ?k4 ?k5 ?k6 ?_; (case k1 => k_asm); (case k2 => k_asm); (case k3 => exact rfl); (case k4 => k_mem); (case k5 => first | exact StrsAre.two | exact StrsAre.one); (case k6 => exact Nat.le_of_ble_eq_true rfl); k_whole; intro d' h' tk' o' F' N' so' fit'; try k_sweep)))
local macro_rules | `(tactic| walk_at "call builtin:len") => `(tactic| (k_here; (with_reducible show wpAny _ _ (call (Value.builtin "len") [Value.ref _]) _ _ _); k_dflt (refine' len_set_N ?k1 ?k2 ?k3 ?k4 ?_; (case k1 => k_asm); (case k2 => k_mem); (case k3 => assumption); (case k4 => assumption); k_whole)))
local macro_rules | `(tactic| walk_at "MINE calm") => `(tactic| (refine ⟨_, _, rfl, ?kE, ?kP⟩; (case kE => first | exact calm_rest (by assumption) (by assumption) (by assumption) (by assumption) (by assumption) (by first | exact List.forall_mem_nil _ | k_sub) | exact calm_def (by assumption) (by assumption) (by assumption) (by assumption) (by first | exact List.forall_mem_nil _ | k_sub))))
local macro_rules | `(tactic| walk_at "MINE defC") => `(tactic| k_dflt (refine' my_defC ?k1 ?k2 ?k3 ?k4 ?k5 ?kA ?kF ?kK ?k6 ?k7 ?k8 ?k9 ?kB ?kD ?_ ?c2 ?c3 ?c4; (case kA => exact rfl); (case kF => exact rfl); (case kK => assumption); (case k1 => k_asm); (case k2 => k_asm); (case k3 => k_asm); (case k4 => k_asm); (case k5 => k_asm); (case k6 => k_is); (case k7 => k_is); (case k8 => ktr_room); (case k9 => exact BindsTo.of_eq rfl); (case kB => exact rfl); (case kD => decide +kernel); (case c2 => exact rfl); (case c3 => exact rfl); (case c4 => exact rfl); k_whole; intro g' L' h' tk' cells' FG' F' N' Y' B' X' T' gsub' l1; (try k_lt l1); k_cells Y'; (try simp only [List.cons_append, List.nil_append] at N'); (try dsimp only); (try k_lift B'); (try k_fold)))
local macro_rules | `(tactic| walk_at "binaryOp FloorDiv int int") => `(tactic| (with_reducible refine floordiv_int (pow3_ne _) ?_ (Or.inl (pow3_room (by omega)))))
local macro_rules | `(tactic| walk_at "CompSrc") => `(tactic| (k_here; (rename MarkT => mkT); (try k_fmods); k_dflt (refine LCg.CompSrc.range (by rfl) (by k_asm) (by k_asm) (by assumption) (by first | decide | exact small_one (by l_bnd) (by l_bnd) (by l_bnd) (by l_bnd)) (by first | exact rangeSize_nat _ _ | rfl) (by first | exact Nat.le_of_ble_eq_true rfl | (rw [PySem.sizeLine_eq]; first | omega | ((have hb9 := len_ints_list (by lay_of)); omega)) | size_fits) ?_; intro g'; (refine' kct_range _ (fun k' t' I' oI' C' oC' D' m' ys' h' tk' E' hlo' hhi' hC' hx' F' N' off' ne' => ?_) ?_); (all_goals (try (simp only [LCg.Off3, and_true] at off'))); (all_goals (try ((show KPfMark → _); intro hMark'))); kcf_last)))
local macro_rules | `(tactic| walk_at "getAttr ref") => `(tactic| (k_here; k_dflt (refine' get_sm ?k1 ?k2 ?k3 ?k4 ?k5 ?k6 ?k7 ?k8 ?k9 ?k10 ?k11 ?k12 ?_; (case k1 => k_asm); (case k2 => k_asm); (case k3 => k_inst); (case k4 => k_is); (case k5 => k_is); (case k6 => k_is); (case k7 => k_is); (case k8 => k_is); (case k9 => decide +kernel); (case k10 => k_get); (case k11 => k_is); (case k12 => k_handed); k_whole)))
local macro_rules | `(tactic| walk_at "MINE restC") => `(tactic| k_dflt (refine' my_restC ?k1 ?k2 ?k3 ?k4 ?k5 ?kA ?kF ?kK ?k6 ?k7 ?k8 ?kV ?kP ?kG ?kB ?kD ?_ ?c2 ?c3 ?c4; (case kA => exact rfl); (case kF => exact rfl); (case kK => assumption); (case k1 => k_asm); (case k2 => k_asm); (case k3 => k_asm); (case k4 => k_asm); (case k5 => k_asm); (case k6 => k_is); (case k7 => k_is); (case k8 => ktr_room); (case kV => kl_lit); (case kP => exact rfl); (case kG => exact fun _ => rfl); (case kB => exact fun _ => rfl); (case kD => decide +kernel); (case c2 => exact rfl); (case c3 => exact rfl); (case c4 => exact rfl); k_whole; intro D' g' L' h' tk' cells' l1 FG' F' N' Y' B' X' T' gsub' dnew' dlt'; (try k_lt l1); k_cells Y'; (try simp only [List.cons_append, List.nil_append] at N'); (try dsimp only); (try k_lift B'); (try k_fold)))
local macro_rules | `(tactic| walk_at "MINE fresh") => `(tactic| (refine fresh_of (by assumption) (by assumption) (by k_mem) ?_; simp only [List.map_cons, List.map_nil, List.mem_cons, List.not_mem_nil, or_false, not_or]; (repeat' apply And.intro) <;> (first | omega | (refine neN ?_; omega))))
local macro_rules | `(tactic| walk_at "MINE use") => `(tactic| (
  (case k1 => k_asm); (case k2 => k_asm); (case k3 => k_in); (case k4 => k_asm); (case k5 => k_asm); (case k6 => first | exact rfl | assumption); (case k7 => lcg_sub); (case k8 => first | decide | ktr_room); (case k9 => first | decide | ktr_units)))
local macro_rules | `(tactic| walk_at "eval Call Attribute") => `(tactic| (k_here; (with_reducible show wpAny _ _ (eval (Expr.Call (Expr.Attribute _ _ _) [Expr.Starred _ _] [] _) _) _ _ _); refine MethodCall_star ?_))
local macro_rules | `(tactic| walk_at "callWith ref") => `(tactic| (k_here; (with_reducible show wpAny _ _ (callWith _ (Value.ref _) _ (backTo _ (starEach [Expr.Starred _ _] _)) []) _ _ _); k_dflt (refine' callWith_MS ?k1 ?k2 ?k3 ?k4 ?_; (case k1 => k_asm); (case k2 => k_asm); (case k3 => k_mem); (case k4 => k_is); k_whole)))
local macro_rules | `(tactic| walk_at "exec For Name Call cons nil") => `(tactic| (k_here; (rename MarkF => mkF); refine stop_at ?_))
local macro_rules | `(tactic| walk_at "exec For Name Name cons nil") => `(tactic| (k_here; (rename MarkF => mkF); refine stop_at ?_))
local macro_rules | `(tactic| walk_at "exec For Name Tuple cons nil") => `(tactic| (k_here; (rename MarkF => mkF); refine stop_at ?_))
local macro_rules | `(tactic| walk_at "callWith type:zip") => `(tactic| (k_here; (with_reducible show wpAny _ _ (callWith _ (Value.type _) _ (backTo _ (starEach [Expr.Starred _ _] _)) []) _ _ _); refine callWith_typeS (by rfl) ?_))
local macro_rules | `(tactic| walk_at "callWith ref") => `(tactic| (k_here; kco_any "__call__"; kco_here; (with_reducible show wpAny _ _ (callWith _ (Value.ref _) _ (backTo _ (starEach [Expr.Starred _ _] _)) []) _ _ _); k_dflt (refine' callWith_IS ?k1 ?k2 ?k3 ?k4 ?_; (case k1 => k_in); (case k2 => k_inst); (case k3 => rfl); (case k4 => k_is); k_whole)))
local macro_rules | `(tactic| walk_at "call builtin:len") => `(tactic| (k_here; (with_reducible show wpAny _ _ (call (Value.builtin "len") [Value.str _ _]) _ _ _); refine PyProof.Rows.len_str (by omega) ?_))
open PyProof.Rows.LCg
local macro_rules | `(tactic| walk_at "MINE use") => `(tactic| (
  (case k1 => k_asm); (case k2 => k_asm); (case k3 => k_in); (case k4 => k_asm); (case k5 => k_asm); (case k6 => first | exact rfl | assumption); (case k7 => lcg_sub); (case k8 => first | decide | ktr_room); (case k9 => first | decide | ktr_units)))
local macro_rules | `(tactic| walk_at "call builtin:list.append") => `(tactic| (k_here; refine stop_at ?_))
local macro_rules | `(tactic| walk_at "call builtin:len") => `(tactic| (k_here; (with_reducible show wpAny _ _ (call (Value.builtin "len") [Value.ref _]) _ _ _); k_dflt (refine' my_len ?k1 ?k2 ?k3 ?_; (case k1 => k_asm); (case k2 => k_mem); (case k3 => omega); k_whole)))
local macro_rules | `(tactic| walk_at "subscriptTail Name Name ref int") => `(tactic| (k_here; k_dflt (refine' my_item ?k1 ?k2 ?k3 ?k4 ?k5 ?_; (case k1 => k_asm); (case k2 => k_mem); (case k3 => assumption); (case k4 => omega); (case k5 => omega); k_whole)))
local macro_rules | `(tactic| walk_at "subscriptTail Name BinOp ref int") => `(tactic| (k_here; k_dflt (refine' my_item ?k1 ?k2 ?k3 ?k4 ?k5 ?_; (case k1 => k_asm); (case k2 => k_mem); (case k3 => assumption); (case k4 => omega); (case k5 => omega); k_whole)))
local macro_rules | `(tactic| walk_at "call ref") => `(tactic| (k_here; k_dflt (refine' does_meth (psim_p _ _ _ _ _ _ _ _ _ _ (by assumption)) ?k1 ?k2 ?k3 ?k4 ?k5 ?k6 ?k7 ?k8 ?k9 ?kq True.intro ?_; walk_at "MINE use"; (case kq => k_mem); k_whole; intro v9 h9 tk9 F9 N9 k9 p9; (obtain ⟨t9, e9⟩ := p9); subst e9)))
local macro_rules | `(tactic| walk_at "call ref") => `(tactic| (k_here; k_dflt (refine' does_use (psim_p _ _ _ _ _ _ _ _ _ _ (by assumption)) ?k1 ?k2 ?k3 ?k4 ?k5 ?k6 ?k7 ?k8 ?k9 True.intro ?_; walk_at "MINE use"; k_whole; intro v9 h9 tk9 F9 N9 k9 p9; (obtain ⟨t9, e9⟩ := p9); subst e9)))
def lcps (es : List (Str × Nat)) : List Int := (List.range (es.length - 1)).map fun k => (((lcp (es.getD k (⟨#[]⟩, 0)).1.cps.toList (es.getD (k + 1) (⟨#[]⟩, 0)).1.cps.toList).length : Nat) : Int)
theorem ints_len : ∀ {vs : List Value} {ns : List Int}, IntsAre vs ns → vs.length = ns.length
  | _, _, .nil => rfl
  | _, _, .cons _ _ r => by simp [ints_len r]
theorem lcps_take {ys : List Value} {es : List (Str × Nat)} (_h : ys.length = es.length) (i : Nat) (hi : i + 1 < es.length) : (lcps es).take (i + 1) = (lcps es).take i ++ [(((lcp es[i].1.cps.toList es[i + 1].1.cps.toList).length : Nat) : Int)] := by
  rw [List.take_add_one]
  congr 1
  have hi' : i < es.length - 1 := by omega
  have h0 : i < es.length := by omega
  simp [lcps, hi', hi, h0]
theorem news_front2 {g h : Heap} {L : Addr} {all : List (Addr × Obj)} (N : News g L h all) {p q : Addr × Obj} (hp : p ∈ all) (hq : q ∈ all) : News g L h (p :: q :: all) := fun r hr => by
  rcases List.mem_cons.mp hr with rfl | hr
  · exact N r hp
  · rcases List.mem_cons.mp hr with rfl | hr
    · exact N r hq
    · exact N r hr
theorem alike_p : ∀ {w : World} {loose : List Str} {mean : ExcName → Option Value} {mg mb : Str → Option Value} {g : Heap} {L fa S px pd : Addr} {cdv : Value} {m : Str → Option Value} {s : Shared} {h0 : Heap} {k0 : Nat} {oE oB : Obj} {ys : List Value} {es : List (Str × Nat)} {c nv : Nat} {more tl : List (Addr × Obj)} {t1 t2 t3 : Tok} {Q : Value → Shared → Prop}
    (KX : (hd.heap_39 w.params).In g) (T : Top hd.view_39 loose mean mg mb g) (B : Below callerA g [] g)
    (F : Fr g L h0 m) (N : News g L h0 ((S, ({ cls := .type "list", data := .seq ys.toArray c } : Obj)) :: (L + 1 + 1 + 1, oE) :: (L + 1 + 1, oB) :: (px, instObj 262 pd) :: (pd, dictOf [⟨PyData.keyHash w.params "qval", .str "qval" t1, .int 1 t2⟩, ⟨PyData.keyHash w.params "sim_test", .str "sim_test" t3, .ref 100⟩] nv) :: more))
    (hE : oE.data = .cell (some (.ref S))) (hB : oB.data = .cell (some (.ref px))) (R : RowsIn tl ys es) (htl : ∀ p ∈ tl, p ∈ more) (hyl : ys.length ≤ 1000) (hyl1 : 1 ≤ ys.length) (hlen : ∀ i, (h : i < es.length) → es[i].1.cps.size ≤ 1000)
    (hQ : ∀ D h' tk zl, (∀ p ∈ (S, ({ cls := .type "list", data := .seq ys.toArray c } : Obj)) :: (L + 1 + 1 + 1, oE) :: (L + 1 + 1, oB) :: (px, instObj 262 pd) :: (pd, dictOf [⟨PyData.keyHash w.params "qval", .str "qval" t1, .int 1 t2⟩, ⟨PyData.keyHash w.params "sim_test", .str "sim_test" t3, .ref 100⟩] nv) :: more, @LT.lt Nat _ p.1 D) → Fr g L h' m → News g L h' ((D, lst zl) :: (S, ({ cls := .type "list", data := .seq ys.toArray c } : Obj)) :: (L + 1 + 1 + 1, oE) :: (L + 1 + 1, oB) :: (px, instObj 262 pd) :: (pd, dictOf [⟨PyData.keyHash w.params "qval", .str "qval" t1, .int 1 t2⟩, ⟨PyData.keyHash w.params "sim_test", .str "sim_test" t3, .ref 100⟩] nv) :: more) → IntsAre zl (lcps es) → Q (.ref D) { s with heap := h', toks := tk }),
    wpAny (model Challenge.rw_dr5026_01.row.prog w) (callerA.deeper (envOfC (Str.ofString "law") lawScope L fa cdv)) (eval lawAlike (envOfC (Str.ofString "law") lawScope L fa cdv)) Q NoE { s with heap := h0, toks := k0 } := by
  k_fill
  intro w loose mean mg mb g L fa S px pd cdv m s h0 k0 oE oB ys es c nv more tl t1 t2 t3 Q KX T B F N hE hB R htl hyl hyl1 hlen hQ
  unfold lawAlike lawScope mkComp mkScope
  refine my_ListComp (s := s) F (by with_unfolding_all rfl) (by decide) (by rfl) (by decide) ?_
  k_steps
  rename IsRange _ _ _ _ _ _ _ _ => R10
  rename Fr _ _ _ _ => F11
  rename News _ _ _ _ => N11
  refine from_range (n := ys.length - 1) (s := s) (LS.mk0 (Str.ofString "k")) (fun σ => lst σ.ys) (fun σ => _) (fun i σ => IntsAre σ.ys ((lcps es).take i)) (fun _ => ⟨none, []⟩) plain_list (by rfl) (fun I C D => turn_list1 _ _ _ _ _ _ _ _) (fun C D => inner_list) (fun C D => mono_emit) (by rfl) (by rfl) (by rfl) R10 (by omega) (small_one (by omega) (by omega) (by omega) (by omega)) F11 N11 (fun _ => rfl) (fun _ => by funext z; simp [LS.mk0]) (fun _ => rfl) (fun _ => .nil) ?turnA ?finA
  case turnA =>
    intro I2 C D i2 σ2 v2' oI2' oC h tk hi2 hJ2 hP2 F12 hns N12 offs12 offI12 hCD hIC hID
    obtain ⟨ti, rfl⟩ := hP2
    have hns2 := mkL_ns hns
    have hmk : mkL (Str.ofString "k") (.int (0 + (i2 : Int)) ti) (Str.ofString "k") = some (.int (0 + (i2 : Int)) ti) := rfl
    have hel := R.1
    obtain ⟨T1, a1, b1, hy1', hm1⟩ := R.2 i2 (by omega)
    obtain ⟨T2, a2, b2, hy2', hm2⟩ := R.2 (i2 + 1) (by omega)
    have hit1 : ys.toArray[(0 + (i2 : Int)).toNat]? = some (.ref T1) := by
      have : (0 + (i2 : Int)).toNat = i2 := by omega
      rw [this]; simpa using hy1'
    have hit2 : ys.toArray[(0 + (i2 : Int) + 1).toNat]? = some (.ref T2) := by
      have : (0 + (i2 : Int) + 1).toNat = i2 + 1 := by omega
      rw [this]; simpa using hy2'
    have hr1 := hlen i2 (by omega)
    have hr2 := hlen (i2 + 1) (by omega)
    have N13 := news_front2 N12 (List.mem_append_right [_, _, _, _, _, _, _, _] (htl _ hm1)) (List.mem_append_right [_, _, _, _, _, _, _, _] (htl _ hm2))
    clear hns N12
    (try clear F11); (try clear R10); (try clear N11)
    (try dsimp only at N13); (try dsimp only)
    (try k_fold)
    k_steps
    unfold StopAt
    rename Fr _ _ _ _ => F14
    rename News _ _ _ _ => N14
    rename_i h9 tk9 k9 t9
    have hyl2 : σ2.ys.length ≤ sizeLine := by
      have h1 := ints_len hJ2
      have h3 : 1000 ≤ sizeLine := by decide
      have h4 : ((lcps es).take i2).length ≤ i2 := by rw [List.length_take]; exact Nat.min_le_left _ _
      omega
    refine append_cst (led := (I2, oI2') :: _) F14 N14 hns2 (fun p hp => List.mem_cons_of_mem _ (List.mem_cons_of_mem _ hp)) hCD ?hoA hyl2 ?hpA
    case hoA =>
      intro p hp
      rcases List.mem_cons.mp hp with rfl | hp
      · exact ⟨hIC, hID⟩
      · exact offs12 p hp
    case hpA =>
      intro s' hc
      refine ⟨⟨some (.int (0 + (i2 : Int)) ti), σ2.ys ++ [_]⟩, oI2', ?_, rfl, hc, offI12⟩
      show IntsAre (σ2.ys ++ [_]) _
      rw [lcps_take hel i2 (by omega)]
      exact hJ2.append (.cons _ _ .nil)
  case finA =>
    intro D σ hltD hJ h tk F3 N3
    refine hQ D h tk σ.ys hltD F3 N3 ?_
    have hl : (lcps es).length ≤ ys.length - 1 := by have := R.1; simp [lcps]; omega
    have hJ' : IntsAre σ.ys ((lcps es).take (ys.length - 1)) := hJ
    rw [List.take_of_length_le hl] at hJ'
    exact hJ'
end Mine
end
section
open PySem PySem.W PyProof.Rows PySem.Calls
set_option maxRecDepth 100000
set_option maxHeartbeats 8000000
namespace Mine
theorem reset_L3 : ∃ x : Nat, x = x := by
  w_top off
  first | (walk1; done) | exact ⟨0, rfl⟩
local macro_rules | `(tactic| walk_at "MINE rest") => `(tactic| k_dflt (refine' my_rest ?k1 ?k2 ?k3 ?k4 ?k5 ?kA ?kF ?kK ?k6 ?k7 ?k8 ?kV ?kP ?kG ?kB ?_ ?c2 ?c3 ?c4 ?c5; (case kA => exact rfl); (case kF => exact rfl); (case kK => assumption); (case k1 => k_asm); (case k2 => k_asm); (case k3 => k_asm); (case k4 => k_asm); (case k5 => k_asm); (case k6 => k_is); (case k7 => k_is); (case k8 => ktr_room); (case kV => kl_lit); (case kP => exact rfl); (case kG => exact fun _ => rfl); (case kB => exact fun _ => locs rfl); (case c5 => decide); (case c2 => exact rfl); (case c3 => exact rfl); (case c4 => exact rfl); k_whole; intro D' g' L' h' l1 FG' F' N' B' X' T' gsub' dnew'; (try k_lt l1); (try dsimp only); (try k_lift B'); (try k_fold)))
local macro_rules | `(tactic| walk_at "MINE def") => `(tactic| k_dflt (refine' code_defG ?k1 ?k2 ?k3 ?k4 ?k5 ?kA ?kF ?kK ?k6 ?k7 ?k8 ?k9 ?kB ?_ ?c2 ?c3 ?c4 ?c5; (case kA => exact rfl); (case kF => exact rfl); (case kK => assumption); (case k1 => k_asm); (case k2 => k_asm); (case k3 => k_asm); (case k4 => k_asm); (case k5 => k_asm); (case k6 => k_is); (case k7 => k_is); (case k8 => ktr_room); (case k9 => exact BindsTo.of_eq rfl); (case c5 => decide); (case kB => exact locs rfl); (case c2 => exact rfl); (case c3 => exact rfl); (case c4 => exact rfl); k_whole; intro g' L' h' FG' F' N' B' X' T' gsub'; (try dsimp only); (try k_lift B'); (try k_fold)))
local macro_rules | `(tactic| walk_at "call type:set") => `(tactic| (k_here; (with_reducible show wpAny _ _ (call (Value.type "set") [Value.ref _]) _ _ _); k_dflt (refine' set_tup_N ?k1 ?k2 ?k3 ?k4 ?k5 ?k6 ?_; (case k1 => k_asm); (case k2 => k_asm); (case k3 => exact rfl); (case k4 => k_mem); (case k5 => first | exact StrsAre.two | exact StrsAre.one); (case k6 => exact Nat.le_of_ble_eq_true rfl); k_whole; intro d' h' tk' o' F' N' so' fit'; try k_sweep)))
local macro_rules | `(tactic| walk_at "call builtin:len") => `(tactic| (k_here; (with_reducible show wpAny _ _ (call (Value.builtin "len") [Value.ref _]) _ _ _); k_dflt (refine' len_set_N ?k1 ?k2 ?k3 ?k4 ?_; (case k1 => k_asm); (case k2 => k_mem); (case k3 => assumption); (case k4 => assumption); k_whole)))
local macro_rules | `(tactic| walk_at "MINE calm") => `(tactic| (refine ⟨_, _, rfl, ?kE, ?kP⟩; (case kE => first | exact calm_rest (by assumption) (by assumption) (by assumption) (by assumption) (by assumption) (by first | exact List.forall_mem_nil _ | k_sub) | exact calm_def (by assumption) (by assumption) (by assumption) (by assumption) (by first | exact List.forall_mem_nil _ | k_sub))))
local macro_rules | `(tactic| walk_at "MINE defC") => `(tactic| k_dflt (refine' my_defC ?k1 ?k2 ?k3 ?k4 ?k5 ?kA ?kF ?kK ?k6 ?k7 ?k8 ?k9 ?kB ?kD ?_ ?c2 ?c3 ?c4; (case kA => exact rfl); (case kF => exact rfl); (case kK => assumption); (case k1 => k_asm); (case k2 => k_asm); (case k3 => k_asm); (case k4 => k_asm); (case k5 => k_asm); (case k6 => k_is); (case k7 => k_is); (case k8 => ktr_room); (case k9 => exact BindsTo.of_eq rfl); (case kB => exact rfl); (case kD => decide +kernel); (case c2 => exact rfl); (case c3 => exact rfl); (case c4 => exact rfl); k_whole; intro g' L' h' tk' cells' FG' F' N' Y' B' X' T' gsub' l1; (try k_lt l1); k_cells Y'; (try simp only [List.cons_append, List.nil_append] at N'); (try dsimp only); (try k_lift B'); (try k_fold)))
local macro_rules | `(tactic| walk_at "binaryOp FloorDiv int int") => `(tactic| (with_reducible refine floordiv_int (pow3_ne _) ?_ (Or.inl (pow3_room (by omega)))))
local macro_rules | `(tactic| walk_at "CompSrc") => `(tactic| (k_here; (rename MarkT => mkT); (try k_fmods); k_dflt (refine LCg.CompSrc.range (by rfl) (by k_asm) (by k_asm) (by assumption) (by first | decide | exact small_one (by l_bnd) (by l_bnd) (by l_bnd) (by l_bnd)) (by first | exact rangeSize_nat _ _ | rfl) (by first | exact Nat.le_of_ble_eq_true rfl | (rw [PySem.sizeLine_eq]; first | omega | ((have hb9 := len_ints_list (by lay_of)); omega)) | size_fits) ?_; intro g'; (refine' kct_range _ (fun k' t' I' oI' C' oC' D' m' ys' h' tk' E' hlo' hhi' hC' hx' F' N' off' ne' => ?_) ?_); (all_goals (try (simp only [LCg.Off3, and_true] at off'))); (all_goals (try ((show KPfMark → _); intro hMark'))); kcf_last)))
local macro_rules | `(tactic| walk_at "getAttr ref") => `(tactic| (k_here; k_dflt (refine' get_sm ?k1 ?k2 ?k3 ?k4 ?k5 ?k6 ?k7 ?k8 ?k9 ?k10 ?k11 ?k12 ?_; (case k1 => k_asm); (case k2 => k_asm); (case k3 => k_inst); (case k4 => k_is); (case k5 => k_is); (case k6 => k_is); (case k7 => k_is); (case k8 => k_is); (case k9 => decide +kernel); (case k10 => k_get); (case k11 => k_is); (case k12 => k_handed); k_whole)))
local macro_rules | `(tactic| walk_at "MINE restC") => `(tactic| k_dflt (refine' my_restC ?k1 ?k2 ?k3 ?k4 ?k5 ?kA ?kF ?kK ?k6 ?k7 ?k8 ?kV ?kP ?kG ?kB ?kD ?_ ?c2 ?c3 ?c4; (case kA => exact rfl); (case kF => exact rfl); (case kK => assumption); (case k1 => k_asm); (case k2 => k_asm); (case k3 => k_asm); (case k4 => k_asm); (case k5 => k_asm); (case k6 => k_is); (case k7 => k_is); (case k8 => ktr_room); (case kV => kl_lit); (case kP => exact rfl); (case kG => exact fun _ => rfl); (case kB => exact fun _ => rfl); (case kD => decide +kernel); (case c2 => exact rfl); (case c3 => exact rfl); (case c4 => exact rfl); k_whole; intro D' g' L' h' tk' cells' l1 FG' F' N' Y' B' X' T' gsub' dnew' dlt'; (try k_lt l1); k_cells Y'; (try simp only [List.cons_append, List.nil_append] at N'); (try dsimp only); (try k_lift B'); (try k_fold)))
local macro_rules | `(tactic| walk_at "MINE fresh") => `(tactic| (refine fresh_of (by assumption) (by assumption) (by k_mem) ?_; simp only [List.map_cons, List.map_nil, List.mem_cons, List.not_mem_nil, or_false, not_or]; (repeat' apply And.intro) <;> (first | omega | (refine neN ?_; omega))))
local macro_rules | `(tactic| walk_at "MINE use") => `(tactic| (
  (case k1 => k_asm); (case k2 => k_asm); (case k3 => k_in); (case k4 => k_asm); (case k5 => k_asm); (case k6 => first | exact rfl | assumption); (case k7 => lcg_sub); (case k8 => first | decide | ktr_room); (case k9 => first | decide | ktr_units)))
local macro_rules | `(tactic| walk_at "eval Call Attribute") => `(tactic| (k_here; (with_reducible show wpAny _ _ (eval (Expr.Call (Expr.Attribute _ _ _) [Expr.Starred _ _] [] _) _) _ _ _); refine MethodCall_star ?_))
local macro_rules | `(tactic| walk_at "callWith ref") => `(tactic| (k_here; (with_reducible show wpAny _ _ (callWith _ (Value.ref _) _ (backTo _ (starEach [Expr.Starred _ _] _)) []) _ _ _); k_dflt (refine' callWith_MS ?k1 ?k2 ?k3 ?k4 ?_; (case k1 => k_asm); (case k2 => k_asm); (case k3 => k_mem); (case k4 => k_is); k_whole)))
local macro_rules | `(tactic| walk_at "exec For Name Call cons nil") => `(tactic| (k_here; (rename MarkF => mkF); refine stop_at ?_))
local macro_rules | `(tactic| walk_at "exec For Name Name cons nil") => `(tactic| (k_here; (rename MarkF => mkF); refine stop_at ?_))
local macro_rules | `(tactic| walk_at "exec For Name Tuple cons nil") => `(tactic| (k_here; (rename MarkF => mkF); refine stop_at ?_))
local macro_rules | `(tactic| walk_at "callWith type:zip") => `(tactic| (k_here; (with_reducible show wpAny _ _ (callWith _ (Value.type _) _ (backTo _ (starEach [Expr.Starred _ _] _)) []) _ _ _); refine callWith_typeS (by rfl) ?_))
local macro_rules | `(tactic| walk_at "callWith ref") => `(tactic| (k_here; kco_any "__call__"; kco_here; (with_reducible show wpAny _ _ (callWith _ (Value.ref _) _ (backTo _ (starEach [Expr.Starred _ _] _)) []) _ _ _); k_dflt (refine' callWith_IS ?k1 ?k2 ?k3 ?k4 ?_; (case k1 => k_in); (case k2 => k_inst); (case k3 => rfl); (case k4 => k_is); k_whole)))
local macro_rules | `(tactic| walk_at "call builtin:len") => `(tactic| (k_here; (with_reducible show wpAny _ _ (call (Value.builtin "len") [Value.str _ _]) _ _ _); refine PyProof.Rows.len_str (by omega) ?_))
open PyProof.Rows.LCg
local macro_rules | `(tactic| walk_at "MINE use") => `(tactic| (
  (case k1 => k_asm); (case k2 => k_asm); (case k3 => k_in); (case k4 => k_asm); (case k5 => k_asm); (case k6 => first | exact rfl | assumption); (case k7 => lcg_sub); (case k8 => first | decide | ktr_room); (case k9 => first | decide | ktr_units)))
local macro_rules | `(tactic| walk_at "call builtin:list.append") => `(tactic| (k_here; refine stop_at ?_))
local macro_rules | `(tactic| walk_at "eval ListComp") => `(tactic| (k_here; refine stop_at ?_))
local macro_rules | `(tactic| walk_at "call builtin:sum") => `(tactic| (k_here; (with_reducible show wpAny _ _ (call (Value.builtin "sum") [Value.ref _]) _ _ _); k_dflt (refine' sum_led ?k1 ?k2 ?k3 ?k4 ?k5 ?_; (case k1 => k_asm); (case k2 => k_asm); (case k3 => exact rfl); (case k4 => k_mem); (case k5 => assumption); k_whole; intro h' tk' t' F' N')))
local macro_rules | `(tactic| walk_at "call ref") => `(tactic| (k_here; k_dflt (refine' does_use (pieces_p _ _ _ _ (by assumption) (by assumption) (by assumption)) ?k1 ?k2 ?k3 ?k4 ?k5 ?k6 ?k7 ?k8 ?k9 True.intro ?_; walk_at "MINE use"; k_whole; intro v9 h9 tk9 F9 N9 k9 p9; (obtain ⟨t9, e9⟩ := p9); subst e9)))
theorem sum_led {prog : Program} {w : World} {A : Around} {E : Value → Shared → Prop} {s : Shared} {h₀ : Heap} {L l : Addr} {m : Str → Option Value} {news : List (Addr × Obj)} {vs : List Value} {ns : List Int} {n : Nat} {Q : Value → Shared → Prop} (F : Fr h₀ L s.heap m) (N : News h₀ L s.heap news) (hh : A.handled = none) (hl : (l, ({ cls := .type "list", data := .seq vs.toArray n } : Obj)) ∈ news) (hi : IntsAre vs ns)
    (h : ∀ h' tk t', Fr h₀ L h' m → News h₀ L h' news → Q (.int ns.sum t') { s with heap := h', toks := tk }) : wpAny (model prog w) A (call (.builtin "sum") [.ref l]) Q E s :=
  LSm.sum_ints F N hh ⟨_, (N _ hl).1, rfl, _, rfl⟩ hi h
abbrev wordsO (vs : List Value) : Obj := { cls := .type "list", data := .seq vs.toArray 0 }
def lawMk (x y : Str) (tx ty : Tok) (lg : Addr) (uw uk un um up : Option Value) (z : Str) : Option Value :=
  if z = Str.ofString "words" then uw else if z = Str.ofString "k" then uk else if z = Str.ofString "n" then un else if z = Str.ofString "met" then um else if z = Str.ofString "piece" then up else
  if z = Str.ofString "longest" then some (.ref lg) else if z = Str.ofString "other" then some (.str y ty) else if z = Str.ofString "one" then some (.str x tx) else none
def lens (es : List (Str × Nat)) : List Int := es.map fun e => ((e.1.length : Nat) : Int)
theorem lens_take {es : List (Str × Nat)} (i : Nat) (hi : i < es.length) : (lens es).take (i + 1) = (lens es).take i ++ [((es[i].1.length : Nat) : Int)] := by
  rw [List.take_add_one]
  congr 1
  simp [lens, hi]
theorem check_p : ∀ {w : World} {loose : List Str} {mean : ExcName → Option Value} {mg mb : Str → Option Value} {g : Heap} {L fa S Al wl : Addr} {cdv : Value} {x y : Str} {tx ty : Tok} {lx : Addr} {uk un um up : Option Value} {s : Shared} {h0 : Heap} {k0 : Nat} {oE oA : Obj} {ys zl wvs : List Value} {xs : List Str} {es : List (Str × Nat)} {c : Nat} {more tl : List (Addr × Obj)} {Q : Flow → Shared → Prop}
    (_ : (hd.heap_39 w.params).In g) (_ : Top hd.view_39 loose mean mg mb g) (_ : Below callerA g [] g)
    (_ : Fr g L h0 (lawMk x y tx ty lx (some (.ref wl)) uk un um up)) (_ : News g L h0 ((S, ({ cls := .type "list", data := .seq ys.toArray c } : Obj)) :: (L + 1 + 1 + 1, oE) :: (Al, lst zl) :: (L + 1 + 1 + 1 + 1, oA) :: (wl, wordsO wvs) :: more))
    (_ : oE.data = .cell (some (.ref S))) (_ : oA.data = .cell (some (.ref Al))) (_ : RowsIn tl ys es) (_ : ∀ p ∈ tl, p ∈ more) (_ : ys.length ≤ 1000) (_ : IntsAre zl (lcps es)) (_ : ∀ i, (h : i < es.length) → es[i].1.cps.size ≤ 1000)
    (_ : StrsAre wvs xs) (_ : xs.length ≤ 2) (_ : ∀ x ∈ xs, 1 ≤ x.length ∧ x.length ≤ 7) (_ : (lens es).sum - (lcps es).sum = ((dedup (piecesUpTo xs xs.length)).length : Nat))
    (_ : ∀ h' tk, Fr g L h' (lawMk x y tx ty lx (some (.ref wl)) uk un um up) → News g L h' ((S, ({ cls := .type "list", data := .seq ys.toArray c } : Obj)) :: (L + 1 + 1 + 1, oE) :: (Al, lst zl) :: (L + 1 + 1 + 1 + 1, oA) :: (wl, wordsO wvs) :: more) → Q .next { s with heap := h', toks := tk }),
    wpAny (model Challenge.rw_dr5026_01.row.prog w) (callerA.deeper (envOfC (Str.ofString "law") lawScope L fa cdv)) (exec lawCheck (envOfC (Str.ofString "law") lawScope L fa cdv)) Q NoE { s with heap := h0, toks := k0 } := by
  k_fill
  intro w loose mean mg mb g L fa S Al wl cdv x y tx ty lx uk un um up s h0 k0 oE oA ys zl wvs xs es c more tl Q KX T B F N hE hA R htl hyl hzl hlen hwv hx2 hx7 heq hQ
  unfold lawCheck lawScope mkIf mkScope
  k_steps
  unfold StopAt
  rename Fr _ _ _ _ => F1
  rename News _ _ _ _ => N1
  refine my_ListComp (s := s) F1 (by with_unfolding_all rfl) (by decide) (by rfl) (by decide) ?_
  k_steps
  rename Fr _ _ _ _ => F2
  rename News _ _ _ _ => N2
  refine from_list (vs := ys) (kw := c) (s := s) (LS.mk0 (Str.ofString "end")) (fun σ => lst σ.ys) (fun σ => (S, ({ cls := .type "list", data := .seq ys.toArray c } : Obj)) :: (L + 1 + 1 + 1, oE) :: (Al, lst zl) :: (L + 1 + 1 + 1 + 1, oA) :: (wl, wordsO wvs) :: more) (fun i σ => IntsAre σ.ys ((lens es).take i)) (fun _ => ⟨none, []⟩) plain_list (by rfl) (fun I C D => turn_list1 _ _ _ _ _ _ _ _) (fun C D => inner_list) (fun C D => mono_emit) (by rfl) (by rfl) (by rfl) (fun _ => List.mem_cons_self) F2 N2 (fun _ => rfl) (fun _ => by funext z; simp [LS.mk0]) (fun _ => rfl) (fun _ => .nil) ?turnA ?finA
  case turnA =>
    intro I2 C D i2 σ2 v2' oI2' oC h tk hi2 hJ2 hP2 F12 hns N12 offs12 offI12 hCD hIC hID
    have hns2 := mkL_ns hns
    have hel := R.1
    obtain ⟨T1, a1, b1, hy1', hm1⟩ := R.2 i2 (by omega)
    rw [hP2] at hy1'
    have ev := Option.some.inj hy1'
    subst ev
    have hmk : mkL (Str.ofString "end") (.ref T1) (Str.ofString "end") = some (.ref T1) := rfl
    have hr1 := hlen i2 (by omega)
    have hr2 : es[i2].1.length ≤ 1000 := hr1
    have N13 := news_front2 N12 (List.mem_append_right [_, _, _, _, _, _, _, _] (htl _ hm1)) (List.mem_append_right [_, _, _, _, _, _, _, _] (htl _ hm1))
    clear hns N12
    (try clear F2); (try clear N2); (try clear F1); (try clear N1)
    (try dsimp only at N13); (try dsimp only)
    (try k_fold)
    k_steps
    unfold StopAt
    rename Fr _ _ _ _ => F14
    rename News _ _ _ _ => N14
    have hyl2 : σ2.ys.length ≤ sizeLine := by
      have h1 := ints_len hJ2
      have h3 : 1000 ≤ sizeLine := by decide
      have h4 : ((lens es).take i2).length ≤ i2 := by rw [List.length_take]; exact Nat.min_le_left _ _
      omega
    refine append_cst (led := (I2, oI2') :: _) F14 N14 hns2 (fun p hp => List.mem_cons_of_mem _ (List.mem_cons_of_mem _ hp)) hCD ?hoA hyl2 ?hpA
    case hoA =>
      intro p hp
      rcases List.mem_cons.mp hp with rfl | hp
      · exact ⟨hIC, hID⟩
      · exact offs12 p hp
    case hpA =>
      intro s' hc
      refine ⟨⟨some (.ref T1), σ2.ys ++ [_]⟩, oI2', ?_, rfl, hc, offI12⟩
      show IntsAre (σ2.ys ++ [_]) _
      rw [lens_take i2 (by omega)]
      exact hJ2.append (.cons _ _ .nil)
  case finA =>
    intro D σ hltD hJ h tk F3 N3
    have hll : (lens es).length = ys.length := by have := R.1; simp [lens]; omega
    rw [List.take_of_length_le (by omega)] at hJ
    (try clear F2); (try clear N2); (try clear F1); (try clear N1)
    k_lt hltD
    (try k_fold)
    k_steps
    · exact absurd heq (by assumption)
    · rename Fr _ _ _ _ => F5
      rename News _ _ _ _ => N5
      exact hQ _ _ F5 fun p hp => N5 p (List.mem_cons_of_mem _ hp)
end Mine
end
section
open PySem PySem.W PyProof.Rows PySem.Calls
set_option maxRecDepth 100000
set_option maxHeartbeats 8000000
namespace Mine
theorem reset_L4 : ∃ x : Nat, x = x := by
  w_top off
  first | (walk1; done) | exact ⟨0, rfl⟩
local macro_rules | `(tactic| walk_at "MINE rest") => `(tactic| k_dflt (refine' my_rest ?k1 ?k2 ?k3 ?k4 ?k5 ?kA ?kF ?kK ?k6 ?k7 ?k8 ?kV ?kP ?kG ?kB ?_ ?c2 ?c3 ?c4 ?c5; (case kA => exact rfl); (case kF => exact rfl); (case kK => assumption); (case k1 => k_asm); (case k2 => k_asm); (case k3 => k_asm); (case k4 => k_asm); (case k5 => k_asm); (case k6 => k_is); (case k7 => k_is); (case k8 => ktr_room); (case kV => kl_lit); (case kP => exact rfl); (case kG => exact fun _ => rfl); (case kB => exact fun _ => locs rfl); (case c5 => decide); (case c2 => exact rfl); (case c3 => exact rfl); (case c4 => exact rfl); k_whole; intro D' g' L' h' l1 FG' F' N' B' X' T' gsub' dnew'; (try k_lt l1); (try dsimp only); (try k_lift B'); (try k_fold)))
local macro_rules | `(tactic| walk_at "MINE def") => `(tactic| k_dflt (refine' code_defG ?k1 ?k2 ?k3 ?k4 ?k5 ?kA ?kF ?kK ?k6 ?k7 ?k8 ?k9 ?kB ?_ ?c2 ?c3 ?c4 ?c5; (case kA => exact rfl); (case kF => exact rfl); (case kK => assumption); (case k1 => k_asm); (case k2 => k_asm); (case k3 => k_asm); (case k4 => k_asm); (case k5 => k_asm); (case k6 => k_is); (case k7 => k_is); (case k8 => ktr_room); (case k9 => exact BindsTo.of_eq rfl); (case c5 => decide); (case kB => exact locs rfl); (case c2 => exact rfl); (case c3 => exact rfl); (case c4 => exact rfl); k_whole; intro g' L' h' FG' F' N' B' X' T' gsub'; (try dsimp only); (try k_lift B'); (try k_fold)))
local macro_rules | `(tactic| walk_at "call type:set") => `(tactic| (k_here; (with_reducible show wpAny _ _ (call (Value.type "set") [Value.ref _]) _ _ _); k_dflt (refine' set_tup_N ?k1 ?k2 ?k3 ?k4 ?k5 ?k6 ?_; (case k1 => k_asm); (case k2 => k_asm); (case k3 => exact rfl); (case k4 => k_mem); (case k5 => first | exact StrsAre.two | exact StrsAre.one); (case k6 => exact Nat.le_of_ble_eq_true rfl); k_whole; intro d' h' tk' o' F' N' so' fit'; try k_sweep)))
local macro_rules | `(tactic| walk_at "call builtin:len") => `(tactic| (k_here; (with_reducible show wpAny _ _ (call (Value.builtin "len") [Value.ref _]) _ _ _); k_dflt (refine' len_set_N ?k1 ?k2 ?k3 ?k4 ?_; (case k1 => k_asm); (case k2 => k_mem); (case k3 => assumption); (case k4 => assumption); k_whole)))
local macro_rules | `(tactic| walk_at "MINE calm") => `(tactic| (refine ⟨_, _, rfl, ?kE, ?kP⟩; (case kE => first | exact calm_rest (by assumption) (by assumption) (by assumption) (by assumption) (by assumption) (by first | exact List.forall_mem_nil _ | k_sub) | exact calm_def (by assumption) (by assumption) (by assumption) (by assumption) (by first | exact List.forall_mem_nil _ | k_sub))))
local macro_rules | `(tactic| walk_at "MINE defC") => `(tactic| k_dflt (refine' my_defC ?k1 ?k2 ?k3 ?k4 ?k5 ?kA ?kF ?kK ?k6 ?k7 ?k8 ?k9 ?kB ?kD ?_ ?c2 ?c3 ?c4; (case kA => exact rfl); (case kF => exact rfl); (case kK => assumption); (case k1 => k_asm); (case k2 => k_asm); (case k3 => k_asm); (case k4 => k_asm); (case k5 => k_asm); (case k6 => k_is); (case k7 => k_is); (case k8 => ktr_room); (case k9 => exact BindsTo.of_eq rfl); (case kB => exact rfl); (case kD => decide +kernel); (case c2 => exact rfl); (case c3 => exact rfl); (case c4 => exact rfl); k_whole; intro g' L' h' tk' cells' FG' F' N' Y' B' X' T' gsub' l1; (try k_lt l1); k_cells Y'; (try simp only [List.cons_append, List.nil_append] at N'); (try dsimp only); (try k_lift B'); (try k_fold)))
local macro_rules | `(tactic| walk_at "binaryOp FloorDiv int int") => `(tactic| (with_reducible refine floordiv_int (pow3_ne _) ?_ (Or.inl (pow3_room (by omega)))))
local macro_rules | `(tactic| walk_at "CompSrc") => `(tactic| (k_here; (rename MarkT => mkT); (try k_fmods); k_dflt (refine LCg.CompSrc.range (by rfl) (by k_asm) (by k_asm) (by assumption) (by first | decide | exact small_one (by l_bnd) (by l_bnd) (by l_bnd) (by l_bnd)) (by first | exact rangeSize_nat _ _ | rfl) (by first | exact Nat.le_of_ble_eq_true rfl | (rw [PySem.sizeLine_eq]; first | omega | ((have hb9 := len_ints_list (by lay_of)); omega)) | size_fits) ?_; intro g'; (refine' kct_range _ (fun k' t' I' oI' C' oC' D' m' ys' h' tk' E' hlo' hhi' hC' hx' F' N' off' ne' => ?_) ?_); (all_goals (try (simp only [LCg.Off3, and_true] at off'))); (all_goals (try ((show KPfMark → _); intro hMark'))); kcf_last)))
local macro_rules | `(tactic| walk_at "getAttr ref") => `(tactic| (k_here; k_dflt (refine' get_sm ?k1 ?k2 ?k3 ?k4 ?k5 ?k6 ?k7 ?k8 ?k9 ?k10 ?k11 ?k12 ?_; (case k1 => k_asm); (case k2 => k_asm); (case k3 => k_inst); (case k4 => k_is); (case k5 => k_is); (case k6 => k_is); (case k7 => k_is); (case k8 => k_is); (case k9 => decide +kernel); (case k10 => k_get); (case k11 => k_is); (case k12 => k_handed); k_whole)))
local macro_rules | `(tactic| walk_at "MINE restC") => `(tactic| k_dflt (refine' my_restC ?k1 ?k2 ?k3 ?k4 ?k5 ?kA ?kF ?kK ?k6 ?k7 ?k8 ?kV ?kP ?kG ?kB ?kD ?_ ?c2 ?c3 ?c4; (case kA => exact rfl); (case kF => exact rfl); (case kK => assumption); (case k1 => k_asm); (case k2 => k_asm); (case k3 => k_asm); (case k4 => k_asm); (case k5 => k_asm); (case k6 => k_is); (case k7 => k_is); (case k8 => ktr_room); (case kV => kl_lit); (case kP => exact rfl); (case kG => exact fun _ => rfl); (case kB => exact fun _ => rfl); (case kD => decide +kernel); (case c2 => exact rfl); (case c3 => exact rfl); (case c4 => exact rfl); k_whole; intro D' g' L' h' tk' cells' l1 FG' F' N' Y' B' X' T' gsub' dnew' dlt'; (try k_lt l1); k_cells Y'; (try simp only [List.cons_append, List.nil_append] at N'); (try dsimp only); (try k_lift B'); (try k_fold)))
local macro_rules | `(tactic| walk_at "MINE fresh") => `(tactic| (refine fresh_of (by assumption) (by assumption) (by k_mem) ?_; simp only [List.map_cons, List.map_nil, List.mem_cons, List.not_mem_nil, or_false, not_or]; (repeat' apply And.intro) <;> (first | omega | (refine neN ?_; omega))))
local macro_rules | `(tactic| walk_at "MINE use") => `(tactic| (
  (case k1 => k_asm); (case k2 => k_asm); (case k3 => k_in); (case k4 => k_asm); (case k5 => k_asm); (case k6 => first | exact rfl | assumption); (case k7 => lcg_sub); (case k8 => first | decide | ktr_room); (case k9 => first | decide | ktr_units)))
local macro_rules | `(tactic| walk_at "eval Call Attribute") => `(tactic| (k_here; (with_reducible show wpAny _ _ (eval (Expr.Call (Expr.Attribute _ _ _) [Expr.Starred _ _] [] _) _) _ _ _); refine MethodCall_star ?_))
local macro_rules | `(tactic| walk_at "callWith ref") => `(tactic| (k_here; (with_reducible show wpAny _ _ (callWith _ (Value.ref _) _ (backTo _ (starEach [Expr.Starred _ _] _)) []) _ _ _); k_dflt (refine' callWith_MS ?k1 ?k2 ?k3 ?k4 ?_; (case k1 => k_asm); (case k2 => k_asm); (case k3 => k_mem); (case k4 => k_is); k_whole)))
local macro_rules | `(tactic| walk_at "exec For Name Call cons nil") => `(tactic| (k_here; (rename MarkF => mkF); refine stop_at ?_))
local macro_rules | `(tactic| walk_at "exec For Name Name cons nil") => `(tactic| (k_here; (rename MarkF => mkF); refine stop_at ?_))
local macro_rules | `(tactic| walk_at "exec For Name Tuple cons nil") => `(tactic| (k_here; (rename MarkF => mkF); refine stop_at ?_))
local macro_rules | `(tactic| walk_at "callWith type:zip") => `(tactic| (k_here; (with_reducible show wpAny _ _ (callWith _ (Value.type _) _ (backTo _ (starEach [Expr.Starred _ _] _)) []) _ _ _); refine callWith_typeS (by rfl) ?_))
local macro_rules | `(tactic| walk_at "callWith ref") => `(tactic| (k_here; kco_any "__call__"; kco_here; (with_reducible show wpAny _ _ (callWith _ (Value.ref _) _ (backTo _ (starEach [Expr.Starred _ _] _)) []) _ _ _); k_dflt (refine' callWith_IS ?k1 ?k2 ?k3 ?k4 ?_; (case k1 => k_in); (case k2 => k_inst); (case k3 => rfl); (case k4 => k_is); k_whole)))
local macro_rules | `(tactic| walk_at "call builtin:len") => `(tactic| (k_here; (with_reducible show wpAny _ _ (call (Value.builtin "len") [Value.str _ _]) _ _ _); refine PyProof.Rows.len_str (by omega) ?_))
open PyProof.Rows.LCg
local macro_rules | `(tactic| walk_at "MINE use") => `(tactic| (
  (case k1 => k_asm); (case k2 => k_asm); (case k3 => k_in); (case k4 => k_asm); (case k5 => k_asm); (case k6 => first | exact rfl | assumption); (case k7 => lcg_sub); (case k8 => first | decide | ktr_room); (case k9 => first | decide | ktr_units)))
local macro_rules | `(tactic| walk_at "call builtin:len") => `(tactic| (k_here; (with_reducible show wpAny _ _ (call (Value.builtin "len") [Value.ref _]) _ _ _); k_dflt (refine' my_len ?k1 ?k2 ?k3 ?_; (case k1 => k_asm); (case k2 => k_mem); (case k3 => omega); k_whole)))
local macro_rules | `(tactic| walk_at "subscriptTail Name Name ref int") => `(tactic| (k_here; k_dflt (refine' my_item ?k1 ?k2 ?k3 ?k4 ?k5 ?_; (case k1 => k_asm); (case k2 => k_mem); (case k3 => assumption); (case k4 => omega); (case k5 => omega); k_whole)))
local macro_rules | `(tactic| walk_at "call ref") => `(tactic| (k_here; k_dflt (refine' does_use (psim_p _ _ _ _ _ _ _ _ _ _ (by assumption)) ?k1 ?k2 ?k3 ?k4 ?k5 ?k6 ?k7 ?k8 ?k9 True.intro ?_; walk_at "MINE use"; k_whole; intro v9 h9 tk9 F9 N9 k9 p9; (obtain ⟨t9, e9⟩ := p9); subst e9)))
theorem my_slice {prog : Program} {w : World} {A : Around} {E : Value → Shared → Prop} {s : Shared} {h₀ : Heap} {L l : Addr} {m : Str → Option Value} {news : List (Addr × Obj)} {value slice : Expr} {zl : List Value} {ns : List Int} {k : Nat} {x y : Int} {tx ty : Tok} {Q : Value → Shared → Prop}
    (F : Fr h₀ L s.heap m) (N : News h₀ L s.heap news) (hm : (l, ({ cls := .type "list", data := .seq zl.toArray k } : Obj)) ∈ news) (hi : IntsAre zl ns) (h0 : 0 ≤ x) (h1 : x ≤ y) (h2 : y ≤ ns.length) (hsz : zl.length ≤ 1000)
    (h : ∀ h' D us, Fr h₀ L h' m → News h₀ L h' ((D, ({ cls := .type "list", data := .seq (us : List Value).toArray } : Obj)) :: news) → IntsAre us ((ns.drop x.toNat).take (y - x).toNat) → Q (.ref D) { s with heap := h' })
    (hs : subscripted slice false (.ref l) (.ref s.heap.objs.size) = operate [.ref s.heap.objs.size, .ref l] (getItem (.ref l) (.ref s.heap.objs.size)) := by with_unfolding_all rfl)
    (ht : ∀ r, letTemporaryGo value (.ref l) r = pure () := by intro _; with_unfolding_all rfl) :
    wpAny (model prog w) A (subscriptTail value slice (.ref l) (.ref s.heap.objs.size)) Q E { s with heap := s.heap.push { cls := .type "slice", data := .fields #[.int x tx, .int y ty, .none] } } := by
  refine slice_list (items := zl.toArray) (lo := some x) (hi := some y) F N ⟨_, (N _ hm).1, rfl, _, rfl⟩ (by constructor) (by constructor) (fun h' F' N' => h h' _ (slicePick zl.toArray (some x) (some y) none).toList F' (by simpa using N') (slice_ints hi h0 h1 h2)) hs ht ?_
  rw [List.size_toArray]
  exact Nat.le_trans hsz (by decide)
theorem min_led {prog : Program} {w : World} {A : Around} {E : Value → Shared → Prop} {s : Shared} {h₀ : Heap} {L l : Addr} {m : Str → Option Value} {news : List (Addr × Obj)} {vs : List Value} {ns : List Int} {n : Nat} {Q : Value → Shared → Prop} (F : Fr h₀ L s.heap m) (N : News h₀ L s.heap news) (hh : A.handled = none) (hl : (l, ({ cls := .type "list", data := .seq vs.toArray n } : Obj)) ∈ news) (hi : IntsAre vs ns) (hne : 0 < ns.length)
    (h : ∀ h' M (t : Tok) tk, Fr h₀ L h' m → News h₀ L h' news → M ∈ ns → (∀ a, a ∈ ns → M ≤ a) → Q (.int M t) { s with heap := h', toks := tk }) : wpAny (model prog w) A (call (.builtin "min") [.ref l]) Q E s :=
  min_list_N hh F N ⟨_, (N _ hl).1, rfl, _, rfl⟩ hi hne h
local macro_rules | `(tactic| walk_at "subscriptTail Name Slice ref ref") => `(tactic| (k_here; k_dflt (refine' my_slice (s := ⟨_, _, _, _, _⟩) ?k1 ?k2 ?k3 ?k4 ?k5 ?k6 ?k7 ?k8 ?_; (case k1 => k_asm); (case k2 => k_asm); (case k3 => k_mem); (case k4 => assumption); (case k5 => omega); (case k6 => omega); (case k7 => omega); (case k8 => assumption); k_whole; intro h' D' us' F' N' hi')))
local macro_rules | `(tactic| walk_at "call builtin:min") => `(tactic| (k_here; (with_reducible show wpAny _ _ (call (Value.builtin "min") [Value.ref _]) _ _ _); k_dflt (refine' min_led ?k1 ?k2 ?k3 ?k4 ?k5 ?k6 ?_; (case k1 => k_asm); (case k2 => k_asm); (case k3 => exact rfl); (case k4 => k_mem); (case k5 => assumption); (case k6 => (rw [List.length_take, List.length_drop]; omega)); k_whole; intro h' M' t' tk' F' N' hm' hl')))
/-- the least of the neighbours between answers the pair -/
def MinOk (es : List (Str × Nat)) : Prop := ∀ k n, (hk : k < n) → (hn : n < es.length) → ∀ M, M ∈ ((lcps es).drop k).take (n - k) → (∀ a ∈ ((lcps es).drop k).take (n - k), M ≤ a) → (((lcp es[n].1.cps.toList es[k].1.cps.toList).length : Nat) : Int) = M
theorem min_p : ∀ {w : World} {loose : List Str} {mean : ExcName → Option Value} {mg mb : Str → Option Value} {g : Heap} {L fa S Al px pd : Addr} {cdv : Value} {x y : Str} {tx ty : Tok} {lx : Addr} {uw uk un um up : Option Value} {s : Shared} {h0 : Heap} {k0 : Nat} {oE oA oB : Obj} {ys zl : List Value} {es : List (Str × Nat)} {c nv : Nat} {t1 t2 t3 : Tok} {more tl : List (Addr × Obj)} {Q : Flow → Shared → Prop}
    (_ : (hd.heap_39 w.params).In g) (_ : Top hd.view_39 loose mean mg mb g) (_ : Below callerA g [] g)
    (_ : Fr g L h0 (lawMk x y tx ty lx uw uk un um up)) (_ : News g L h0 ((S, ({ cls := .type "list", data := .seq ys.toArray c } : Obj)) :: (L + 1 + 1 + 1, oE) :: (Al, lst zl) :: (L + 1 + 1 + 1 + 1, oA) :: (L + 1 + 1, oB) :: (px, instObj 262 pd) :: (pd, dictOf [⟨PyData.keyHash w.params "qval", .str "qval" t1, .int 1 t2⟩, ⟨PyData.keyHash w.params "sim_test", .str "sim_test" t3, .ref 100⟩] nv) :: more))
    (_ : oE.data = .cell (some (.ref S))) (_ : oA.data = .cell (some (.ref Al))) (_ : oB.data = .cell (some (.ref px))) (_ : RowsIn tl ys es) (_ : ∀ p ∈ tl, p ∈ more) (_ : ys.length ≤ 1000) (_ : IntsAre zl (lcps es)) (_ : ∀ i, (h : i < es.length) → es[i].1.cps.size ≤ 1000) (_ : MinOk es)
    (_ : ∀ h' tk uk un, Fr g L h' (lawMk x y tx ty lx uw uk un um up) → News g L h' ((S, ({ cls := .type "list", data := .seq ys.toArray c } : Obj)) :: (L + 1 + 1 + 1, oE) :: (Al, lst zl) :: (L + 1 + 1 + 1 + 1, oA) :: (L + 1 + 1, oB) :: (px, instObj 262 pd) :: (pd, dictOf [⟨PyData.keyHash w.params "qval", .str "qval" t1, .int 1 t2⟩, ⟨PyData.keyHash w.params "sim_test", .str "sim_test" t3, .ref 100⟩] nv) :: more) → Q .next { s with heap := h', toks := tk }),
    wpAny (model Challenge.rw_dr5026_01.row.prog w) (callerA.deeper (envOfC (Str.ofString "law") lawScope L fa cdv)) (exec lawMin (envOfC (Str.ofString "law") lawScope L fa cdv)) Q NoE { s with heap := h0, toks := k0 } := by
  k_fill
  intro w loose mean mg mb g L fa S Al px pd cdv x y tx ty lx uw uk un um up s h0 k0 oE oA oB ys zl es c nv t1 t2 t3 more tl Q KX T B F N hE hA hB R htl hyl hzl hlen hmin hQ
  unfold lawMin lawScope mkFor mkScope
  have mark : MarkF := True.intro
  k_steps
  unfold StopAt
  refine for_range (s := s) (g := g) (news := ((S, ({ cls := .type "list", data := .seq ys.toArray c } : Obj)) :: (L + 1 + 1 + 1, oE) :: (Al, lst zl) :: (L + 1 + 1 + 1 + 1, oA) :: (L + 1 + 1, oB) :: (px, instObj 262 pd) :: (pd, dictOf [⟨PyData.keyHash w.params "qval", .str "qval" t1, .int 1 t2⟩, ⟨PyData.keyHash w.params "sim_test", .str "sim_test" t3, .ref 100⟩] nv) :: more)) (fun (σ : Option Value × Option Value) => lawMk x y tx ty lx uw σ.1 σ.2 um up) (fun _ _ => True) (uk, un) 0 ys.length (by rfl) (by rfl) (by rfl) ?iter True.intro ?turn ?fin
  case iter =>
    intro Q' hQ'
    k_steps
    rename IsRange _ _ _ _ _ _ _ _ => R1
    rename Fr _ _ _ _ => F1
    rename News _ _ _ _ => N1
    exact hQ' _ _ _ _ _ _ _ R1 (by omega) (small_one (by omega) (by omega) (by omega) (by omega)) F1 N1
  case fin =>
    intro σ h tk _ F1 N1
    exact hQ h tk σ.1 σ.2 F1 N1
  case turn =>
    intro k σ tk1 I oI h tk hk _ F1 N1 hnI
    have F2 := fr_same (m' := lawMk x y tx ty lx uw (some (.int (0 + (k : Int)) tk1)) σ.2 um up) F1 (fun z => by
      unfold lawMk
      by_cases h1 : z = Str.ofString "words"
      · subst h1; rfl
      · by_cases h2 : z = Str.ofString "k"
        · subst h2; rfl
        · simp only [if_neg h1, if_neg h2])
    clear F1
    (try k_fold)
    k_steps
    unfold StopAt
    refine for_range (s := s) (g := g) (news := (I, oI) :: ((S, ({ cls := .type "list", data := .seq ys.toArray c } : Obj)) :: (L + 1 + 1 + 1, oE) :: (Al, lst zl) :: (L + 1 + 1 + 1 + 1, oA) :: (L + 1 + 1, oB) :: (px, instObj 262 pd) :: (pd, dictOf [⟨PyData.keyHash w.params "qval", .str "qval" t1, .int 1 t2⟩, ⟨PyData.keyHash w.params "sim_test", .str "sim_test" t3, .ref 100⟩] nv) :: more)) (fun (σ' : Option Value) => lawMk x y tx ty lx uw (some (.int (0 + (k : Int)) tk1)) σ' um up) (fun _ _ => True) σ.2 (0 + (k : Int) + 1) (ys.length - (k + 1)) (by rfl) (by rfl) (by rfl) ?iter2 True.intro ?turn2 ?fin2
    case iter2 =>
      intro Q' hQ'
      k_steps
      rename IsRange _ _ _ _ _ _ _ _ => R3
      rename Fr _ _ _ _ => F3
      rename News _ _ _ _ => N3
      exact hQ' _ _ _ _ _ _ _ R3 (by omega) (small_one (by omega) (by omega) (by omega) (by omega)) F3 N3
    case fin2 =>
      intro σ' h tk _ F3 N3
      refine wpAny_execs_nil ?_
      exact turn_end (some (.int (0 + (k : Int)) tk1), σ') F3 (fun _ => rfl) N3 (fun _ h => h) True.intro
    case turn2 =>
      intro n σ' tn J oJ h tk hn _ F3 N3 hnJ
      have F4 := fr_same (m' := lawMk x y tx ty lx uw (some (.int (0 + (k : Int)) tk1)) (some (.int (0 + (k : Int) + 1 + (n : Int)) tn)) um up) F3 (fun z => by
        unfold lawMk
        by_cases h1 : z = Str.ofString "words"
        · subst h1; rfl
        · by_cases h2 : z = Str.ofString "k"
          · subst h2; rfl
          · by_cases h3 : z = Str.ofString "n"
            · subst h3; rfl
            · simp only [if_neg h1, if_neg h2, if_neg h3])
      have hel := R.1
      obtain ⟨T1, a1, b1, hy1', hm1⟩ := R.2 (k + 1 + n) (by omega)
      obtain ⟨T2, a2, b2, hy2', hm2⟩ := R.2 k (by omega)
      have hit1 : ys.toArray[(0 + (k : Int) + 1 + (n : Int)).toNat]? = some (.ref T1) := by
        have : (0 + (k : Int) + 1 + (n : Int)).toNat = k + 1 + n := by omega
        rw [this]; simpa using hy1'
      have hit2 : ys.toArray[(0 + (k : Int)).toNat]? = some (.ref T2) := by
        have : (0 + (k : Int)).toNat = k := by omega
        rw [this]; simpa using hy2'
      have hr1 := hlen (k + 1 + n) (by omega)
      have hr2 := hlen k (by omega)
      have N4 := news_front2 N3 (List.mem_append_right [_, _, _, _, _, _, _, _, _] (htl _ hm1)) (List.mem_append_right [_, _, _, _, _, _, _, _, _] (htl _ hm2))
      clear F3 N3
      have hll : (lcps es).length = es.length - 1 := by simp [lcps]
      have hzn : zl.length ≤ 1000 := by have := ints_len hzl; omega
      (try k_fold)
      have e1 : (0 + (k : Int)).toNat = k := by omega
      have e2 : (0 + (k : Int) + 1 + (n : Int) - (0 + (k : Int))).toNat = k + 1 + n - k := by omega
      k_steps
      · rename_i hml hle hne
        rw [e1, e2] at hml hle
        exact absurd (hmin k (k + 1 + n) (by omega) (by omega) _ hml hle) hne
      · rename Fr _ _ _ _ => F5
        rename News _ _ _ _ => N5
        exact turn_end (some (.int (0 + (k : Int) + 1 + (n : Int)) tn)) F5 (fun _ => rfl) N5 (fun p hp => by first | exact List.mem_cons_of_mem _ (List.mem_cons_of_mem _ hp) | exact List.mem_cons_of_mem _ (List.mem_cons_of_mem _ (List.mem_cons_of_mem _ hp))) True.intro
end Mine
end
section
open PySem PySem.W PyProof.Rows PySem.Calls
set_option maxRecDepth 100000
set_option maxHeartbeats 8000000
namespace Mine
theorem reset_L5 : ∃ x : Nat, x = x := by
  w_top off
  first | (walk1; done) | exact ⟨0, rfl⟩
local macro_rules | `(tactic| walk_at "MINE rest") => `(tactic| k_dflt (refine' my_rest ?k1 ?k2 ?k3 ?k4 ?k5 ?kA ?kF ?kK ?k6 ?k7 ?k8 ?kV ?kP ?kG ?kB ?_ ?c2 ?c3 ?c4 ?c5; (case kA => exact rfl); (case kF => exact rfl); (case kK => assumption); (case k1 => k_asm); (case k2 => k_asm); (case k3 => k_asm); (case k4 => k_asm); (case k5 => k_asm); (case k6 => k_is); (case k7 => k_is); (case k8 => ktr_room); (case kV => kl_lit); (case kP => exact rfl); (case kG => exact fun _ => rfl); (case kB => exact fun _ => locs rfl); (case c5 => decide); (case c2 => exact rfl); (case c3 => exact rfl); (case c4 => exact rfl); k_whole; intro D' g' L' h' l1 FG' F' N' B' X' T' gsub' dnew'; (try k_lt l1); (try dsimp only); (try k_lift B'); (try k_fold)))
local macro_rules | `(tactic| walk_at "MINE def") => `(tactic| k_dflt (refine' code_defG ?k1 ?k2 ?k3 ?k4 ?k5 ?kA ?kF ?kK ?k6 ?k7 ?k8 ?k9 ?kB ?_ ?c2 ?c3 ?c4 ?c5; (case kA => exact rfl); (case kF => exact rfl); (case kK => assumption); (case k1 => k_asm); (case k2 => k_asm); (case k3 => k_asm); (case k4 => k_asm); (case k5 => k_asm); (case k6 => k_is); (case k7 => k_is); (case k8 => ktr_room); (case k9 => exact BindsTo.of_eq rfl); (case c5 => decide); (case kB => exact locs rfl); (case c2 => exact rfl); (case c3 => exact rfl); (case c4 => exact rfl); k_whole; intro g' L' h' FG' F' N' B' X' T' gsub'; (try dsimp only); (try k_lift B'); (try k_fold)))
local macro_rules | `(tactic| walk_at "call type:set") => `(tactic| (k_here; (with_reducible show wpAny _ _ (call (Value.type "set") [Value.ref _]) _ _ _); k_dflt (refine' set_tup_N ?k1 ?k2 ?k3 ?k4 ?k5 ?k6 ?_; (case k1 => k_asm); (case k2 => k_asm); (case k3 => exact rfl); (case k4 => k_mem); (case k5 => first | exact StrsAre.two | exact StrsAre.one); (case k6 => exact Nat.le_of_ble_eq_true rfl); k_whole; intro d' h' tk' o' F' N' so' fit'; try k_sweep)))
local macro_rules | `(tactic| walk_at "call builtin:len") => `(tactic| (k_here; (with_reducible show wpAny _ _ (call (Value.builtin "len") [Value.ref _]) _ _ _); k_dflt (refine' len_set_N ?k1 ?k2 ?k3 ?k4 ?_; (case k1 => k_asm); (case k2 => k_mem); (case k3 => assumption); (case k4 => assumption); k_whole)))
local macro_rules | `(tactic| walk_at "MINE calm") => `(tactic| (refine ⟨_, _, rfl, ?kE, ?kP⟩; (case kE => first | exact calm_rest (by assumption) (by assumption) (by assumption) (by assumption) (by assumption) (by first | exact List.forall_mem_nil _ | k_sub) | exact calm_def (by assumption) (by assumption) (by assumption) (by assumption) (by first | exact List.forall_mem_nil _ | k_sub))))
local macro_rules | `(tactic| walk_at "MINE defC") => `(tactic| k_dflt (refine' my_defC ?k1 ?k2 ?k3 ?k4 ?k5 ?kA ?kF ?kK ?k6 ?k7 ?k8 ?k9 ?kB ?kD ?_ ?c2 ?c3 ?c4; (case kA => exact rfl); (case kF => exact rfl); (case kK => assumption); (case k1 => k_asm); (case k2 => k_asm); (case k3 => k_asm); (case k4 => k_asm); (case k5 => k_asm); (case k6 => k_is); (case k7 => k_is); (case k8 => ktr_room); (case k9 => exact BindsTo.of_eq rfl); (case kB => exact rfl); (case kD => decide +kernel); (case c2 => exact rfl); (case c3 => exact rfl); (case c4 => exact rfl); k_whole; intro g' L' h' tk' cells' FG' F' N' Y' B' X' T' gsub' l1; (try k_lt l1); k_cells Y'; (try simp only [List.cons_append, List.nil_append] at N'); (try dsimp only); (try k_lift B'); (try k_fold)))
local macro_rules | `(tactic| walk_at "binaryOp FloorDiv int int") => `(tactic| (with_reducible refine floordiv_int (pow3_ne _) ?_ (Or.inl (pow3_room (by omega)))))
local macro_rules | `(tactic| walk_at "CompSrc") => `(tactic| (k_here; (rename MarkT => mkT); (try k_fmods); k_dflt (refine LCg.CompSrc.range (by rfl) (by k_asm) (by k_asm) (by assumption) (by first | decide | exact small_one (by l_bnd) (by l_bnd) (by l_bnd) (by l_bnd)) (by first | exact rangeSize_nat _ _ | rfl) (by first | exact Nat.le_of_ble_eq_true rfl | (rw [PySem.sizeLine_eq]; first | omega | ((have hb9 := len_ints_list (by lay_of)); omega)) | size_fits) ?_; intro g'; (refine' kct_range _ (fun k' t' I' oI' C' oC' D' m' ys' h' tk' E' hlo' hhi' hC' hx' F' N' off' ne' => ?_) ?_); (all_goals (try (simp only [LCg.Off3, and_true] at off'))); (all_goals (try ((show KPfMark → _); intro hMark'))); kcf_last)))
local macro_rules | `(tactic| walk_at "getAttr ref") => `(tactic| (k_here; k_dflt (refine' get_sm ?k1 ?k2 ?k3 ?k4 ?k5 ?k6 ?k7 ?k8 ?k9 ?k10 ?k11 ?k12 ?_; (case k1 => k_asm); (case k2 => k_asm); (case k3 => k_inst); (case k4 => k_is); (case k5 => k_is); (case k6 => k_is); (case k7 => k_is); (case k8 => k_is); (case k9 => decide +kernel); (case k10 => k_get); (case k11 => k_is); (case k12 => k_handed); k_whole)))
local macro_rules | `(tactic| walk_at "MINE restC") => `(tactic| k_dflt (refine' my_restC ?k1 ?k2 ?k3 ?k4 ?k5 ?kA ?kF ?kK ?k6 ?k7 ?k8 ?kV ?kP ?kG ?kB ?kD ?_ ?c2 ?c3 ?c4; (case kA => exact rfl); (case kF => exact rfl); (case kK => assumption); (case k1 => k_asm); (case k2 => k_asm); (case k3 => k_asm); (case k4 => k_asm); (case k5 => k_asm); (case k6 => k_is); (case k7 => k_is); (case k8 => ktr_room); (case kV => kl_lit); (case kP => exact rfl); (case kG => exact fun _ => rfl); (case kB => exact fun _ => rfl); (case kD => decide +kernel); (case c2 => exact rfl); (case c3 => exact rfl); (case c4 => exact rfl); k_whole; intro D' g' L' h' tk' cells' l1 FG' F' N' Y' B' X' T' gsub' dnew' dlt'; (try k_lt l1); k_cells Y'; (try simp only [List.cons_append, List.nil_append] at N'); (try dsimp only); (try k_lift B'); (try k_fold)))
local macro_rules | `(tactic| walk_at "MINE fresh") => `(tactic| (refine fresh_of (by assumption) (by assumption) (by k_mem) ?_; simp only [List.map_cons, List.map_nil, List.mem_cons, List.not_mem_nil, or_false, not_or]; (repeat' apply And.intro) <;> (first | omega | (refine neN ?_; omega))))
local macro_rules | `(tactic| walk_at "MINE use") => `(tactic| (
  (case k1 => k_asm); (case k2 => k_asm); (case k3 => k_in); (case k4 => k_asm); (case k5 => k_asm); (case k6 => first | exact rfl | assumption); (case k7 => lcg_sub); (case k8 => first | decide | ktr_room); (case k9 => first | decide | ktr_units)))
local macro_rules | `(tactic| walk_at "eval Call Attribute") => `(tactic| (k_here; (with_reducible show wpAny _ _ (eval (Expr.Call (Expr.Attribute _ _ _) [Expr.Starred _ _] [] _) _) _ _ _); refine MethodCall_star ?_))
local macro_rules | `(tactic| walk_at "callWith ref") => `(tactic| (k_here; (with_reducible show wpAny _ _ (callWith _ (Value.ref _) _ (backTo _ (starEach [Expr.Starred _ _] _)) []) _ _ _); k_dflt (refine' callWith_MS ?k1 ?k2 ?k3 ?k4 ?_; (case k1 => k_asm); (case k2 => k_asm); (case k3 => k_mem); (case k4 => k_is); k_whole)))
local macro_rules | `(tactic| walk_at "exec For Name Call cons nil") => `(tactic| (k_here; (rename MarkF => mkF); refine stop_at ?_))
local macro_rules | `(tactic| walk_at "exec For Name Name cons nil") => `(tactic| (k_here; (rename MarkF => mkF); refine stop_at ?_))
local macro_rules | `(tactic| walk_at "exec For Name Tuple cons nil") => `(tactic| (k_here; (rename MarkF => mkF); refine stop_at ?_))
local macro_rules | `(tactic| walk_at "callWith type:zip") => `(tactic| (k_here; (with_reducible show wpAny _ _ (callWith _ (Value.type _) _ (backTo _ (starEach [Expr.Starred _ _] _)) []) _ _ _); refine callWith_typeS (by rfl) ?_))
local macro_rules | `(tactic| walk_at "callWith ref") => `(tactic| (k_here; kco_any "__call__"; kco_here; (with_reducible show wpAny _ _ (callWith _ (Value.ref _) _ (backTo _ (starEach [Expr.Starred _ _] _)) []) _ _ _); k_dflt (refine' callWith_IS ?k1 ?k2 ?k3 ?k4 ?_; (case k1 => k_in); (case k2 => k_inst); (case k3 => rfl); (case k4 => k_is); k_whole)))
local macro_rules | `(tactic| walk_at "call builtin:len") => `(tactic| (k_here; (with_reducible show wpAny _ _ (call (Value.builtin "len") [Value.str _ _]) _ _ _); refine PyProof.Rows.len_str (by omega) ?_))
open PyProof.Rows.LCg
local macro_rules | `(tactic| walk_at "call builtin:list.append") => `(tactic| (k_here; refine stop_at ?_))
local macro_rules | `(tactic| walk_at "Exists") => `(tactic| (k_here; (with_reducible show ∃ (_ : LS), ∃ (_ : Obj), _ ∧ _); refine stop_at ?_))
local macro_rules | `(tactic| walk_at "eval ListComp") => `(tactic| (k_here; refine stop_at ?_))
local macro_rules | `(tactic| walk_at "call builtin:len") => `(tactic| (k_here; (with_reducible show wpAny _ _ (call (Value.builtin "len") [Value.ref _]) _ _ _); k_dflt (refine' my_len ?k1 ?k2 ?k3 ?_; (case k1 => k_asm); (case k2 => k_mem); (case k3 => omega); k_whole)))
local macro_rules | `(tactic| walk_at "subscriptTail Name Name ref int") => `(tactic| (k_here; k_dflt (refine' my_item ?k1 ?k2 ?k3 ?k4 ?k5 ?_; (case k1 => k_asm); (case k2 => k_mem); (case k3 => assumption); (case k4 => omega); (case k5 => omega); k_whole)))
local macro_rules | `(tactic| walk_at "subscriptTail Name BinOp ref int") => `(tactic| (k_here; k_dflt (refine' my_item ?k1 ?k2 ?k3 ?k4 ?k5 ?_; (case k1 => k_asm); (case k2 => k_mem); (case k3 => assumption); (case k4 => omega); (case k5 => omega); k_whole)))
theorem max_led {prog : Program} {w : World} {A : Around} {E : Value → Shared → Prop} {s : Shared} {h₀ : Heap} {L l : Addr} {m : Str → Option Value} {news : List (Addr × Obj)} {vs : List Value} {ns : List Int} {n : Nat} {Q : Value → Shared → Prop} (F : Fr h₀ L s.heap m) (N : News h₀ L s.heap news) (hh : A.handled = none) (hl : (l, ({ cls := .type "list", data := .seq vs.toArray n } : Obj)) ∈ news) (hi : IntsAre vs ns) (hne : 0 < ns.length)
    (h : ∀ h' M (t : Tok) tk, Fr h₀ L h' m → News h₀ L h' news → M ∈ ns → (∀ a, a ∈ ns → a ≤ M) → Q (.int M t) { s with heap := h', toks := tk }) : wpAny (model prog w) A (call (.builtin "max") [.ref l]) Q E s :=
  max_list_N hh F N ⟨_, (N _ hl).1, rfl, _, rfl⟩ hi hne h
local macro_rules | `(tactic| walk_at "call builtin:max") => `(tactic| (k_here; (with_reducible show wpAny _ _ (call (Value.builtin "max") [Value.ref _]) _ _ _); k_dflt (refine' max_led ?k1 ?k2 ?k3 ?k4 ?k5 ?k6 ?_; (case k1 => k_asm); (case k2 => k_asm); (case k3 => exact rfl); (case k4 => k_mem); (case k5 => assumption); (case k6 => assumption); k_whole; intro h' M' t' tk' F' N' hm' hl')))
theorem ints_get : ∀ {vs : List Value} {ns : List Int}, IntsAre vs ns → ∀ (i : Nat) (n : Int), ns[i]? = some n → ∃ t, vs[i]? = some (.int n t)
  | _, _, .nil, i, n, h => by simp at h
  | _, _, .cons _ t r, 0, n, h => by
    simp only [List.getElem?_cons_zero, Option.some.injEq] at h
    subst h
    exact ⟨t, rfl⟩
  | _, _, .cons _ _ r, i + 1, n, h => by
    simp only [List.getElem?_cons_succ] at h ⊢
    exact ints_get r i n h
/-- common beginnings of neighbours of different words, among the first -/
def mets (es : List (Str × Nat)) (i : Nat) : List Int := (List.range i).flatMap fun k => if (es.getD k (⟨#[]⟩, 0)).2 = (es.getD (k + 1) (⟨#[]⟩, 0)).2 then [] else [(((lcp (es.getD k (⟨#[]⟩, 0)).1.cps.toList (es.getD (k + 1) (⟨#[]⟩, 0)).1.cps.toList).length : Nat) : Int)]
theorem mets_same {es : List (Str × Nat)} {i : Nat} (h : i + 1 < es.length) (e : es[i].2 = es[i + 1].2) : mets es (i + 1) = mets es i := by
  have h0 : i < es.length := by omega
  have e' : (es.getD i (⟨#[]⟩, 0)).2 = (es.getD (i + 1) (⟨#[]⟩, 0)).2 := by simpa [h, h0] using e
  unfold mets
  rw [List.range_succ, List.flatMap_append, List.flatMap_singleton, if_pos e', List.append_nil]
theorem mets_other {es : List (Str × Nat)} {i : Nat} (h : i + 1 < es.length) (e : es[i].2 ≠ es[i + 1].2) : mets es (i + 1) = mets es i ++ [(((lcp es[i].1.cps.toList es[i + 1].1.cps.toList).length : Nat) : Int)] := by
  have h0 : i < es.length := by omega
  have e' : ¬ (es.getD i (⟨#[]⟩, 0)).2 = (es.getD (i + 1) (⟨#[]⟩, 0)).2 := by simpa [h, h0] using e
  unfold mets
  rw [List.range_succ, List.flatMap_append]
  congr 1
  rw [List.flatMap_singleton, if_neg e']
  simp [h, h0]
theorem mets_le (es : List (Str × Nat)) : ∀ i, (mets es i).length ≤ i
  | 0 => by simp [mets]
  | i + 1 => by
    have ih := mets_le es i
    have : mets es (i + 1) = mets es i ++ (if (es.getD i (⟨#[]⟩, 0)).2 = (es.getD (i + 1) (⟨#[]⟩, 0)).2 then [] else [(((lcp (es.getD i (⟨#[]⟩, 0)).1.cps.toList (es.getD (i + 1) (⟨#[]⟩, 0)).1.cps.toList).length : Nat) : Int)]) := by
      unfold mets
      rw [List.range_succ, List.flatMap_append, List.flatMap_singleton]
    rw [this, List.length_append]
    split <;> simp <;> omega
theorem met_p : ∀ {w : World} {loose : List Str} {mean : ExcName → Option Value} {mg mb : Str → Option Value} {g : Heap} {L fa S Al : Addr} {cdv : Value} {m : Str → Option Value} {s : Shared} {h0 : Heap} {k0 : Nat} {oE oA : Obj} {ys zl : List Value} {es : List (Str × Nat)} {c : Nat} {more tl : List (Addr × Obj)} {Q : Value → Shared → Prop}
    (_ : (hd.heap_39 w.params).In g) (_ : Top hd.view_39 loose mean mg mb g) (_ : Below callerA g [] g)
    (_ : Fr g L h0 m) (_ : News g L h0 ((S, ({ cls := .type "list", data := .seq ys.toArray c } : Obj)) :: (L + 1 + 1 + 1, oE) :: (Al, lst zl) :: (L + 1 + 1 + 1 + 1, oA) :: more))
    (_ : oE.data = .cell (some (.ref S))) (_ : oA.data = .cell (some (.ref Al))) (_ : RowsIn tl ys es) (_ : ∀ p ∈ tl, p ∈ more) (_ : ys.length ≤ 1000) (_ : 1 ≤ ys.length) (_ : IntsAre zl (lcps es)) (_ : ∀ i, (h : i < es.length) → es[i].2 ≤ 1000) (_ : 0 < (mets es (es.length - 1)).length)
    (_ : ∀ h' tk M t, Fr g L h' m → News g L h' ((S, ({ cls := .type "list", data := .seq ys.toArray c } : Obj)) :: (L + 1 + 1 + 1, oE) :: (Al, lst zl) :: (L + 1 + 1 + 1 + 1, oA) :: more) → M ∈ mets es (es.length - 1) → (∀ a ∈ mets es (es.length - 1), a ≤ M) → Q (.int M t) { s with heap := h', toks := tk }),
    wpAny (model Challenge.rw_dr5026_01.row.prog w) (callerA.deeper (envOfC (Str.ofString "law") lawScope L fa cdv)) (eval lawMet (envOfC (Str.ofString "law") lawScope L fa cdv)) Q NoE { s with heap := h0, toks := k0 } := by
  k_fill
  intro w loose mean mg mb g L fa S Al cdv m s h0 k0 oE oA ys zl es c more tl Q KX T B F N hE hA R htl hyl hyl1 hzl hkl hne hQ
  unfold lawMet lawScope mkCall mkScope
  have hll : (lcps es).length = es.length - 1 := by simp [lcps]
  have hzl0 : zl.length = ys.length - 1 := by have := ints_len hzl; have := R.1; omega
  have hel := R.1
  k_steps
  unfold StopAt
  rename Fr _ _ _ _ => F1
  rename News _ _ _ _ => N1
  refine my_ListComp (s := s) F1 (by with_unfolding_all rfl) (by decide) (by rfl) (by decide) ?_
  k_steps
  rename IsRange _ _ _ _ _ _ _ _ => R10
  rename Fr _ _ _ _ => F11
  rename News _ _ _ _ => N11
  refine from_range (n := ys.length - 1) (s := s) (LS.mk0 (Str.ofString "k")) (fun σ => lst σ.ys) (fun σ => _) (fun i σ => IntsAre σ.ys (mets es i)) (fun _ => ⟨none, []⟩) plain_list (by rfl) (fun I C D => turn_listIf _ _ _ _ _ _ _ _ _) (fun C D => inner_listIf) (fun C D => mono_listIf) (by rfl) (by rfl) (by rfl) R10 (by omega) (small_one (by omega) (by omega) (by omega) (by omega)) F11 N11 (fun _ => rfl) (fun _ => by funext z; simp [LS.mk0]) (fun _ => rfl) (fun _ => by simp only [mets, List.range_zero, List.flatMap_nil]; exact .nil) ?turnA ?finA
  case turnA =>
    rename IntsAre zl (lcps es) => hzl
    intro I2 C D i2 σ2 v2' oI2' oC h tk hi2 hJ2 hP2 F12 hns N12 offs12 offI12 hCD hIC hID
    obtain ⟨ti, rfl⟩ := hP2
    have hns2 := mkL_ns hns
    have hmk : mkL (Str.ofString "k") (.int (0 + (i2 : Int)) ti) (Str.ofString "k") = some (.int (0 + (i2 : Int)) ti) := rfl
    obtain ⟨T1, a1, b1, hy1', hm1⟩ := R.2 i2 (by omega)
    obtain ⟨T2, a2, b2, hy2', hm2⟩ := R.2 (i2 + 1) (by omega)
    have hit1 : ys.toArray[(0 + (i2 : Int)).toNat]? = some (.ref T1) := by
      have : (0 + (i2 : Int)).toNat = i2 := by omega
      rw [this]; simpa using hy1'
    have hit2 : ys.toArray[(0 + (i2 : Int) + 1).toNat]? = some (.ref T2) := by
      have : (0 + (i2 : Int) + 1).toNat = i2 + 1 := by omega
      rw [this]; simpa using hy2'
    have hlc : (lcps es)[i2]? = some (((lcp es[i2].1.cps.toList es[i2 + 1].1.cps.toList).length : Nat) : Int) := by
      have h1 : i2 < es.length - 1 := by omega
      have h2 : i2 < es.length := by omega
      have h3 : i2 + 1 < es.length := by omega
      simp [lcps, h1, h2, h3]
    obtain ⟨tz, hz⟩ := ints_get hzl i2 _ hlc
    have hit3 : zl.toArray[(0 + (i2 : Int)).toNat]? = some (.int (((lcp es[i2].1.cps.toList es[i2 + 1].1.cps.toList).length : Nat) : Int) tz) := by
      have : (0 + (i2 : Int)).toNat = i2 := by omega
      rw [this]; simpa using hz
    have hr1 := hkl i2 (by omega)
    have hr2 := hkl (i2 + 1) (by omega)
    have N13 := news_front2 N12 (List.mem_append_right [_, _, _, _, _, _, _] (htl _ hm1)) (List.mem_append_right [_, _, _, _, _, _, _] (htl _ hm2))
    clear hns N12
    (try clear F11); (try clear R10); (try clear N11)
    (try dsimp only at N13); (try dsimp only)
    (try k_fold)
    k_steps
    · unfold StopAt
      rename Fr _ _ _ _ => F14
      rename News _ _ _ _ => N14
      rename _ ≠ _ => hkk
      have hyl2 : σ2.ys.length ≤ sizeLine := by
        have h1 := ints_len hJ2
        have h3 : 1000 ≤ sizeLine := by decide
        have h4 := mets_le es i2
        omega
      refine append_cst (led := (I2, oI2') :: _) F14 N14 hns2 (fun p hp => List.mem_cons_of_mem _ (List.mem_cons_of_mem _ hp)) hCD ?hoA hyl2 ?hpA
      case hoA =>
        intro p hp
        rcases List.mem_cons.mp hp with rfl | hp
        · exact ⟨hIC, hID⟩
        · exact offs12 p hp
      case hpA =>
        intro s' hc
        refine ⟨⟨some (.int (0 + (i2 : Int)) ti), σ2.ys ++ [_]⟩, oI2', ?_, rfl, hc, offI12⟩
        show IntsAre (σ2.ys ++ [_]) _
        rw [mets_other (by omega) (fun e => hkk (by rw [e]))]
        exact hJ2.append (.cons _ _ .nil)
    · unfold StopAt
      rename Fr _ _ _ _ => F14
      rename News _ _ _ _ => N14
      have hkk' : es[i2].2 = es[i2 + 1].2 := by omega
      refine ⟨⟨some (.int (0 + (i2 : Int)) ti), σ2.ys⟩, oI2', ?_, rfl, ⟨_, _, oC, rfl, F14, hns2, ?_, hCD, ?_⟩, offI12⟩
      · show IntsAre σ2.ys _
        rw [mets_same (by omega) hkk']
        exact hJ2
      · exact fun p hp => N14 p (List.mem_cons_of_mem _ (List.mem_cons_of_mem _ hp))
      · intro p hp
        rcases List.mem_cons.mp hp with rfl | hp
        · exact ⟨hIC, hID⟩
        · exact offs12 p hp
  case finA =>
    intro D σ hltD hJ h tk F3 N3
    rw [hel] at hJ
    k_lt hltD
    (try k_fold)
    k_steps
    rename Fr _ _ _ _ => F5
    rename News _ _ _ _ => N5
    rename _ ∈ mets _ _ => hm1
    rename ∀ _, _ ∈ mets _ _ → _ => hm2
    exact hQ _ _ _ _ F5 (fun p hp => N5 p (List.mem_cons_of_mem _ hp)) hm1 hm2
end Mine
end
section
open PySem PySem.W PyProof.Rows PySem.Calls
set_option maxRecDepth 100000
set_option maxHeartbeats 8000000
namespace Mine
theorem reset_L6 : ∃ x : Nat, x = x := by
  w_top off
  first | (walk1; done) | exact ⟨0, rfl⟩
local macro_rules | `(tactic| walk_at "MINE rest") => `(tactic| k_dflt (refine' my_rest ?k1 ?k2 ?k3 ?k4 ?k5 ?kA ?kF ?kK ?k6 ?k7 ?k8 ?kV ?kP ?kG ?kB ?_ ?c2 ?c3 ?c4 ?c5; (case kA => exact rfl); (case kF => exact rfl); (case kK => assumption); (case k1 => k_asm); (case k2 => k_asm); (case k3 => k_asm); (case k4 => k_asm); (case k5 => k_asm); (case k6 => k_is); (case k7 => k_is); (case k8 => ktr_room); (case kV => kl_lit); (case kP => exact rfl); (case kG => exact fun _ => rfl); (case kB => exact fun _ => locs rfl); (case c5 => decide); (case c2 => exact rfl); (case c3 => exact rfl); (case c4 => exact rfl); k_whole; intro D' g' L' h' l1 FG' F' N' B' X' T' gsub' dnew'; (try k_lt l1); (try dsimp only); (try k_lift B'); (try k_fold)))
local macro_rules | `(tactic| walk_at "MINE def") => `(tactic| k_dflt (refine' code_defG ?k1 ?k2 ?k3 ?k4 ?k5 ?kA ?kF ?kK ?k6 ?k7 ?k8 ?k9 ?kB ?_ ?c2 ?c3 ?c4 ?c5; (case kA => exact rfl); (case kF => exact rfl); (case kK => assumption); (case k1 => k_asm); (case k2 => k_asm); (case k3 => k_asm); (case k4 => k_asm); (case k5 => k_asm); (case k6 => k_is); (case k7 => k_is); (case k8 => ktr_room); (case k9 => exact BindsTo.of_eq rfl); (case c5 => decide); (case kB => exact locs rfl); (case c2 => exact rfl); (case c3 => exact rfl); (case c4 => exact rfl); k_whole; intro g' L' h' FG' F' N' B' X' T' gsub'; (try dsimp only); (try k_lift B'); (try k_fold)))
local macro_rules | `(tactic| walk_at "call type:set") => `(tactic| (k_here; (with_reducible show wpAny _ _ (call (Value.type "set") [Value.ref _]) _ _ _); k_dflt (refine' set_tup_N ?k1 ?k2 ?k3 ?k4 ?k5 ?k6 ?_; (case k1 => k_asm); (case k2 => k_asm); (case k3 => exact rfl); (case k4 => k_mem); (case k5 => first | exact StrsAre.two | exact StrsAre.one); (case k6 => exact Nat.le_of_ble_eq_true rfl); k_whole; intro d' h' tk' o' F' N' so' fit'; try k_sweep)))
local macro_rules | `(tactic| walk_at "call builtin:len") => `(tactic| (k_here; (with_reducible show wpAny _ _ (call (Value.builtin "len") [Value.ref _]) _ _ _); k_dflt (refine' len_set_N ?k1 ?k2 ?k3 ?k4 ?_; (case k1 => k_asm); (case k2 => k_mem); (case k3 => assumption); (case k4 => assumption); k_whole)))
local macro_rules | `(tactic| walk_at "MINE calm") => `(tactic| (refine ⟨_, _, rfl, ?kE, ?kP⟩; (case kE => first | exact calm_rest (by assumption) (by assumption) (by assumption) (by assumption) (by assumption) (by first | exact List.forall_mem_nil _ | k_sub) | exact calm_def (by assumption) (by assumption) (by assumption) (by assumption) (by first | exact List.forall_mem_nil _ | k_sub))))
local macro_rules | `(tactic| walk_at "MINE defC") => `(tactic| k_dflt (refine' my_defC ?k1 ?k2 ?k3 ?k4 ?k5 ?kA ?kF ?kK ?k6 ?k7 ?k8 ?k9 ?kB ?kD ?_ ?c2 ?c3 ?c4; (case kA => exact rfl); (case kF => exact rfl); (case kK => assumption); (case k1 => k_asm); (case k2 => k_asm); (case k3 => k_asm); (case k4 => k_asm); (case k5 => k_asm); (case k6 => k_is); (case k7 => k_is); (case k8 => ktr_room); (case k9 => exact BindsTo.of_eq rfl); (case kB => exact rfl); (case kD => decide +kernel); (case c2 => exact rfl); (case c3 => exact rfl); (case c4 => exact rfl); k_whole; intro g' L' h' tk' cells' FG' F' N' Y' B' X' T' gsub' l1; (try k_lt l1); k_cells Y'; (try simp only [List.cons_append, List.nil_append] at N'); (try dsimp only); (try k_lift B'); (try k_fold)))
local macro_rules | `(tactic| walk_at "binaryOp FloorDiv int int") => `(tactic| (with_reducible refine floordiv_int (pow3_ne _) ?_ (Or.inl (pow3_room (by omega)))))
local macro_rules | `(tactic| walk_at "CompSrc") => `(tactic| (k_here; (rename MarkT => mkT); (try k_fmods); k_dflt (refine LCg.CompSrc.range (by rfl) (by k_asm) (by k_asm) (by assumption) (by first | decide | exact small_one (by l_bnd) (by l_bnd) (by l_bnd) (by l_bnd)) (by first | exact rangeSize_nat _ _ | rfl) (by first | exact Nat.le_of_ble_eq_true rfl | (rw [PySem.sizeLine_eq]; first | omega | ((have hb9 := len_ints_list (by lay_of)); omega)) | size_fits) ?_; intro g'; (refine' kct_range _ (fun k' t' I' oI' C' oC' D' m' ys' h' tk' E' hlo' hhi' hC' hx' F' N' off' ne' => ?_) ?_); (all_goals (try (simp only [LCg.Off3, and_true] at off'))); (all_goals (try ((show KPfMark → _); intro hMark'))); kcf_last)))
local macro_rules | `(tactic| walk_at "getAttr ref") => `(tactic| (k_here; k_dflt (refine' get_sm ?k1 ?k2 ?k3 ?k4 ?k5 ?k6 ?k7 ?k8 ?k9 ?k10 ?k11 ?k12 ?_; (case k1 => k_asm); (case k2 => k_asm); (case k3 => k_inst); (case k4 => k_is); (case k5 => k_is); (case k6 => k_is); (case k7 => k_is); (case k8 => k_is); (case k9 => decide +kernel); (case k10 => k_get); (case k11 => k_is); (case k12 => k_handed); k_whole)))
local macro_rules | `(tactic| walk_at "MINE restC") => `(tactic| k_dflt (refine' my_restC ?k1 ?k2 ?k3 ?k4 ?k5 ?kA ?kF ?kK ?k6 ?k7 ?k8 ?kV ?kP ?kG ?kB ?kD ?_ ?c2 ?c3 ?c4; (case kA => exact rfl); (case kF => exact rfl); (case kK => assumption); (case k1 => k_asm); (case k2 => k_asm); (case k3 => k_asm); (case k4 => k_asm); (case k5 => k_asm); (case k6 => k_is); (case k7 => k_is); (case k8 => ktr_room); (case kV => kl_lit); (case kP => exact rfl); (case kG => exact fun _ => rfl); (case kB => exact fun _ => rfl); (case kD => decide +kernel); (case c2 => exact rfl); (case c3 => exact rfl); (case c4 => exact rfl); k_whole; intro D' g' L' h' tk' cells' l1 FG' F' N' Y' B' X' T' gsub' dnew' dlt'; (try k_lt l1); k_cells Y'; (try simp only [List.cons_append, List.nil_append] at N'); (try dsimp only); (try k_lift B'); (try k_fold)))
local macro_rules | `(tactic| walk_at "MINE fresh") => `(tactic| (refine fresh_of (by assumption) (by assumption) (by k_mem) ?_; simp only [List.map_cons, List.map_nil, List.mem_cons, List.not_mem_nil, or_false, not_or]; (repeat' apply And.intro) <;> (first | omega | (refine neN ?_; omega))))
local macro_rules | `(tactic| walk_at "MINE use") => `(tactic| (
  (case k1 => k_asm); (case k2 => k_asm); (case k3 => k_in); (case k4 => k_asm); (case k5 => k_asm); (case k6 => first | exact rfl | assumption); (case k7 => lcg_sub); (case k8 => first | decide | ktr_room); (case k9 => first | decide | ktr_units)))
local macro_rules | `(tactic| walk_at "eval Call Attribute") => `(tactic| (k_here; (with_reducible show wpAny _ _ (eval (Expr.Call (Expr.Attribute _ _ _) [Expr.Starred _ _] [] _) _) _ _ _); refine MethodCall_star ?_))
local macro_rules | `(tactic| walk_at "callWith ref") => `(tactic| (k_here; (with_reducible show wpAny _ _ (callWith _ (Value.ref _) _ (backTo _ (starEach [Expr.Starred _ _] _)) []) _ _ _); k_dflt (refine' callWith_MS ?k1 ?k2 ?k3 ?k4 ?_; (case k1 => k_asm); (case k2 => k_asm); (case k3 => k_mem); (case k4 => k_is); k_whole)))
local macro_rules | `(tactic| walk_at "exec For Name Call cons nil") => `(tactic| (k_here; (rename MarkF => mkF); refine stop_at ?_))
local macro_rules | `(tactic| walk_at "exec For Name Name cons nil") => `(tactic| (k_here; (rename MarkF => mkF); refine stop_at ?_))
local macro_rules | `(tactic| walk_at "exec For Name Tuple cons nil") => `(tactic| (k_here; (rename MarkF => mkF); refine stop_at ?_))
local macro_rules | `(tactic| walk_at "callWith type:zip") => `(tactic| (k_here; (with_reducible show wpAny _ _ (callWith _ (Value.type _) _ (backTo _ (starEach [Expr.Starred _ _] _)) []) _ _ _); refine callWith_typeS (by rfl) ?_))
local macro_rules | `(tactic| walk_at "callWith ref") => `(tactic| (k_here; kco_any "__call__"; kco_here; (with_reducible show wpAny _ _ (callWith _ (Value.ref _) _ (backTo _ (starEach [Expr.Starred _ _] _)) []) _ _ _); k_dflt (refine' callWith_IS ?k1 ?k2 ?k3 ?k4 ?_; (case k1 => k_in); (case k2 => k_inst); (case k3 => rfl); (case k4 => k_is); k_whole)))
local macro_rules | `(tactic| walk_at "call builtin:len") => `(tactic| (k_here; (with_reducible show wpAny _ _ (call (Value.builtin "len") [Value.str _ _]) _ _ _); refine PyProof.Rows.len_str (by omega) ?_))
open PyProof.Rows.LCg
local macro_rules | `(tactic| walk_at "MINE use") => `(tactic| (
  (case k1 => k_asm); (case k2 => k_asm); (case k3 => k_in); (case k4 => k_asm); (case k5 => k_asm); (case k6 => first | exact rfl | assumption); (case k7 => lcg_sub); (case k8 => first | decide | ktr_room); (case k9 => first | decide | ktr_units)))
local macro_rules | `(tactic| walk_at "call ref") => `(tactic| (k_here; k_dflt (refine' does_inst (lcs_p _ _ _ _ _ _ _ _ _ _ (by assumption) (by assumption) (by assumption) (by assumption)) ?k1 ?k2 ?k3 ?k4 ?k5 ?k6 ?k7 ?k8 ?k9 ?ki ?kp ?ks ?kf ?kn True.intro ?_; walk_at "MINE use"; (case ki => k_inst); (case kp => rfl); (case ks => k_is); (case kf => k_is); (case kn => k_is); k_whole; intro v9 h9 tk9 F9 N9 k9 p9; (obtain ⟨p9, q9, t9, e9, b9⟩ := p9); subst e9)))
theorem piece_p : ∀ {w : World} {loose : List Str} {mean : ExcName → Option Value} {mg mb : Str → Option Value} {g : Heap} {L fa : Addr} {cdv : Value} {x y : Str} {tx ty : Tok} {lx ld : Addr} {uw uk un um up : Option Value} {s : Shared} {h0 : Heap} {k0 : Nat} {nv : Nat} {t1 t2 t3 : Tok} {more : List (Addr × Obj)} {Q : Value → Shared → Prop}
    (_ : (hd.heap_39 w.params).In g) (_ : Top hd.view_39 loose mean mg mb g) (_ : Below callerA g [] g)
    (_ : Fr g L h0 (lawMk x y tx ty lx uw uk un um up)) (_ : News g L h0 ((lx, instObj 221 ld) :: (ld, dictOf [⟨PyData.keyHash w.params "qval", .str "qval" t1, .int 1 t2⟩, ⟨PyData.keyHash w.params "external", .str "external" t3, .bool true⟩] nv) :: more))
    (_ : 1 ≤ x.length) (_ : x.length ≤ 100) (_ : 1 ≤ y.length) (_ : y.length ≤ 100)
    (_ : ∀ h' tk p k t, Fr g L h' (lawMk x y tx ty lx uw uk un um up) → News g L h' ((lx, instObj 221 ld) :: (ld, dictOf [⟨PyData.keyHash w.params "qval", .str "qval" t1, .int 1 t2⟩, ⟨PyData.keyHash w.params "external", .str "external" t3, .bool true⟩] nv) :: more) → Best x.cps.toList y.cps.toList (fun a b => a < x.cps.size ∧ b < y.cps.size) p k → Q (.str ⟨((x.cps.toList.drop p).take k).toArray⟩ t) { s with heap := h', toks := tk }),
    wpAny (model Challenge.rw_dr5026_01.row.prog w) (callerA.deeper (envOfC (Str.ofString "law") lawScope L fa cdv)) (eval lawPiece (envOfC (Str.ofString "law") lawScope L fa cdv)) Q NoE { s with heap := h0, toks := k0 } := by
  k_fill
  intro w loose mean mg mb g L fa cdv x y tx ty lx ld uw uk un um up s h0 k0 nv t1 t2 t3 more Q KX T B F N hx1 hx2 hy1 hy2 hQ
  unfold lawPiece lawScope mkCall mkScope
  k_steps
  rename Fr _ _ _ _ => F5
  rename News _ _ _ _ => N5
  rename Best _ _ _ _ _ => hb
  exact hQ _ _ _ _ _ F5 N5 hb
theorem end_p : ∀ {w : World} {loose : List Str} {mean : ExcName → Option Value} {mg mb : Str → Option Value} {g : Heap} {L fa : Addr} {cdv : Value} {x y z : Str} {tx ty tz tm : Tok} {lx : Addr} {uw uk un : Option Value} {s : Shared} {h0 : Heap} {k0 : Nat} {M : Int} {more : List (Addr × Obj)} {Q : Flow → Shared → Prop}
    (_ : (hd.heap_39 w.params).In g) (_ : Top hd.view_39 loose mean mg mb g) (_ : Below callerA g [] g)
    (_ : Fr g L h0 (lawMk x y tx ty lx uw uk un (some (.int M tm)) (some (.str z tz)))) (_ : News g L h0 more)
    (_ : (z.length : Int) = M) (_ : z.length ≤ 1000) (_ : (!(Builtin.Str.occurrences x z 0 x.length 1).isEmpty) = true) (_ : (!(Builtin.Str.occurrences y z 0 y.length 1).isEmpty) = true)
    (_ : ∀ h' tk m, Fr g L h' m → Q (.ret (.bool true)) { s with heap := h', toks := tk }),
    wpAny (model Challenge.rw_dr5026_01.row.prog w) (callerA.deeper (envOfC (Str.ofString "law") lawScope L fa cdv)) (exec lawEnd (envOfC (Str.ofString "law") lawScope L fa cdv)) Q NoE { s with heap := h0, toks := k0 } := by
  k_fill
  intro w loose mean mg mb g L fa cdv x y z tx ty tz tm lx uw uk un s h0 k0 M more Q KX T B F N hM hz h1 h2 hQ
  unfold lawEnd lawScope mkRet mkScope
  k_steps
  · rw [h2]
    exact hQ _ _ _ F
  · exact absurd hM (by assumption)
end Mine
end
section
set_option maxRecDepth 100000
set_option maxHeartbeats 4000000
namespace Mine
abbrev ll (A B : List Nat) : Nat := (lcp A B).length
theorem ll_comm : ∀ A B : List Nat, ll A B = ll B A
  | [], [] => rfl
  | [], _ :: _ => rfl
  | _ :: _, [] => rfl
  | a :: A, b :: B => by
    have ih := ll_comm A B
    by_cases h : a = b
    · subst h; simp only [ll, lcp, if_true, List.length_cons] at ih ⊢; omega
    · have h' : ¬ b = a := fun e => h e.symm
      simp [ll, lcp, h, h']
theorem ll_le (A B : List Nat) : ll A B ≤ A.length := lcp_le_left A B
theorem ll_le_r (A B : List Nat) : ll A B ≤ B.length := by rw [ll_comm]; exact ll_le B A
/-- an order of words, letter by letter -/
def Le : List Nat → List Nat → Prop
  | [], _ => True
  | _ :: _, [] => False
  | a :: A, b :: B => a < b ∨ (a = b ∧ Le A B)
theorem Le.refl : ∀ A, Le A A
  | [] => trivial
  | _ :: A => .inr ⟨rfl, Le.refl A⟩
theorem le_of_lt : ∀ {A B : List Nat}, A < B → Le A B
  | [], _, _ => trivial
  | _ :: _, [], h => by simp at h
  | a :: A, b :: B, h => by
    rcases List.cons_lt_cons_iff.mp h with h | ⟨h, h'⟩
    · exact .inl h
    · exact .inr ⟨h, le_of_lt h'⟩
theorem ll_mid : ∀ A B C : List Nat, Le A B → Le B C → ll A C = min (ll A B) (ll B C)
  | [], _, _, _, _ => by simp [ll, lcp]
  | _ :: _, [], _, h, _ => h.elim
  | _ :: _, _ :: _, [], _, h => h.elim
  | a :: A, b :: B, c :: C, h1, h2 => by
    rcases h1 with h1 | ⟨h1, h1'⟩
    · have hac : ¬ a = c := by rcases h2 with h2 | ⟨h2, _⟩ <;> omega
      have hab : ¬ a = b := by omega
      simp [ll, lcp, hac, hab]
    · subst h1
      rcases h2 with h2 | ⟨h2, h2'⟩
      · have hac : ¬ a = c := by omega
        simp [ll, lcp, hac]
      · subst h2
        have ih := ll_mid A B C h1' h2'
        simp only [ll, lcp, if_true, List.length_cons] at ih ⊢
        omega
theorem Le.trans : ∀ {A B C : List Nat}, Le A B → Le B C → Le A C
  | [], _, _, _, _ => trivial
  | _ :: _, [], _, h, _ => h.elim
  | _ :: _, _ :: _, [], _, h => h.elim
  | a :: A, b :: B, c :: C, h1, h2 => by
    rcases h1 with h1 | ⟨h1, h1'⟩
    · rcases h2 with h2 | ⟨h2, _⟩
      · exact .inl (by omega)
      · exact .inl (by omega)
    · rcases h2 with h2 | ⟨h2, h2'⟩
      · exact .inl (by omega)
      · exact .inr ⟨by omega, Le.trans h1' h2'⟩
/-- in a sorted row, the common beginning of two is the least of the neighbours between -/
theorem ll_range (A : Nat → List Nat) (k : Nat) : ∀ d, (∀ j, k ≤ j → j < k + 1 + d → Le (A j) (A (j + 1))) →
    Le (A k) (A (k + 1 + d)) ∧ (∀ j, k ≤ j → j < k + 1 + d → ll (A k) (A (k + 1 + d)) ≤ ll (A j) (A (j + 1))) ∧ ∃ j, k ≤ j ∧ j < k + 1 + d ∧ ll (A k) (A (k + 1 + d)) = ll (A j) (A (j + 1))
  | 0, h => ⟨h k (by omega) (by omega), fun j h1 h2 => by have : j = k := by omega
                                                          subst this; exact Nat.le_refl _, k, by omega, by omega, rfl⟩
  | d + 1, h => by
    obtain ⟨h1, h2, j, hj1, hj2, hj3⟩ := ll_range A k d fun j a b => h j a (by omega)
    have h4 := h (k + 1 + d) (by omega) (by omega)
    have e := ll_mid _ _ _ h1 h4
    have e' : k + 1 + (d + 1) = k + 1 + d + 1 := by omega
    rw [e']
    refine ⟨h1.trans h4, fun i a b => ?_, ?_⟩
    · by_cases hi : i = k + 1 + d
      · subst hi; rw [e]; exact Nat.min_le_right _ _
      · have := h2 i a (by omega)
        rw [e]; exact Nat.le_trans (Nat.min_le_left _ _) this
    · by_cases hm : ll (A k) (A (k + 1 + d)) ≤ ll (A (k + 1 + d)) (A (k + 1 + d + 1))
      · exact ⟨j, hj1, by omega, by rw [e, Nat.min_eq_left hm, hj3]⟩
      · exact ⟨k + 1 + d, by omega, by omega, by rw [e, Nat.min_eq_right (by omega)]⟩

/-- beginnings with more than n letters -/
def begs (A : List Nat) (n : Nat) : List (List Nat) := (List.range (A.length - n)).map fun d => A.take (n + d + 1)
def newp : List (List Nat) → List (List Nat)
  | [] => []
  | [A] => begs A 0
  | A :: B :: r => begs A (ll A B) ++ newp (B :: r)
theorem mem_begs {A : List Nat} {n : Nat} {p : List Nat} : p ∈ begs A n ↔ n < p.length ∧ p <+: A := by
  simp only [begs, List.mem_map, List.mem_range]
  constructor
  · rintro ⟨d, hd, rfl⟩
    refine ⟨by rw [List.length_take]; omega, List.take_prefix _ _⟩
  · rintro ⟨h1, h2⟩
    have h3 := h2.length_le
    refine ⟨p.length - n - 1, by omega, ?_⟩
    have : n + (p.length - n - 1) + 1 = p.length := by omega
    rw [this]
    exact (List.prefix_iff_eq_take.mp h2).symm
theorem begs_nodup (A : List Nat) (n : Nat) : (begs A n).Nodup := by
  unfold begs
  rw [List.Nodup, List.pairwise_map]
  refine List.Pairwise.imp_of_mem (fun {a b} ha hb hab e => ?_) List.pairwise_lt_range
  have := congrArg List.length e
  simp only [List.length_take, List.mem_range] at this ha hb
  omega
theorem pre_ll : ∀ {p A B : List Nat}, p <+: A → p <+: B → p.length ≤ ll A B
  | [], _, _, _, _ => by simp
  | _ :: _, [], _, h, _ => by simp at h
  | _ :: _, _ :: _, [], _, h => by simp at h
  | c :: p, a :: A, b :: B, h1, h2 => by
    obtain ⟨e1, g1⟩ := List.cons_prefix_cons.mp h1
    obtain ⟨e2, g2⟩ := List.cons_prefix_cons.mp h2
    subst e1; subst e2
    have := pre_ll g1 g2
    simp only [ll, lcp, if_true, List.length_cons] at this ⊢
    omega
theorem ll_pre : ∀ {p A B : List Nat}, p <+: A → p.length ≤ ll A B → p <+: B
  | [], _, _, _, _ => List.nil_prefix
  | _ :: _, [], _, h, _ => by simp at h
  | _ :: _, _ :: _, [], _, h => by simp [ll, lcp] at h
  | c :: p, a :: A, b :: B, h1, h2 => by
    obtain ⟨e1, g1⟩ := List.cons_prefix_cons.mp h1
    subst e1
    by_cases h : c = b
    · subst h
      simp only [ll, lcp, if_true, List.length_cons] at h2
      exact List.cons_prefix_cons.mpr ⟨rfl, ll_pre g1 (by show p.length ≤ (lcp A B).length; omega)⟩
    · simp [ll, lcp, h] at h2
/-- each begins no later than the next -/
def Up : List (List Nat) → Prop
  | [] => True
  | [_] => True
  | A :: B :: r => Le A B ∧ Up (B :: r)
theorem up_all : ∀ {A : List Nat} {r : List (List Nat)}, Up (A :: r) → ∀ C ∈ r, Le A C
  | _, [], _, _, h => by simp at h
  | A, B :: r, h, C, hC => by
    rcases List.mem_cons.mp hC with rfl | hC
    · exact h.1
    · exact h.1.trans (up_all h.2 C hC)
theorem mem_newp : ∀ {L : List (List Nat)} {p : List Nat}, p ∈ newp L ↔ 0 < p.length ∧ ∃ A ∈ L, p <+: A
  | [], p => by simp [newp]
  | [A], p => by simp [newp, mem_begs]
  | A :: B :: r, p => by
    rw [newp, List.mem_append, mem_begs, mem_newp (L := B :: r)]
    constructor
    · rintro (⟨h1, h2⟩ | ⟨h1, C, hC, h2⟩)
      · exact ⟨by omega, A, by simp, h2⟩
      · exact ⟨h1, C, List.mem_cons_of_mem _ hC, h2⟩
    · rintro ⟨h1, C, hC, h2⟩
      rcases List.mem_cons.mp hC with rfl | hC
      · by_cases h : ll C B < p.length
        · exact .inl ⟨h, h2⟩
        · exact .inr ⟨h1, B, by simp, ll_pre h2 (by omega)⟩
      · exact .inr ⟨h1, C, hC, h2⟩
theorem newp_nodup : ∀ {L : List (List Nat)}, Up L → (newp L).Nodup
  | [], _ => by simp [newp]
  | [A], _ => begs_nodup A 0
  | A :: B :: r, h => by
    rw [newp, List.nodup_append]
    refine ⟨begs_nodup _ _, newp_nodup h.2, ?_⟩
    intro p hp q hq e
    subst e
    obtain ⟨h1, h2⟩ := mem_begs.mp hp
    obtain ⟨h3, C, hC, h4⟩ := mem_newp.mp hq
    have h5 := pre_ll h2 h4
    rcases List.mem_cons.mp hC with rfl | hC
    · omega
    · have h6 := ll_mid A B C h.1 (up_all h.2 C hC)
      omega
theorem begs_len (A : List Nat) (n : Nat) : (begs A n).length = A.length - n := by simp [begs]
/-- lengths less common beginnings of neighbours -/
def lensL (L : List (List Nat)) : List Int := L.map fun A => (A.length : Int)
def lcpsL : List (List Nat) → List Int
  | [] => []
  | [_] => []
  | A :: B :: r => (ll A B : Int) :: lcpsL (B :: r)
theorem newp_len : ∀ L : List (List Nat), (lensL L).sum - (lcpsL L).sum = ((newp L).length : Int)
  | [] => by simp [lensL, lcpsL, newp]
  | [A] => by simp [lensL, lcpsL, newp, begs_len]
  | A :: B :: r => by
    have ih := newp_len (B :: r)
    have h := ll_le A B
    simp only [lensL, lcpsL, newp, List.map_cons, List.sum_cons, List.length_append, begs_len] at ih ⊢
    omega
theorem lcpsL_len : ∀ L : List (List Nat), (lcpsL L).length = L.length - 1
  | [] => rfl
  | [_] => rfl
  | A :: B :: r => by simp [lcpsL, lcpsL_len (B :: r)]
theorem lcpsL_get : ∀ {L : List (List Nat)} {k : Nat} (h : k + 1 < L.length), (lcpsL L)[k]? = some (ll L[k] L[k + 1] : Int)
  | [], k, h => by simp at h
  | [_], k, h => by simp at h
  | A :: B :: r, 0, h => by simp [lcpsL]
  | A :: B :: r, k + 1, h => by
    have := lcpsL_get (L := B :: r) (k := k) (by simpa using h)
    simp only [lcpsL, List.getElem?_cons_succ, List.getElem_cons_succ] at this ⊢
    exact this
theorem perm_len {α : Type} [DecidableEq α] {l l' : List α} (h1 : l.Nodup) (h2 : l'.Nodup) (h : ∀ x, x ∈ l ↔ x ∈ l') : l.length = l'.length :=
  ((List.perm_ext_iff_of_nodup h1 h2).mpr h).length_eq
/-- somewhere between two places of different kinds two neighbours differ -/
theorem kind_step (K : Nat → Nat) (i : Nat) : ∀ d, K i ≠ K (i + d) → ∃ k, i ≤ k ∧ k < i + d ∧ K k ≠ K (k + 1)
  | 0, h => absurd rfl h
  | d + 1, h => by
    by_cases e : K i = K (i + d)
    · exact ⟨i + d, by omega, by omega, by rw [← e]; exact h⟩
    · obtain ⟨k, a, b, c⟩ := kind_step K i d e
      exact ⟨k, a, by omega, c⟩
end Mine
end
section
open PySem PySem.W PyProof.Rows
set_option maxRecDepth 100000
set_option maxHeartbeats 4000000
namespace Mine
theorem mem_dstep {l : List Str} {k x : Str} : x ∈ dstep l k ↔ x ∈ l ∨ x = k := by
  unfold dstep
  split
  · rename_i h
    obtain ⟨y, hy, e⟩ := List.any_eq_true.mp h
    have e' : y = k := by simpa using e
    subst e'
    constructor
    · exact .inl
    · rintro (h | rfl)
      · exact h
      · exact hy
  · simp
theorem mem_foldl_dstep {x : Str} : ∀ (xs l : List Str), x ∈ xs.foldl dstep l ↔ x ∈ l ∨ x ∈ xs
  | [], l => by simp
  | y :: ys, l => by
    rw [List.foldl_cons, mem_foldl_dstep ys, mem_dstep, List.mem_cons, or_assoc]
theorem mem_dedup {xs : List Str} {x : Str} : x ∈ dedup xs ↔ x ∈ xs := by
  unfold dedup
  rw [mem_foldl_dstep]
  simp
theorem dstep_nodup {l : List Str} {k : Str} (h : l.Nodup) : (dstep l k).Nodup := by
  unfold dstep
  split
  · exact h
  · rename_i hn
    rw [List.nodup_append]
    refine ⟨h, by simp, ?_⟩
    intro a ha b hb e
    rw [List.mem_singleton] at hb
    subst hb; subst e
    exact hn (List.any_eq_true.mpr ⟨a, ha, by simp⟩)
theorem foldl_nodup : ∀ (xs l : List Str), l.Nodup → (xs.foldl dstep l).Nodup
  | [], _, h => h
  | _ :: ys, _, h => foldl_nodup ys _ (dstep_nodup h)
theorem dedup_nodup (xs : List Str) : (dedup xs).Nodup := foldl_nodup xs [] (by simp)

abbrev rowA (es : List (Str × Nat)) (k : Nat) : List Nat := (es.getD k (⟨#[]⟩, 0)).1.cps.toList
abbrev rowK (es : List (Str × Nat)) (k : Nat) : Nat := (es.getD k (⟨#[]⟩, 0)).2
theorem le_of_row {a b : Str × Nat} (h : rowLt a b) : Le a.1.cps.toList b.1.cps.toList := by
  rcases h with h | ⟨h, _⟩
  · exact le_of_lt h
  · rw [h]; exact Le.refl _
theorem le_step {es : List (Str × Nat)} (O : es.Pairwise rowLt) {j : Nat} (h : j + 1 < es.length) : Le (rowA es j) (rowA es (j + 1)) := by
  have := le_of_row (List.pairwise_iff_getElem.mp O j (j + 1) (by omega) h (by omega))
  have h0 : j < es.length := by omega
  simpa [rowA, h, h0] using this
theorem up_of : ∀ {es : List (Str × Nat)}, es.Pairwise rowLt → Up (es.map (·.1.cps.toList))
  | [], _ => trivial
  | [_], _ => trivial
  | a :: b :: r, h => ⟨le_of_row ((List.pairwise_cons.mp h).1 b (by simp)), up_of (List.pairwise_cons.mp h).2⟩
theorem lens_eq (es : List (Str × Nat)) : lens es = lensL (es.map (·.1.cps.toList)) := by
  unfold lens lensL
  rw [List.map_map]
  refine List.map_congr_left fun e _ => ?_
  show ((e.1.cps.size : Nat) : Int) = _
  simp
theorem lcps_eq (es : List (Str × Nat)) : lcps es = lcpsL (es.map (·.1.cps.toList)) := by
  refine List.ext_getElem? fun k => ?_
  by_cases h : k + 1 < es.length
  · rw [lcpsL_get (by simpa using h)]
    have h0 : k < es.length := by omega
    have h1 : k < es.length - 1 := by omega
    simp [lcps, h, h0, h1, ll]
  · rw [List.getElem?_eq_none (by simp [lcps]; omega), List.getElem?_eq_none (by rw [lcpsL_len]; simp; omega)]
theorem mem_ends {xs : List Str} {e : Str × Nat} : e ∈ endsUpTo xs xs.length ↔ ∃ k, k < xs.length ∧ ∃ f, f < (xs.getD k ⟨#[]⟩).length ∧ e = (⟨((xs.getD k ⟨#[]⟩).cps.toList.drop f).toArray⟩, k) := by
  simp only [endsUpTo, List.mem_flatMap, List.mem_range, endsOne, List.mem_map]
  constructor
  · rintro ⟨k, hk, f, hf, rfl⟩
    exact ⟨k, hk, f, hf, rfl⟩
  · rintro ⟨k, hk, f, hf, rfl⟩
    exact ⟨k, hk, f, hf, rfl⟩
theorem mem_pieces {xs : List Str} {q : Str} : q ∈ piecesUpTo xs xs.length ↔ ∃ k, k < xs.length ∧ ∃ f, f < (xs.getD k ⟨#[]⟩).length ∧ ∃ d, d < (xs.getD k ⟨#[]⟩).length - f ∧ q = ⟨(((xs.getD k ⟨#[]⟩).cps.toList.drop f).take (d + 1)).toArray⟩ := by
  simp only [piecesUpTo, piecesWord, piecesOne, List.mem_flatMap, List.mem_range, List.mem_map]
  constructor
  · rintro ⟨k, hk, f, hf, d, hd, rfl⟩
    exact ⟨k, hk, f, hf, d, hd, rfl⟩
  · rintro ⟨k, hk, f, hf, d, hd, rfl⟩
    exact ⟨k, hk, f, hf, d, hd, rfl⟩
theorem sums_ok {xs : List Str} {es : List (Str × Nat)} (P : es.Perm (endsUpTo xs xs.length)) (O : es.Pairwise rowLt) : (lens es).sum - (lcps es).sum = ((dedup (piecesUpTo xs xs.length)).length : Nat) := by
  rw [lens_eq, lcps_eq, newp_len]
  have hm : ((dedup (piecesUpTo xs xs.length)).map fun q : Str => q.cps.toList).length = (dedup (piecesUpTo xs xs.length)).length := by simp
  rw [← hm]
  congr 1
  refine perm_len (newp_nodup (up_of O)) ?_ fun p => ?_
  · rw [List.Nodup, List.pairwise_map]
    exact List.Pairwise.imp (fun h e => h (str_ext e)) (dedup_nodup _)
  · rw [mem_newp, List.mem_map]
    constructor
    · rintro ⟨h1, A, hA, h2⟩
      obtain ⟨e, he, rfl⟩ := List.mem_map.mp hA
      obtain ⟨k, hk, f, hf, rfl⟩ := mem_ends.mp ((P.mem_iff).mp he)
      have h2' : p <+: (xs.getD k ⟨#[]⟩).cps.toList.drop f := by simpa using h2
      have h3 := h2'.length_le
      have hs : (xs.getD k ⟨#[]⟩).length = (xs.getD k ⟨#[]⟩).cps.toList.length := by simp [Str.length]
      rw [List.length_drop] at h3
      refine ⟨⟨p.toArray⟩, mem_dedup.mpr (mem_pieces.mpr ⟨k, hk, f, hf, p.length - 1, by omega, ?_⟩), by simp⟩
      have : p.length - 1 + 1 = p.length := by omega
      rw [this, ← List.prefix_iff_eq_take.mp h2']
    · rintro ⟨q, hq, rfl⟩
      obtain ⟨k, hk, f, hf, d, hd, rfl⟩ := mem_pieces.mp (mem_dedup.mp hq)
      have hs : (xs.getD k ⟨#[]⟩).length = (xs.getD k ⟨#[]⟩).cps.toList.length := by simp [Str.length]
      refine ⟨?_, (xs.getD k ⟨#[]⟩).cps.toList.drop f, ?_, ?_⟩
      · show 0 < (List.take (d + 1) (List.drop f (xs.getD k ⟨#[]⟩).cps.toList)).length
        rw [List.length_take, List.length_drop]
        omega
      · refine List.mem_map.mpr ⟨(⟨((xs.getD k ⟨#[]⟩).cps.toList.drop f).toArray⟩, k), (P.mem_iff).mpr (mem_ends.mpr ⟨k, hk, f, hf, rfl⟩), by simp⟩
      · exact List.take_prefix _ _
theorem row_range {es : List (Str × Nat)} (O : es.Pairwise rowLt) {k n : Nat} (hk : k < n) (hn : n < es.length) :
    (∀ j, k ≤ j → j < n → ll (rowA es k) (rowA es n) ≤ ll (rowA es j) (rowA es (j + 1))) ∧ ∃ j, k ≤ j ∧ j < n ∧ ll (rowA es k) (rowA es n) = ll (rowA es j) (rowA es (j + 1)) := by
  have e : k + 1 + (n - k - 1) = n := by omega
  have := ll_range (rowA es) k (n - k - 1) fun j _ h2 => le_step O (by omega)
  rw [e] at this
  exact this.2
theorem lcps_get {es : List (Str × Nat)} {j : Nat} (h : j + 1 < es.length) : (lcps es)[j]? = some ((ll (rowA es j) (rowA es (j + 1)) : Nat) : Int) := by
  have h1 : j < es.length - 1 := by omega
  simp [lcps, h1, ll, rowA]
theorem min_ok {es : List (Str × Nat)} (O : es.Pairwise rowLt) : MinOk es := by
  intro k n hk hn M hM hle
  obtain ⟨h1, j, hj1, hj2, hj3⟩ := row_range O hk hn
  have h0 : k < es.length := by omega
  have e1 : rowA es n = es[n].1.cps.toList := by simp [rowA, hn]
  have e2 : rowA es k = es[k].1.cps.toList := by simp [rowA, h0]
  rw [← e1, ← e2]
  show ((ll (rowA es n) (rowA es k) : Nat) : Int) = M
  rw [ll_comm]
  have hj : ((ll (rowA es j) (rowA es (j + 1)) : Nat) : Int) ∈ ((lcps es).drop k).take (n - k) := by
    refine List.mem_iff_getElem?.mpr ⟨j - k, ?_⟩
    rw [List.getElem?_take, if_pos (by omega), List.getElem?_drop]
    have : k + (j - k) = j := by omega
    rw [this]
    exact lcps_get (by omega)
  have h2 := hle _ hj
  obtain ⟨i, hi⟩ := List.mem_iff_getElem?.mp hM
  rw [List.getElem?_take] at hi
  split at hi
  · rename_i hin
    rw [List.getElem?_drop, lcps_get (by omega)] at hi
    have h3 := h1 (k + i) (by omega) (by omega)
    have h4 := Option.some.inj hi
    omega
  · cases hi
theorem mem_mets {es : List (Str × Nat)} {i : Nat} {M : Int} : M ∈ mets es i ↔ ∃ k, k < i ∧ rowK es k ≠ rowK es (k + 1) ∧ M = ((ll (rowA es k) (rowA es (k + 1)) : Nat) : Int) := by
  simp only [mets, List.mem_flatMap, List.mem_range]
  constructor
  · rintro ⟨k, hk, h⟩
    split at h
    · simp at h
    · rename_i hne
      exact ⟨k, hk, hne, List.mem_singleton.mp h⟩
  · rintro ⟨k, hk, h1, rfl⟩
    refine ⟨k, hk, ?_⟩
    rw [if_neg h1]
    exact List.mem_singleton.mpr rfl
/-- two rows of different kinds: some neighbours of different kinds begin alike at least as far -/
theorem cross {es : List (Str × Nat)} (O : es.Pairwise rowLt) {i j : Nat} (hij : i < j) (hj : j < es.length) (hk : rowK es i ≠ rowK es j) : ∃ a ∈ mets es (es.length - 1), ((ll (rowA es i) (rowA es j) : Nat) : Int) ≤ a := by
  have e : i + (j - i) = j := by omega
  obtain ⟨q, h1, h2, h3⟩ := kind_step (rowK es) i (j - i) (by rw [e]; exact hk)
  rw [e] at h2
  refine ⟨_, mem_mets.mpr ⟨q, by omega, h3, rfl⟩, ?_⟩
  have := (row_range O hij hj).1 q h1 h2
  omega
theorem cross_mem {es : List (Str × Nat)} (O : es.Pairwise rowLt) {a b : Str × Nat} (ha : a ∈ es) (hb : b ∈ es) (hk : a.2 ≠ b.2) : ∃ c ∈ mets es (es.length - 1), ((ll a.1.cps.toList b.1.cps.toList : Nat) : Int) ≤ c := by
  obtain ⟨i, hi, rfl⟩ := List.mem_iff_getElem.mp ha
  obtain ⟨j, hj, rfl⟩ := List.mem_iff_getElem.mp hb
  have ei : rowA es i = es[i].1.cps.toList := by simp [rowA, hi]
  have ej : rowA es j = es[j].1.cps.toList := by simp [rowA, hj]
  have ki : rowK es i = es[i].2 := by simp [rowK, hi]
  have kj : rowK es j = es[j].2 := by simp [rowK, hj]
  rw [← ei, ← ej]
  rw [← ki, ← kj] at hk
  rcases Nat.lt_trichotomy i j with h | h | h
  · exact cross O h hj hk
  · subst h; exact absurd rfl hk
  · rw [ll_comm]; exact cross O h hi (Ne.symm hk)
theorem mem_two {x y : Str} {e : Str × Nat} : e ∈ endsUpTo [x, y] 2 ↔ (∃ f, f < x.length ∧ e = (⟨(x.cps.toList.drop f).toArray⟩, 0)) ∨ (∃ f, f < y.length ∧ e = (⟨(y.cps.toList.drop f).toArray⟩, 1)) := by
  have := mem_ends (xs := [x, y]) (e := e)
  rw [show [x, y].length = 2 from rfl] at this
  rw [this]
  constructor
  · rintro ⟨k, hk, f, hf, rfl⟩
    rcases (by omega : k = 0 ∨ k = 1) with rfl | rfl
    · exact .inl ⟨f, hf, rfl⟩
    · exact .inr ⟨f, hf, rfl⟩
  · rintro (⟨f, hf, rfl⟩ | ⟨f, hf, rfl⟩)
    · exact ⟨0, by omega, f, hf, rfl⟩
    · exact ⟨1, by omega, f, hf, rfl⟩
theorem mets_pos {x y : Str} {es : List (Str × Nat)} (P : es.Perm (endsUpTo [x, y] 2)) (O : es.Pairwise rowLt) (hx : 1 ≤ x.length) (hy : 1 ≤ y.length) : 0 < (mets es (es.length - 1)).length := by
  obtain ⟨c, hc, _⟩ := cross_mem O (P.mem_iff.mpr (mem_two.mpr (.inl ⟨0, hx, rfl⟩))) (P.mem_iff.mpr (mem_two.mpr (.inr ⟨0, hy, rfl⟩))) (by simp)
  exact List.length_pos_of_mem hc
theorem met_best {x y : Str} {es : List (Str × Nat)} {M : Int} {p k : Nat} (P : es.Perm (endsUpTo [x, y] 2)) (O : es.Pairwise rowLt) (hM : M ∈ mets es (es.length - 1)) (hle : ∀ a ∈ mets es (es.length - 1), a ≤ M)
    (B : Best x.cps.toList y.cps.toList (fun a b => a < x.cps.size ∧ b < y.cps.size) p k) : (k : Int) = M := by
  refine Int.le_antisymm ?_ ?_
  · obtain ⟨q, _, _, hq⟩ := mem_mets.mp hM
    rcases B.2.2.2 with ⟨_, h⟩ | ⟨b, hp, hb, h⟩
    · omega
    · obtain ⟨c, hc, h1⟩ := cross_mem O (P.mem_iff.mpr (mem_two.mpr (.inl ⟨p, by simpa [Str.length] using hp, rfl⟩))) (P.mem_iff.mpr (mem_two.mpr (.inr ⟨b, by simpa [Str.length] using hb, rfl⟩))) (by simp)
      have h2 := hle c hc
      have h3 : ((ll (x.cps.toList.drop p) (y.cps.toList.drop b) : Nat) : Int) ≤ c := by simpa using h1
      have h4 : ll (x.cps.toList.drop p) (y.cps.toList.drop b) = k := h
      omega
  · obtain ⟨q, hq1, hq2, hq3⟩ := mem_mets.mp hM
    have hqa : q < es.length := by omega
    have hqb : q + 1 < es.length := by omega
    have m1 := mem_two.mp (P.mem_iff.mp (List.getElem_mem hqa))
    have m2 := mem_two.mp (P.mem_iff.mp (List.getElem_mem hqb))
    have ei : rowA es q = es[q].1.cps.toList := by simp [rowA, hqa]
    have ej : rowA es (q + 1) = es[q + 1].1.cps.toList := by simp [rowA, hqb]
    have ki : rowK es q = es[q].2 := by simp [rowK, hqa]
    have kj : rowK es (q + 1) = es[q + 1].2 := by simp [rowK, hqb]
    rw [ki, kj] at hq2
    rw [ei, ej] at hq3
    rcases m1 with ⟨f, hf, e1⟩ | ⟨f, hf, e1⟩ <;> rcases m2 with ⟨f', hf', e2⟩ | ⟨f', hf', e2⟩ <;> rw [e1, e2] at hq2 hq3
    · exact absurd rfl hq2
    · have := B.1 f f' ⟨hf, hf'⟩
      have h4 : ll (x.cps.toList.drop f) (y.cps.toList.drop f') ≤ k := this
      simp only at hq3
      omega
    · have := B.1 f' f ⟨hf', hf⟩
      have h4 : ll (x.cps.toList.drop f') (y.cps.toList.drop f) ≤ k := this
      simp only at hq3
      rw [ll_comm] at hq3
      omega
    · exact absurd rfl hq2
theorem piece_len {x y : Str} {P : Nat → Nat → Prop} {p k : Nat} (B : Best x.cps.toList y.cps.toList P p k) : ((x.cps.toList.drop p).take k).length = k := by
  rw [List.length_take]
  rcases B.2.2.2 with ⟨_, h⟩ | ⟨b, hp, hb, h⟩
  · omega
  · have := lcp_le_left (x.cps.toList.drop p) (y.cps.toList.drop b)
    omega
theorem found_pre {x : Str} {l : List Nat} {i : Nat} (h : l <+: x.cps.toList.drop i) (hi : i ≤ x.cps.toList.length) : (!(Builtin.Str.occurrences x ⟨l.toArray⟩ 0 x.length 1).isEmpty) = true := by
  rw [StrLaws.found_iff]
  have h1 := h.length_le
  rw [List.length_drop] at h1
  have hs : x.length = x.cps.toList.length := by simp [Str.length]
  have hl : (⟨l.toArray⟩ : Str).length = l.length := by simp [Str.length]
  refine ⟨i, by omega, ?_⟩
  rw [StrLaws.subAt_eq, hl]
  simp only [beq_iff_eq]
  exact (List.prefix_iff_eq_take.mp h).symm
theorem lcp_pre_l : ∀ (X Y : List Nat), lcp X Y <+: X
  | [], _ => by simp [lcp]
  | _ :: _, [] => by simp [lcp]
  | a :: X, b :: Y => by
    by_cases h : a = b
    · simp only [lcp, h, if_true]; exact List.cons_prefix_cons.mpr ⟨rfl, lcp_pre_l X Y⟩
    · simp [lcp, h]
theorem piece_in {x y : Str} {P : Nat → Nat → Prop} {p k : Nat} (B : Best x.cps.toList y.cps.toList P p k) :
    (!(Builtin.Str.occurrences x ⟨((x.cps.toList.drop p).take k).toArray⟩ 0 x.length 1).isEmpty) = true ∧ (!(Builtin.Str.occurrences y ⟨((x.cps.toList.drop p).take k).toArray⟩ 0 y.length 1).isEmpty) = true := by
  refine ⟨found_pre (i := p) (List.take_prefix _ _) B.2.1, ?_⟩
  rcases B.2.2.2 with ⟨_, h⟩ | ⟨b, hp, hb, h⟩
  · subst h
    exact found_pre (i := 0) (by simp) (by omega)
  · refine found_pre (i := b) (ll_pre (List.take_prefix _ _) ?_) (by omega)
    show ((x.cps.toList.drop p).take k).length ≤ (lcp _ _).length
    rw [h, List.length_take]
    omega
end Mine
end
section
open PySem PySem.W PyProof.Rows PySem.Calls
set_option maxRecDepth 100000
set_option maxHeartbeats 8000000
namespace Mine
theorem reset_L7 : ∃ x : Nat, x = x := by
  w_top off
  first | (walk1; done) | exact ⟨0, rfl⟩
local macro_rules | `(tactic| walk_at "MINE rest") => `(tactic| k_dflt (refine' my_rest ?k1 ?k2 ?k3 ?k4 ?k5 ?kA ?kF ?kK ?k6 ?k7 ?k8 ?kV ?kP ?kG ?kB ?_ ?c2 ?c3 ?c4 ?c5; (case kA => exact rfl); (case kF => exact rfl); (case kK => assumption); (case k1 => k_asm); (case k2 => k_asm); (case k3 => k_asm); (case k4 => k_asm); (case k5 => k_asm); (case k6 => k_is); (case k7 => k_is); (case k8 => ktr_room); (case kV => kl_lit); (case kP => exact rfl); (case kG => exact fun _ => rfl); (case kB => exact fun _ => locs rfl); (case c5 => decide); (case c2 => exact rfl); (case c3 => exact rfl); (case c4 => exact rfl); k_whole; intro D' g' L' h' l1 FG' F' N' B' X' T' gsub' dnew'; (try k_lt l1); (try dsimp only); (try k_lift B'); (try k_fold)))
local macro_rules | `(tactic| walk_at "MINE def") => `(tactic| k_dflt (refine' code_defG ?k1 ?k2 ?k3 ?k4 ?k5 ?kA ?kF ?kK ?k6 ?k7 ?k8 ?k9 ?kB ?_ ?c2 ?c3 ?c4 ?c5; (case kA => exact rfl); (case kF => exact rfl); (case kK => assumption); (case k1 => k_asm); (case k2 => k_asm); (case k3 => k_asm); (case k4 => k_asm); (case k5 => k_asm); (case k6 => k_is); (case k7 => k_is); (case k8 => ktr_room); (case k9 => exact BindsTo.of_eq rfl); (case c5 => decide); (case kB => exact locs rfl); (case c2 => exact rfl); (case c3 => exact rfl); (case c4 => exact rfl); k_whole; intro g' L' h' FG' F' N' B' X' T' gsub'; (try dsimp only); (try k_lift B'); (try k_fold)))
local macro_rules | `(tactic| walk_at "call type:set") => `(tactic| (k_here; (with_reducible show wpAny _ _ (call (Value.type "set") [Value.ref _]) _ _ _); k_dflt (refine' set_tup_N ?k1 ?k2 ?k3 ?k4 ?k5 ?k6 ?_; (case k1 => k_asm); (case k2 => k_asm); (case k3 => exact rfl); (case k4 => k_mem); (case k5 => first | exact StrsAre.two | exact StrsAre.one); (case k6 => exact Nat.le_of_ble_eq_true rfl); k_whole; intro d' h' tk' o' F' N' so' fit'; try k_sweep)))
local macro_rules | `(tactic| walk_at "call builtin:len") => `(tactic| (k_here; (with_reducible show wpAny _ _ (call (Value.builtin "len") [Value.ref _]) _ _ _); k_dflt (refine' len_set_N ?k1 ?k2 ?k3 ?k4 ?_; (case k1 => k_asm); (case k2 => k_mem); (case k3 => assumption); (case k4 => assumption); k_whole)))
local macro_rules | `(tactic| walk_at "MINE calm") => `(tactic| (refine ⟨_, _, rfl, ?kE, ?kP⟩; (case kE => first | exact calm_rest (by assumption) (by assumption) (by assumption) (by assumption) (by assumption) (by first | exact List.forall_mem_nil _ | k_sub) | exact calm_def (by assumption) (by assumption) (by assumption) (by assumption) (by first | exact List.forall_mem_nil _ | k_sub))))
local macro_rules | `(tactic| walk_at "MINE defC") => `(tactic| k_dflt (refine' my_defC ?k1 ?k2 ?k3 ?k4 ?k5 ?kA ?kF ?kK ?k6 ?k7 ?k8 ?k9 ?kB ?kD ?_ ?c2 ?c3 ?c4; (case kA => exact rfl); (case kF => exact rfl); (case kK => assumption); (case k1 => k_asm); (case k2 => k_asm); (case k3 => k_asm); (case k4 => k_asm); (case k5 => k_asm); (case k6 => k_is); (case k7 => k_is); (case k8 => ktr_room); (case k9 => exact BindsTo.of_eq rfl); (case kB => exact rfl); (case kD => decide +kernel); (case c2 => exact rfl); (case c3 => exact rfl); (case c4 => exact rfl); k_whole; intro g' L' h' tk' cells' FG' F' N' Y' B' X' T' gsub' l1; (try k_lt l1); k_cells Y'; (try simp only [List.cons_append, List.nil_append] at N'); (try dsimp only); (try k_lift B'); (try k_fold)))
local macro_rules | `(tactic| walk_at "binaryOp FloorDiv int int") => `(tactic| (with_reducible refine floordiv_int (pow3_ne _) ?_ (Or.inl (pow3_room (by omega)))))
local macro_rules | `(tactic| walk_at "CompSrc") => `(tactic| (k_here; (rename MarkT => mkT); (try k_fmods); k_dflt (refine LCg.CompSrc.range (by rfl) (by k_asm) (by k_asm) (by assumption) (by first | decide | exact small_one (by l_bnd) (by l_bnd) (by l_bnd) (by l_bnd)) (by first | exact rangeSize_nat _ _ | rfl) (by first | exact Nat.le_of_ble_eq_true rfl | (rw [PySem.sizeLine_eq]; first | omega | ((have hb9 := len_ints_list (by lay_of)); omega)) | size_fits) ?_; intro g'; (refine' kct_range _ (fun k' t' I' oI' C' oC' D' m' ys' h' tk' E' hlo' hhi' hC' hx' F' N' off' ne' => ?_) ?_); (all_goals (try (simp only [LCg.Off3, and_true] at off'))); (all_goals (try ((show KPfMark → _); intro hMark'))); kcf_last)))
local macro_rules | `(tactic| walk_at "getAttr ref") => `(tactic| (k_here; k_dflt (refine' get_sm ?k1 ?k2 ?k3 ?k4 ?k5 ?k6 ?k7 ?k8 ?k9 ?k10 ?k11 ?k12 ?_; (case k1 => k_asm); (case k2 => k_asm); (case k3 => k_inst); (case k4 => k_is); (case k5 => k_is); (case k6 => k_is); (case k7 => k_is); (case k8 => k_is); (case k9 => decide +kernel); (case k10 => k_get); (case k11 => k_is); (case k12 => k_handed); k_whole)))
local macro_rules | `(tactic| walk_at "MINE restC") => `(tactic| k_dflt (refine' my_restC ?k1 ?k2 ?k3 ?k4 ?k5 ?kA ?kF ?kK ?k6 ?k7 ?k8 ?kV ?kP ?kG ?kB ?kD ?_ ?c2 ?c3 ?c4; (case kA => exact rfl); (case kF => exact rfl); (case kK => assumption); (case k1 => k_asm); (case k2 => k_asm); (case k3 => k_asm); (case k4 => k_asm); (case k5 => k_asm); (case k6 => k_is); (case k7 => k_is); (case k8 => ktr_room); (case kV => kl_lit); (case kP => exact rfl); (case kG => exact fun _ => rfl); (case kB => exact fun _ => rfl); (case kD => decide +kernel); (case c2 => exact rfl); (case c3 => exact rfl); (case c4 => exact rfl); k_whole; intro D' g' L' h' tk' cells' l1 FG' F' N' Y' B' X' T' gsub' dnew' dlt'; (try k_lt l1); k_cells Y'; (try simp only [List.cons_append, List.nil_append] at N'); (try dsimp only); (try k_lift B'); (try k_fold)))
local macro_rules | `(tactic| walk_at "MINE fresh") => `(tactic| (refine fresh_of (by assumption) (by assumption) (by k_mem) ?_; simp only [List.map_cons, List.map_nil, List.mem_cons, List.not_mem_nil, or_false, not_or]; (repeat' apply And.intro) <;> (first | omega | (refine neN ?_; omega))))
local macro_rules | `(tactic| walk_at "MINE use") => `(tactic| (
  (case k1 => k_asm); (case k2 => k_asm); (case k3 => k_in); (case k4 => k_asm); (case k5 => k_asm); (case k6 => first | exact rfl | assumption); (case k7 => lcg_sub); (case k8 => first | decide | ktr_room); (case k9 => first | decide | ktr_units)))
local macro_rules | `(tactic| walk_at "eval Call Attribute") => `(tactic| (k_here; (with_reducible show wpAny _ _ (eval (Expr.Call (Expr.Attribute _ _ _) [Expr.Starred _ _] [] _) _) _ _ _); refine MethodCall_star ?_))
local macro_rules | `(tactic| walk_at "callWith ref") => `(tactic| (k_here; (with_reducible show wpAny _ _ (callWith _ (Value.ref _) _ (backTo _ (starEach [Expr.Starred _ _] _)) []) _ _ _); k_dflt (refine' callWith_MS ?k1 ?k2 ?k3 ?k4 ?_; (case k1 => k_asm); (case k2 => k_asm); (case k3 => k_mem); (case k4 => k_is); k_whole)))
local macro_rules | `(tactic| walk_at "exec For Name Call cons nil") => `(tactic| (k_here; (rename MarkF => mkF); refine stop_at ?_))
local macro_rules | `(tactic| walk_at "exec For Name Name cons nil") => `(tactic| (k_here; (rename MarkF => mkF); refine stop_at ?_))
local macro_rules | `(tactic| walk_at "exec For Name Tuple cons nil") => `(tactic| (k_here; (rename MarkF => mkF); refine stop_at ?_))
local macro_rules | `(tactic| walk_at "callWith type:zip") => `(tactic| (k_here; (with_reducible show wpAny _ _ (callWith _ (Value.type _) _ (backTo _ (starEach [Expr.Starred _ _] _)) []) _ _ _); refine callWith_typeS (by rfl) ?_))
local macro_rules | `(tactic| walk_at "callWith ref") => `(tactic| (k_here; kco_any "__call__"; kco_here; (with_reducible show wpAny _ _ (callWith _ (Value.ref _) _ (backTo _ (starEach [Expr.Starred _ _] _)) []) _ _ _); k_dflt (refine' callWith_IS ?k1 ?k2 ?k3 ?k4 ?_; (case k1 => k_in); (case k2 => k_inst); (case k3 => rfl); (case k4 => k_is); k_whole)))
local macro_rules | `(tactic| walk_at "call builtin:len") => `(tactic| (k_here; (with_reducible show wpAny _ _ (call (Value.builtin "len") [Value.str _ _]) _ _ _); refine PyProof.Rows.len_str (by omega) ?_))
open PyProof.Rows.LCg
theorem law_names {x y : Str} {tx ty : Tok} {lg : Addr} {uw uk un um up : Option Value} {m : Str → Option Value}
    (a1 : m (Str.ofString "words") = uw) (a2 : m (Str.ofString "k") = uk) (a3 : m (Str.ofString "n") = un) (a4 : m (Str.ofString "met") = um) (a5 : m (Str.ofString "piece") = up) (a6 : m (Str.ofString "longest") = some (.ref lg)) (a7 : m (Str.ofString "other") = some (.str y ty)) (a8 : m (Str.ofString "one") = some (.str x tx))
    (h : ∀ z, z ≠ Str.ofString "words" → z ≠ Str.ofString "k" → z ≠ Str.ofString "n" → z ≠ Str.ofString "met" → z ≠ Str.ofString "piece" → z ≠ Str.ofString "longest" → z ≠ Str.ofString "other" → z ≠ Str.ofString "one" → m z = none) (z : Str) : m z = lawMk x y tx ty lg uw uk un um up z := by
  unfold lawMk
  by_cases h1 : z = Str.ofString "words"
  · rw [if_pos h1, h1]; exact a1
  rw [if_neg h1]
  by_cases h2 : z = Str.ofString "k"
  · rw [if_pos h2, h2]; exact a2
  rw [if_neg h2]
  by_cases h3 : z = Str.ofString "n"
  · rw [if_pos h3, h3]; exact a3
  rw [if_neg h3]
  by_cases h4 : z = Str.ofString "met"
  · rw [if_pos h4, h4]; exact a4
  rw [if_neg h4]
  by_cases h5 : z = Str.ofString "piece"
  · rw [if_pos h5, h5]; exact a5
  rw [if_neg h5]
  by_cases h6 : z = Str.ofString "longest"
  · rw [if_pos h6, h6]; exact a6
  rw [if_neg h6]
  by_cases h7 : z = Str.ofString "other"
  · rw [if_pos h7, h7]; exact a7
  rw [if_neg h7]
  by_cases h8 : z = Str.ofString "one"
  · rw [if_pos h8, h8]; exact a8
  rw [if_neg h8]
  exact h z h1 h2 h3 h4 h5 h6 h7 h8
theorem news_sub {g h : Heap} {L : Addr} {l all : List (Addr × Obj)} (N : News g L h all) (hsub : ∀ p ∈ l, p ∈ all) : News g L h l := fun p hp => N p (hsub p hp)
theorem rows_len {xs : List Str} (hx7 : ∀ x ∈ xs, 1 ≤ x.length ∧ x.length ≤ 7) {es : List (Str × Nat)} (P : es.Perm (endsUpTo xs xs.length)) (i : Nat) (h : i < es.length) : es[i].1.cps.size ≤ 1000 := by
  have hm : es[i] ∈ endsUpTo xs xs.length := (P.mem_iff).mp (List.getElem_mem h)
  simp only [endsUpTo, List.mem_flatMap, List.mem_range, endsOne, List.mem_map] at hm
  obtain ⟨k, hk, f, hf, he⟩ := hm
  rw [← he]
  have e : xs.getD k ⟨#[]⟩ = xs[k] := by simp [hk]
  have := (hx7 xs[k] (List.getElem_mem hk)).2
  have hl : xs[k].length = xs[k].cps.size := rfl
  show ((xs.getD k ⟨#[]⟩).cps.toList.drop f).toArray.size ≤ 1000
  rw [e]
  simp
  omega
theorem ends_pos {xs : List Str} (hx7 : ∀ x ∈ xs, 1 ≤ x.length ∧ x.length ≤ 7) (hne : xs ≠ []) : 1 ≤ (endsUpTo xs xs.length).length := by
  match xs, hne with
  | a :: r, _ =>
    have h1 := (hx7 a (by simp)).1
    have : endsUpTo (a :: r) (a :: r).length ≠ [] := by
      intro e
      have h2 : (⟨(a.cps.toList.drop 0).toArray⟩, 0) ∈ endsUpTo (a :: r) (a :: r).length := by
        simp only [endsUpTo, List.mem_flatMap, List.mem_range, endsOne, List.mem_map]
        exact ⟨0, by simp, 0, (by show 0 < a.length; omega), rfl⟩
      rw [e] at h2
      simp at h2
    exact List.length_pos_iff.mpr this
theorem news_front {g h : Heap} {L : Addr} {all : List (Addr × Obj)} (N : News g L h all) (p : Addr × Obj) (hp : p ∈ all) : News g L h (p :: all) := fun q hq => by
  rcases List.mem_cons.mp hq with rfl | hq
  · exact N q hp
  · exact N q hq
local macro_rules | `(tactic| walk_at "eval Call") => `(tactic| (k_here; (with_reducible show wpAny _ _ (eval (Expr.Call (Expr.Name _ _) _ _ _) _) _ _ _); refine stop_at ?_))
local macro_rules | `(tactic| walk_at "exec Return some") => `(tactic| (k_here; refine stop_at ?_))
theorem tail_p : ∀ {w : World} {loose : List Str} {mean : ExcName → Option Value} {mg mb : Str → Option Value} {g : Heap} {L fa S Al px pd lx ld : Addr} {cdv : Value} {x y : Str} {tx ty : Tok} {uw : Option Value} {s : Shared} {h0 : Heap} {k0 : Nat} {oE oA oB : Obj} {ys zl : List Value} {es : List (Str × Nat)} {c nv mv : Nat} {t1 t2 t3 t4 t5 t6 : Tok} {tl : List (Addr × Obj)} {Q : Flow → Shared → Prop}
    (_ : (hd.heap_39 w.params).In g) (_ : Top hd.view_39 loose mean mg mb g) (_ : Below callerA g [] g)
    (_ : Fr g L h0 (lawMk x y tx ty lx uw none none none none)) (_ : News g L h0 ((S, ({ cls := .type "list", data := .seq ys.toArray c } : Obj)) :: (L + 1 + 1 + 1, oE) :: (Al, lst zl) :: (L + 1 + 1 + 1 + 1, oA) :: (L + 1 + 1, oB) :: (px, instObj 262 pd) :: (pd, dictOf [⟨PyData.keyHash w.params "qval", .str "qval" t1, .int 1 t2⟩, ⟨PyData.keyHash w.params "sim_test", .str "sim_test" t3, .ref 100⟩] nv) :: (lx, instObj 221 ld) :: (ld, dictOf [⟨PyData.keyHash w.params "qval", .str "qval" t4, .int 1 t5⟩, ⟨PyData.keyHash w.params "external", .str "external" t6, .bool true⟩] mv) :: tl))
    (_ : oE.data = .cell (some (.ref S))) (_ : oA.data = .cell (some (.ref Al))) (_ : oB.data = .cell (some (.ref px))) (_ : RowsIn tl ys es) (_ : es.Perm (endsUpTo [x, y] [x, y].length)) (_ : es.Pairwise rowLt) (_ : IntsAre zl (lcps es))
    (_ : 1 ≤ x.length) (_ : x.length ≤ 7) (_ : 1 ≤ y.length) (_ : y.length ≤ 7)
    (_ : ∀ h' tk m, Fr g L h' m → Q (.ret (.bool true)) { s with heap := h', toks := tk }),
    wpAny (model Challenge.rw_dr5026_01.row.prog w) (callerA.deeper (envOfC (Str.ofString "law") lawScope L fa cdv)) (execs lawTail (envOfC (Str.ofString "law") lawScope L fa cdv)) Q NoE { s with heap := h0, toks := k0 } := by
  k_fill
  intro w loose mean mg mb g L fa S Al px pd lx ld cdv x y tx ty uw s h0 k0 oE oA oB ys zl es c nv mv t1 t2 t3 t4 t5 t6 tl Q KX T B F N hE hA hB R P O hzl hx1 hx7 hy1 hy7 hQ
  have hxy : ∀ z ∈ [x, y], 1 ≤ z.length ∧ z.length ≤ 7 := both (P := fun z => 1 ≤ z.length ∧ z.length ≤ 7) ⟨hx1, hx7⟩ ⟨hy1, hy7⟩
  have hyl : ys.length ≤ 1000 := by
    have h1 := P.length_eq
    have h2 := ends_len hxy [x, y].length (Nat.le_refl _)
    have h3 := R.1
    have h4 : [x, y].length = 2 := rfl
    omega
  have hyl1 : 1 ≤ ys.length := by
    have h1 := P.length_eq
    have h3 := R.1
    have h4 := ends_pos hxy (by simp)
    omega
  have hlen := rows_len hxy P
  unfold lawTail lawScope mkTail mkScope
  have mark : MarkF := True.intro
  k_steps
  unfold StopAt
  refine min_p (s := s) (es := es) (ys := ys) (zl := zl) (more := (lx, instObj 221 ld) :: (ld, dictOf [⟨PyData.keyHash w.params "qval", .str "qval" t4, .int 1 t5⟩, ⟨PyData.keyHash w.params "external", .str "external" t6, .bool true⟩] mv) :: tl) KX T B F N hE hA hB R (fun p hp => by repeat (first | exact hp | apply List.mem_cons_of_mem)) hyl hzl hlen (min_ok O) ?next1
  intro h1 tk1 uk un F1 N1
  clear F N
  (try k_fold)
  k_steps
  unfold StopAt
  have hkl : ∀ i, (h : i < es.length) → es[i].2 ≤ 1000 := fun i h => by
    have h1 := endsUpTo_lt es[i] ((P.mem_iff).mp (List.getElem_mem h))
    have h4 : [x, y].length = 2 := rfl
    omega
  refine met_p (s := s) (es := es) (ys := ys) (zl := zl) (tl := tl) KX T B F1 N1 hE hA R (fun p hp => by repeat (first | exact hp | apply List.mem_cons_of_mem)) hyl hyl1 hzl hkl (mets_pos P O hx1 hy1) ?next2
  intro h2 tk2 M tM F2 N2 hM1 hM2
  clear F1 N1
  (try k_fold)
  k_steps
  unfold StopAt
  rename Fr _ _ _ _ => F3
  rename News _ _ _ _ => N3
  have F4 := fr_same (m' := lawMk x y tx ty lx uw uk un (some (.int M tM)) none) F3 (law_names rfl rfl rfl rfl rfl rfl rfl rfl (fun z h1 h2 h3 h4 h5 h6 h7 h8 => by unfold lawMk; simp only [if_neg h1, if_neg h2, if_neg h3, if_neg h4, if_neg h5, if_neg h6, if_neg h7, if_neg h8]))
  have N4 := news_front2 N3 (p := (lx, instObj 221 ld)) (q := (ld, dictOf [⟨PyData.keyHash w.params "qval", .str "qval" t4, .int 1 t5⟩, ⟨PyData.keyHash w.params "external", .str "external" t6, .bool true⟩] mv)) (by k_mem) (by k_mem)
  clear F3 N3
  refine piece_p (s := s) KX T B F4 N4 hx1 (by omega) hy1 (by omega) ?next3
  intro h3 tk3 p k tp F5 N5 hb
  clear F4 N4
  (try k_fold)
  k_steps
  unfold StopAt
  rename Fr _ _ _ _ => F6
  rename News _ _ _ _ => N6
  have F7 := fr_same (m' := lawMk x y tx ty lx uw uk un (some (.int M tM)) (some (.str ⟨((x.cps.toList.drop p).take k).toArray⟩ tp))) F6 (law_names rfl rfl rfl rfl rfl rfl rfl rfl (fun z h1 h2 h3 h4 h5 h6 h7 h8 => by unfold lawMk; simp only [if_neg h1, if_neg h2, if_neg h3, if_neg h4, if_neg h5, if_neg h6, if_neg h7, if_neg h8]))
  have hkM := met_best P O hM1 hM2 hb
  have hpl : (⟨((x.cps.toList.drop p).take k).toArray⟩ : Str).length = k := by
    have h1 := piece_len hb
    simpa [Str.length] using h1
  have hk7 : k ≤ x.cps.toList.length := hb.2.2.1
  have hxl : x.length = x.cps.toList.length := by simp [Str.length]
  refine end_p (s := s) KX T B F7 N6 (by rw [hpl]; exact hkM) (by omega) (piece_in hb).1 (piece_in hb).2 ?_
  intro h9 tk9 m9 F9
  exact hQ h9 tk9 m9 F9
end Mine
end
section
open PySem PySem.W PyProof.Rows PySem.Calls
set_option maxRecDepth 100000
set_option maxHeartbeats 8000000
namespace Mine
theorem reset_L1 : ∃ x : Nat, x = x := by
  w_top off
  first | (walk1; done) | exact ⟨0, rfl⟩
local macro_rules | `(tactic| walk_at "MINE rest") => `(tactic| k_dflt (refine' my_rest ?k1 ?k2 ?k3 ?k4 ?k5 ?kA ?kF ?kK ?k6 ?k7 ?k8 ?kV ?kP ?kG ?kB ?_ ?c2 ?c3 ?c4 ?c5; (case kA => exact rfl); (case kF => exact rfl); (case kK => assumption); (case k1 => k_asm); (case k2 => k_asm); (case k3 => k_asm); (case k4 => k_asm); (case k5 => k_asm); (case k6 => k_is); (case k7 => k_is); (case k8 => ktr_room); (case kV => kl_lit); (case kP => exact rfl); (case kG => exact fun _ => rfl); (case kB => exact fun _ => locs rfl); (case c5 => decide); (case c2 => exact rfl); (case c3 => exact rfl); (case c4 => exact rfl); k_whole; intro D' g' L' h' l1 FG' F' N' B' X' T' gsub' dnew'; (try k_lt l1); (try dsimp only); (try k_lift B'); (try k_fold)))
local macro_rules | `(tactic| walk_at "MINE def") => `(tactic| k_dflt (refine' code_defG ?k1 ?k2 ?k3 ?k4 ?k5 ?kA ?kF ?kK ?k6 ?k7 ?k8 ?k9 ?kB ?_ ?c2 ?c3 ?c4 ?c5; (case kA => exact rfl); (case kF => exact rfl); (case kK => assumption); (case k1 => k_asm); (case k2 => k_asm); (case k3 => k_asm); (case k4 => k_asm); (case k5 => k_asm); (case k6 => k_is); (case k7 => k_is); (case k8 => ktr_room); (case k9 => exact BindsTo.of_eq rfl); (case c5 => decide); (case kB => exact locs rfl); (case c2 => exact rfl); (case c3 => exact rfl); (case c4 => exact rfl); k_whole; intro g' L' h' FG' F' N' B' X' T' gsub'; (try dsimp only); (try k_lift B'); (try k_fold)))
local macro_rules | `(tactic| walk_at "call type:set") => `(tactic| (k_here; (with_reducible show wpAny _ _ (call (Value.type "set") [Value.ref _]) _ _ _); k_dflt (refine' set_tup_N ?k1 ?k2 ?k3 ?k4 ?k5 ?k6 ?_; (case k1 => k_asm); (case k2 => k_asm); (case k3 => exact rfl); (case k4 => k_mem); (case k5 => first | exact StrsAre.two | exact StrsAre.one); (case k6 => exact Nat.le_of_ble_eq_true rfl); k_whole; intro d' h' tk' o' F' N' so' fit'; try k_sweep)))
local macro_rules | `(tactic| walk_at "call builtin:len") => `(tactic| (k_here; (with_reducible show wpAny _ _ (call (Value.builtin "len") [Value.ref _]) _ _ _); k_dflt (refine' len_set_N ?k1 ?k2 ?k3 ?k4 ?_; (case k1 => k_asm); (case k2 => k_mem); (case k3 => assumption); (case k4 => assumption); k_whole)))
local macro_rules | `(tactic| walk_at "MINE calm") => `(tactic| (refine ⟨_, _, rfl, ?kE, ?kP⟩; (case kE => first | exact calm_rest (by assumption) (by assumption) (by assumption) (by assumption) (by assumption) (by first | exact List.forall_mem_nil _ | k_sub) | exact calm_def (by assumption) (by assumption) (by assumption) (by assumption) (by first | exact List.forall_mem_nil _ | k_sub))))
local macro_rules | `(tactic| walk_at "MINE defC") => `(tactic| k_dflt (refine' my_defC ?k1 ?k2 ?k3 ?k4 ?k5 ?kA ?kF ?kK ?k6 ?k7 ?k8 ?k9 ?kB ?kD ?_ ?c2 ?c3 ?c4; (case kA => exact rfl); (case kF => exact rfl); (case kK => assumption); (case k1 => k_asm); (case k2 => k_asm); (case k3 => k_asm); (case k4 => k_asm); (case k5 => k_asm); (case k6 => k_is); (case k7 => k_is); (case k8 => ktr_room); (case k9 => exact BindsTo.of_eq rfl); (case kB => exact rfl); (case kD => decide +kernel); (case c2 => exact rfl); (case c3 => exact rfl); (case c4 => exact rfl); k_whole; intro g' L' h' tk' cells' FG' F' N' Y' B' X' T' gsub' l1; (try k_lt l1); k_cells Y'; (try simp only [List.cons_append, List.nil_append] at N'); (try dsimp only); (try k_lift B'); (try k_fold)))
local macro_rules | `(tactic| walk_at "binaryOp FloorDiv int int") => `(tactic| (with_reducible refine floordiv_int (pow3_ne _) ?_ (Or.inl (pow3_room (by omega)))))
local macro_rules | `(tactic| walk_at "CompSrc") => `(tactic| (k_here; (rename MarkT => mkT); (try k_fmods); k_dflt (refine LCg.CompSrc.range (by rfl) (by k_asm) (by k_asm) (by assumption) (by first | decide | exact small_one (by l_bnd) (by l_bnd) (by l_bnd) (by l_bnd)) (by first | exact rangeSize_nat _ _ | rfl) (by first | exact Nat.le_of_ble_eq_true rfl | (rw [PySem.sizeLine_eq]; first | omega | ((have hb9 := len_ints_list (by lay_of)); omega)) | size_fits) ?_; intro g'; (refine' kct_range _ (fun k' t' I' oI' C' oC' D' m' ys' h' tk' E' hlo' hhi' hC' hx' F' N' off' ne' => ?_) ?_); (all_goals (try (simp only [LCg.Off3, and_true] at off'))); (all_goals (try ((show KPfMark → _); intro hMark'))); kcf_last)))
local macro_rules | `(tactic| walk_at "getAttr ref") => `(tactic| (k_here; k_dflt (refine' get_sm ?k1 ?k2 ?k3 ?k4 ?k5 ?k6 ?k7 ?k8 ?k9 ?k10 ?k11 ?k12 ?_; (case k1 => k_asm); (case k2 => k_asm); (case k3 => k_inst); (case k4 => k_is); (case k5 => k_is); (case k6 => k_is); (case k7 => k_is); (case k8 => k_is); (case k9 => decide +kernel); (case k10 => k_get); (case k11 => k_is); (case k12 => k_handed); k_whole)))
local macro_rules | `(tactic| walk_at "MINE restC") => `(tactic| k_dflt (refine' my_restC ?k1 ?k2 ?k3 ?k4 ?k5 ?kA ?kF ?kK ?k6 ?k7 ?k8 ?kV ?kP ?kG ?kB ?kD ?_ ?c2 ?c3 ?c4; (case kA => exact rfl); (case kF => exact rfl); (case kK => assumption); (case k1 => k_asm); (case k2 => k_asm); (case k3 => k_asm); (case k4 => k_asm); (case k5 => k_asm); (case k6 => k_is); (case k7 => k_is); (case k8 => ktr_room); (case kV => kl_lit); (case kP => exact rfl); (case kG => exact fun _ => rfl); (case kB => exact fun _ => rfl); (case kD => decide +kernel); (case c2 => exact rfl); (case c3 => exact rfl); (case c4 => exact rfl); k_whole; intro D' g' L' h' tk' cells' l1 FG' F' N' Y' B' X' T' gsub' dnew' dlt'; (try k_lt l1); k_cells Y'; (try simp only [List.cons_append, List.nil_append] at N'); (try dsimp only); (try k_lift B'); (try k_fold)))
local macro_rules | `(tactic| walk_at "MINE fresh") => `(tactic| (refine fresh_of (by assumption) (by assumption) (by k_mem) ?_; simp only [List.map_cons, List.map_nil, List.mem_cons, List.not_mem_nil, or_false, not_or]; (repeat' apply And.intro) <;> (first | omega | (refine neN ?_; omega))))
local macro_rules | `(tactic| walk_at "MINE use") => `(tactic| (
  (case k1 => k_asm); (case k2 => k_asm); (case k3 => k_in); (case k4 => k_asm); (case k5 => k_asm); (case k6 => first | exact rfl | assumption); (case k7 => lcg_sub); (case k8 => first | decide | ktr_room); (case k9 => first | decide | ktr_units)))
local macro_rules | `(tactic| walk_at "eval Call Attribute") => `(tactic| (k_here; (with_reducible show wpAny _ _ (eval (Expr.Call (Expr.Attribute _ _ _) [Expr.Starred _ _] [] _) _) _ _ _); refine MethodCall_star ?_))
local macro_rules | `(tactic| walk_at "callWith ref") => `(tactic| (k_here; (with_reducible show wpAny _ _ (callWith _ (Value.ref _) _ (backTo _ (starEach [Expr.Starred _ _] _)) []) _ _ _); k_dflt (refine' callWith_MS ?k1 ?k2 ?k3 ?k4 ?_; (case k1 => k_asm); (case k2 => k_asm); (case k3 => k_mem); (case k4 => k_is); k_whole)))
local macro_rules | `(tactic| walk_at "exec For Name Call cons nil") => `(tactic| (k_here; (rename MarkF => mkF); refine stop_at ?_))
local macro_rules | `(tactic| walk_at "exec For Name Name cons nil") => `(tactic| (k_here; (rename MarkF => mkF); refine stop_at ?_))
local macro_rules | `(tactic| walk_at "exec For Name Tuple cons nil") => `(tactic| (k_here; (rename MarkF => mkF); refine stop_at ?_))
local macro_rules | `(tactic| walk_at "callWith type:zip") => `(tactic| (k_here; (with_reducible show wpAny _ _ (callWith _ (Value.type _) _ (backTo _ (starEach [Expr.Starred _ _] _)) []) _ _ _); refine callWith_typeS (by rfl) ?_))
local macro_rules | `(tactic| walk_at "callWith ref") => `(tactic| (k_here; kco_any "__call__"; kco_here; (with_reducible show wpAny _ _ (callWith _ (Value.ref _) _ (backTo _ (starEach [Expr.Starred _ _] _)) []) _ _ _); k_dflt (refine' callWith_IS ?k1 ?k2 ?k3 ?k4 ?_; (case k1 => k_in); (case k2 => k_inst); (case k3 => rfl); (case k4 => k_is); k_whole)))
local macro_rules | `(tactic| walk_at "call builtin:len") => `(tactic| (k_here; (with_reducible show wpAny _ _ (call (Value.builtin "len") [Value.str _ _]) _ _ _); refine PyProof.Rows.len_str (by omega) ?_))
open PyProof.Rows.LCg
local macro_rules | `(tactic| walk_at "MINE use") => `(tactic| (
  (case k1 => k_asm); (case k2 => k_asm); (case k3 => k_in); (case k4 => k_asm); (case k5 => k_asm); (case k6 => first | exact rfl | assumption); (case k7 => lcg_sub); (case k8 => first | decide | ktr_room); (case k9 => first | decide | ktr_units)))
local macro_rules | `(tactic| walk_at "eval ListComp") => `(tactic| (k_here; refine stop_at ?_))
local macro_rules | `(tactic| walk_at "call ref") => `(tactic| (k_here; k_dflt (refine' does_use (word_c _ _) ?k1 ?k2 ?k3 ?k4 ?k5 ?k6 ?k7 ?k8 ?k9 True.intro ?_; walk_at "MINE use"; k_whole; intro v9 h9 tk9 F9 N9 k9 p9; (obtain ⟨x9, t9, e9, l9, u9⟩ := p9); subst e9; try k_sweep)))
local macro_rules | `(tactic| walk_at "call builtin:list.append") => `(tactic| (k_here; refine stop_at ?_))
local macro_rules | `(tactic| walk_at "exec If") => `(tactic| (k_here; refine stop_at ?_))
def NMem {g h : Heap} {L : Addr} {news : List (Addr × Obj)} (_ : News g L h news) (p : Addr × Obj) : Prop := p ∈ news
theorem news_pick {g h : Heap} {L : Addr} {news : List (Addr × Obj)} (N : News g L h news) (l : List (Addr × Obj)) (hl : ∀ p ∈ l, NMem N p) : News g L h l := fun p hp => N p (hl p hp)
theorem all7 {P : Addr × Obj → Prop} {a b c d e f g : Addr × Obj} (ha : P a) (hb : P b) (hc : P c) (hd : P d) (he : P e) (hf : P f) (hg : P g) : ∀ p ∈ [a, b, c, d, e, f, g], P p := by
  intro p hp
  simp only [List.mem_cons, List.not_mem_nil, or_false] at hp
  rcases hp with rfl | rfl | rfl | rfl | rfl | rfl | rfl <;> assumption
theorem news_addl {h₀ H h' : Heap} {L : Addr} {m : Str → Option Value} {news : List (Addr × Obj)} (F : Fr h₀ L H m) (N : News h₀ L h' news) (l : List (Addr × Obj)) (hl : ∀ p ∈ l, H.get? p.1 = none ∧ h'.get? p.1 = some p.2) : News h₀ L h' (l ++ news) := by
  intro p hp
  rcases List.mem_append.mp hp with hp | hp
  · exact news_add F (hl p hp).1 N (hl p hp).2 p List.mem_cons_self
  · exact N p hp
theorem news_ends {h₀ H h' : Heap} {L S : Addr} {m : Str → Option Value} {news tl : List (Addr × Obj)} {o : Obj} (F : Fr h₀ L H m) (N : News h₀ L h' news) (hl : ∀ p ∈ (S, o) :: tl, H.get? p.1 = none ∧ h'.get? p.1 = some p.2) : News h₀ L h' ((S, o) :: (news ++ tl)) := by
  have := news_addl F N _ hl
  intro p hp
  refine this p ?_
  simp only [List.mem_cons, List.mem_append] at hp ⊢
  rcases hp with hp | hp | hp
  · exact .inl (.inl hp)
  · exact .inr hp
  · exact .inl (.inr hp)
theorem own_of {h₀ H : Heap} {L : Addr} {news tl : List (Addr × Obj)} (N : News h₀ L H news) (ht : ∀ p ∈ tl, H.get? p.1 = none) : OwnOff tl (news.map (·.1)) := by
  intro p hp b hb e
  obtain ⟨q, hq, rfl⟩ := List.mem_map.mp hb
  have := (N q hq).1
  rw [← e, ht p hp] at this
  cases this
theorem off1_of {S : Addr} : ∀ {l : List (Addr × Obj)}, (∀ p ∈ l, p.1 ≠ S) → LCg.Off1 S l
  | [], _ => trivial
  | p :: _, h => ⟨h p List.mem_cons_self, off1_of fun q hq => h q (List.mem_cons_of_mem _ hq)⟩
theorem off1_new {h₀ H : Heap} {L S : Addr} {news : List (Addr × Obj)} (N : News h₀ L H news) (hS : H.get? S = none) : LCg.Off1 S news := off1_of fun p hp e => by
  have := (N p hp).1
  rw [e, hS] at this
  cases this
local macro_rules | `(tactic| walk_at "call ref") => `(tactic| (k_here; k_dflt (refine' does_use (ends_p _ _ _ _ (by assumption) (by assumption) (by assumption)) ?k1 ?k2 ?k3 ?k4 ?k5 ?k6 ?k7 ?k8 ?k9 True.intro ?_; walk_at "MINE use"; k_whole; intro v9 h9 tk9 F9 N9 k9 p9; (obtain ⟨S9, ys9, es9, c9, tl9, e9, u9, R9, P9, O9⟩ := p9); subst e9; (have N10 := news_ends (by assumption) N9 u9); (have hoff9 := own_of (by assumption) fun p hp => (u9 p (List.mem_cons_of_mem _ hp)).1); (have off9 := off1_new (by assumption) (u9 _ List.mem_cons_self).1); clear N9 u9; (simp only [List.map_cons, List.map_nil] at hoff9); (simp only [LCg.Off1, and_true] at off9); (simp only [List.cons_append, List.nil_append] at N10))))
local macro_rules | `(tactic| walk_at "call builtin:len") => `(tactic| (k_here; (with_reducible show wpAny _ _ (call (Value.builtin "len") [Value.ref _]) _ _ _); k_dflt (refine' my_len ?k1 ?k2 ?k3 ?_; (case k1 => k_asm); (case k2 => k_mem); (case k3 => omega); k_whole)))
local macro_rules | `(tactic| walk_at "subscriptTail Name Name ref int") => `(tactic| (k_here; k_dflt (refine' my_item ?k1 ?k2 ?k3 ?k4 ?k5 ?_; (case k1 => k_asm); (case k2 => k_mem); (case k3 => assumption); (case k4 => omega); (case k5 => omega); k_whole)))
local macro_rules | `(tactic| walk_at "call ref") => `(tactic| (k_here; k_dflt (refine' does_meth (psim_p _ _ _ _ _ _ _ _ _ _ (by assumption)) ?k1 ?k2 ?k3 ?k4 ?k5 ?k6 ?k7 ?k8 ?k9 ?kq True.intro ?_; walk_at "MINE use"; (case kq => k_mem); k_whole; intro v9 h9 tk9 F9 N9 k9 p9; (obtain ⟨t9, e9⟩ := p9); subst e9)))
structure LW where
  uw : Option Value
  oE : Obj
  oA : Obj
  nw : List (Addr × Obj)
def EndsSt (xs : List Str) (σ : LW) : Prop :=
  ∃ (S : Addr) (ys : List Value) (es : List (Str × Nat)) (c : Nat) (tl : List (Addr × Obj)) (Al : Addr) (zl : List Value), σ.oE.data = .cell (some (.ref S)) ∧ σ.oA.data = .cell (some (.ref Al)) ∧
    σ.nw = (Al, lst zl) :: (S, ({ cls := .type "list", data := .seq ys.toArray c } : Obj)) :: tl ∧ RowsIn tl ys es ∧ es.Perm (endsUpTo xs xs.length) ∧ es.Pairwise rowLt ∧ IntsAre zl (lcps es)
theorem law_holds : PySem.Challenge.rw_dr5026_01.Holds := hd (by
  k_go0
  (all_goals try k_fold)
  k_steps
  unfold StopAt
  rename Shared => s1
  rename Fr _ _ _ _ => F1
  rename News _ _ _ _ => N1
  refine my_ListComp (s := s1) F1 (by with_unfolding_all rfl) (by decide) (by rfl) (by decide) ?_
  k_steps
  rename IsRange _ _ _ _ _ _ _ _ => R1
  rename Fr _ _ _ _ => F2
  rename News _ _ _ _ => N2
  refine from_range (n := 2) (s := s1) (LS.mk0 (Str.ofString "k")) (fun σ => lst σ.ys) (fun σ => _) (fun i σ => WordsAre σ.ys i) (fun _ => ⟨none, []⟩) plain_list (by rfl) (fun I C D => turn_list1 _ _ _ _ _ _ _ _) (fun C D => inner_list) (fun C D => mono_emit) (by rfl) (by rfl) (by rfl) R1 (by rfl) (by first | decide | rfl) F2 N2 (fun _ => rfl) (fun _ => by funext z; simp [LS.mk0]) (fun _ => rfl) (fun _ => ⟨[], trivial, by simp, rfl⟩) ?turn ?fin
  case turn =>
    intro I C D i σ v oI oC h tk hi hJ hP F3 hns N3 offs offI hCD hIC hID
    obtain ⟨ti, rfl⟩ := hP
    have hns2 := mkL_ns hns
    have hmk : mkL (Str.ofString "k") (.int (0 + (i : Int)) ti) (Str.ofString "k") = some (.int (0 + (i : Int)) ti) := rfl
    clear hns
    (try clear F2 N2); (try clear R1); (try clear F1); (try clear N1)
    dsimp only at N3 ⊢
    (try k_fold)
    k_steps
    all_goals unfold StopAt
    all_goals (rename Fr _ _ _ _ => F4)
    all_goals (rename News _ _ _ _ => N4)
    all_goals (
      refine' append_cst (led := (I, oI) :: _) F4 N4 hns2 ?hs hCD ?ho ?hsz ?hp
      case hs => k_sub
      case ho =>
        intro p hp
        rcases List.mem_cons.mp hp with rfl | hp
        · exact ⟨hIC, hID⟩
        · exact offs p hp
      case hsz =>
        obtain ⟨xs, q1, q2, q3⟩ := hJ
        rw [q1.length, q3]
        exact Nat.le_trans (Nat.le_of_lt hi) (by decide)
      case hp =>
        intro s' hc
        exact ⟨⟨some (.int (0 + (i : Int)) ti), σ.ys ++ [_]⟩, oI, hJ.snoc (by assumption) (by assumption), rfl, hc, offI⟩)
  case fin =>
    intro D σ hltD hJ h tk F3 N3
    k_lt hltD
    obtain ⟨x, y, tx, ty, hys, hx1, hx7, hy1, hy7⟩ := hJ.two
    (try clear F2 N2); (try clear R1); (try clear F1); (try clear N1)
    rw [hys] at N3
    (try k_fold)
    have mark : MarkF := True.intro
    k_steps
    unfold StopAt
    rename Fr _ _ _ _ => F5
    rename News _ _ _ _ => N5
    rename_i px pd hq1 Fq1 Nq1 lq1 lq2 gq1 Lq1 hq2 Bq1 Xq1 Tq1 lf1 lf2 lf3 lf4 qq1 qq2 tq1 hq3 hq4 Fq2 Nq2 Gq1 kX1 lx ld hq5 lq3 lq4 gq2 Lq2 hq6 Bq2 Xq2 Tq2 lf5 lf6 lf7 lf8 tq2 hq7 hq8 Fq3 Nq3 Gq2 kX2 e1 hq9 lq5 e2 hq10 lq6 t0 hq11 lq7 hq12 hq13 oB dB hq14 hq15 oE dE hq16 oA dA
    clear Fq1 Nq1 Bq1 Xq1 Tq1 lf1 lf2 lf3 lf4 Fq2 Nq2 Bq2 Xq2 Tq2 lf5 lf6 lf7 lf8 Fq3 Nq3
    rename World => w0
    have hPD : ∃ t1 t2 t3 nv, NMem N5 (pd, dictOf [⟨PyData.keyHash w0.params "qval", .str "qval" t1, .int 1 t2⟩, ⟨PyData.keyHash w0.params "sim_test", .str "sim_test" t3, .ref 100⟩] nv) := ⟨_, _, _, _, by unfold NMem; k_mem⟩
    have hLD : ∃ t1 t2 t3 nv, NMem N5 (ld, dictOf [⟨PyData.keyHash w0.params "qval", .str "qval" t1, .int 1 t2⟩, ⟨PyData.keyHash w0.params "external", .str "external" t3, .bool true⟩] nv) := ⟨_, _, _, _, by unfold NMem; k_mem⟩
    obtain ⟨p1, p2, p3, pn, hPD⟩ := hPD
    obtain ⟨q1, q2, q3, qn, hLD⟩ := hLD
    have hPX : NMem N5 (px, instObj 262 pd) := by unfold NMem; k_mem
    have hLX : NMem N5 (lx, instObj 221 ld) := by unfold NMem; k_mem
    have hcA : NMem N5 (s1.heap.objs.size + 1 + 1 + 1 + 1, oA) := by unfold NMem; k_mem
    have hcE : NMem N5 (s1.heap.objs.size + 1 + 1 + 1, oE) := by unfold NMem; k_mem
    have hcB : NMem N5 (s1.heap.objs.size + 1 + 1, oB) := by unfold NMem; k_mem
    have N6 := news_pick N5 [(s1.heap.objs.size + 1 + 1 + 1, oE), (s1.heap.objs.size + 1 + 1 + 1 + 1, oA), (s1.heap.objs.size + 1 + 1, oB), (px, instObj 262 pd), (pd, _), (lx, instObj 221 ld), (ld, _)] (all7 hcE hcA hcB hPX hPD hLX hLD)
    have F6 := fr_same (m' := lawMk x y tx ty lx none none none none none) F5 (law_names rfl rfl rfl rfl rfl rfl rfl rfl (fun z h1 h2 h3 h4 h5 h6 h7 h8 => by simp only [if_neg h1, if_neg h2, if_neg h3, if_neg h4, if_neg h5, if_neg h6, if_neg h7, if_neg h8]; rfl))
    have hlt6 : @LT.lt Nat _ (s1.heap.objs.size + 1 + 1 + 1 + 1) pd := by omega
    have hlt7 : @LT.lt Nat _ pd px := by omega
    have hlt8 : @LT.lt Nat _ px ld := by omega
    have hlt9 : @LT.lt Nat _ ld lx := by omega
    clear hPD hLD hPX hLX hcA hcE hcB N5 F5 lq1 lq2 lq3 lq4 lq5 lq6 lq7
    refine my_For ?_
    k_steps
    rename Fr _ _ _ _ => F7
    rename News _ _ _ _ => N7
    rename_i v1 z1 r1 v2 z2 r2 v3 z3 r3 tT z4 rT
    (try clear F6); (try clear N6)
    have hv1 : @LT.lt Nat _ lx v1 := by omega
    have hv2 : @LT.lt Nat _ v1 v2 := by omega
    have hv3 : @LT.lt Nat _ v2 v3 := by omega
    have hvT : @LT.lt Nat _ v3 tT := by omega
    clear r1 r2 r3 rT
    refine for_tuple_at (s := s1) (vs := [.ref v1, .ref v2, .ref v3]) (fun σ => lawMk x y tx ty lx σ.uw none none none none) (fun σ : LW => (s1.heap.objs.size + 1 + 1 + 1, σ.oE) :: (s1.heap.objs.size + 1 + 1 + 1 + 1, σ.oA) :: (s1.heap.objs.size + 1 + 1, oB) :: (px, instObj 262 pd) :: (pd, dictOf [⟨PyData.keyHash w0.params "qval", .str "qval" p1, .int 1 p2⟩, ⟨PyData.keyHash w0.params "sim_test", .str "sim_test" p3, .ref 100⟩] pn) :: (lx, instObj 221 ld) :: (ld, dictOf [⟨PyData.keyHash w0.params "qval", .str "qval" q1, .int 1 q2⟩, ⟨PyData.keyHash w0.params "external", .str "external" q3, .bool true⟩] qn) :: (v1, wordsO [.str x tx]) :: (v2, wordsO [.str y ty]) :: (v3, wordsO [.str x tx, .str y ty]) :: σ.nw)
      (fun i σ => (∃ vE, σ.oE.data = .cell (some vE)) ∧ (∃ vA, σ.oA.data = .cell (some vA)) ∧ (i = 3 → EndsSt [x, y] σ)) ⟨none, oE, oA, []⟩ (by rfl) (by rfl) (by rfl) F7 (news_sub N7 ?sub) ⟨⟨_, dE⟩, ⟨_, dA⟩, fun q => by cases q⟩ ?turn ?fin
    case sub =>
      repeat (refine List.forall_mem_cons.mpr ⟨by k_mem, ?_⟩)
      exact List.forall_mem_nil _
    case turn =>
      intro i σ v' I oI h tk hv' hJ F8 N8 offI hTI
      obtain ⟨⟨vE, hE⟩, ⟨vA, hA⟩, _⟩ := hJ
      (try dsimp only at N8); (try dsimp only at F8); (try dsimp only at offI)
      have oI1 : @Ne Nat (s1.heap.objs.size + 1 + 1 + 1) I := offI (s1.heap.objs.size + 1 + 1 + 1, σ.oE) (by simp)
      have oI2 : @Ne Nat (s1.heap.objs.size + 1 + 1 + 1 + 1) I := offI (s1.heap.objs.size + 1 + 1 + 1 + 1, σ.oA) (by simp)
      have hi3 : i < 3 := by have := (List.getElem?_eq_some_iff.mp hv').1; simpa using this
      obtain ⟨wl, wvs, xs, hvw, hwl, hS, hxl, hx7', hne, hlast, hwlt⟩ : ∃ wl wvs xs, v' = .ref wl ∧ NMem N8 (wl, wordsO wvs) ∧ StrsAre wvs xs ∧ xs.length ≤ 2 ∧ (∀ x ∈ xs, 1 ≤ x.length ∧ x.length ≤ 7) ∧ xs ≠ [] ∧ (i + 1 = 3 → xs = [x, y]) ∧ @LT.lt Nat _ lx wl := by
        rcases (by omega : i = 0 ∨ i = 1 ∨ i = 2) with rfl | rfl | rfl
        · simp at hv'
          exact ⟨v1, [.str x tx], [x], hv'.symm, by unfold NMem; simp, .one, by simp, (by intro z hz; rw [List.mem_singleton.mp hz]; exact ⟨hx1, hx7⟩), by simp, (fun q => absurd q (by omega)), hv1⟩
        · simp at hv'
          exact ⟨v2, [.str y ty], [y], hv'.symm, by unfold NMem; simp, .one, by simp, (by intro z hz; rw [List.mem_singleton.mp hz]; exact ⟨hy1, hy7⟩), by simp, (fun q => absurd q (by omega)), by omega⟩
        · simp at hv'
          exact ⟨v3, [.str x tx, .str y ty], [x, y], hv'.symm, by unfold NMem; simp, .two, by simp, both (P := fun z => 1 ≤ z.length ∧ z.length ≤ 7) ⟨hx1, hx7⟩ ⟨hy1, hy7⟩, by simp, fun _ => rfl, by omega⟩
      subst hvw
      have N9 := news_pick N8 [(I, oI), (tT, ({ cls := .type "tuple", data := .seq [Value.ref v1, .ref v2, .ref v3].toArray } : Obj)), (wl, wordsO wvs), (s1.heap.objs.size + 1 + 1 + 1, σ.oE), (s1.heap.objs.size + 1 + 1 + 1 + 1, σ.oA), (s1.heap.objs.size + 1 + 1, oB), (px, instObj 262 pd), (pd, dictOf [⟨PyData.keyHash w0.params "qval", .str "qval" p1, .int 1 p2⟩, ⟨PyData.keyHash w0.params "sim_test", .str "sim_test" p3, .ref 100⟩] pn), (lx, instObj 221 ld), (ld, dictOf [⟨PyData.keyHash w0.params "qval", .str "qval" q1, .int 1 q2⟩, ⟨PyData.keyHash w0.params "external", .str "external" q3, .bool true⟩] qn), (v1, wordsO [.str x tx]), (v2, wordsO [.str y ty]), (v3, wordsO [.str x tx, .str y ty])] (by
        intro p hp
        simp only [List.mem_cons, List.not_mem_nil, or_false] at hp
        rcases hp with rfl | rfl | rfl | rfl | rfl | rfl | rfl | rfl | rfl | rfl | rfl | rfl | rfl
        all_goals first | exact hwl | (unfold NMem; simp))
      have F9 := fr_same (m' := lawMk x y tx ty lx (some (.ref wl)) none none none none) F8 (law_names rfl rfl rfl rfl rfl rfl rfl rfl (fun z h1 h2 h3 h4 h5 h6 h7 h8 => by unfold lawMk; simp only [if_neg h1, if_neg h2, if_neg h3, if_neg h4, if_neg h5, if_neg h6, if_neg h7, if_neg h8]))
      clear N8 F8 hwl
      (try k_fold)
      k_steps
      unfold StopAt
      rename Fr _ _ _ _ => F10
      rename News _ _ _ _ => N10
      rename_i h9 tk9 k9 S ys es c9 tl R9 P9 O9 hoff9 off9 h10 oE2 dE2
      have hyl : ys.length ≤ 1000 := by
        have h1 := P9.length_eq
        have h2 := ends_len hx7' xs.length (Nat.le_refl _)
        have h3 := R9.1
        omega
      have hyl1 : 1 ≤ ys.length := by
        have h1 := P9.length_eq
        have h3 := R9.1
        have h4 := ends_pos hx7' hne
        omega
      rename PyProof.Rows.Top _ _ _ _ _ _ => T9
      rename Below _ _ _ _ => B9
      have hlen9 := rows_len hx7' P9
      have N11 := news_sub (l := (S, ({ cls := .type "list", data := .seq ys.toArray c9 } : Obj)) :: (s1.heap.objs.size + 1 + 1 + 1, oE2) :: (s1.heap.objs.size + 1 + 1, oB) :: (px, instObj 262 pd) :: (pd, dictOf [⟨PyData.keyHash w0.params "qval", .str "qval" p1, .int 1 p2⟩, ⟨PyData.keyHash w0.params "sim_test", .str "sim_test" p3, .ref 100⟩] pn) ::
        (I, oI) :: (tT, ({ cls := .type "tuple", data := .seq [Value.ref v1, .ref v2, .ref v3].toArray } : Obj)) :: (wl, wordsO wvs) :: (s1.heap.objs.size + 1 + 1 + 1 + 1, σ.oA) :: (lx, instObj 221 ld) :: (ld, dictOf [⟨PyData.keyHash w0.params "qval", .str "qval" q1, .int 1 q2⟩, ⟨PyData.keyHash w0.params "external", .str "external" q3, .bool true⟩] qn) :: (v1, wordsO [.str x tx]) :: (v2, wordsO [.str y ty]) :: (v3, wordsO [.str x tx, .str y ty]) :: tl) N10 (by
          repeat (refine List.forall_mem_cons.mpr ⟨by k_mem, ?_⟩)
          intro p hp
          repeat (first | exact hp | apply List.mem_cons_of_mem))
      clear N10
      refine alike_p (s := s1) (es := es) (ys := ys) kX2 T9 B9 F10 N11 dE2 dB R9 (fun p hp => by repeat (first | exact hp | apply List.mem_cons_of_mem)) hyl hyl1 hlen9 ?next
      intro Al hAl tkl zl hltAl F12 N12 hzl
      clear F10 N11
      (try k_fold)
      have hIAl : @LT.lt Nat _ I Al := hltAl (I, oI) (by simp)
      k_lt hltAl
      k_steps
      unfold StopAt
      rename Fr _ _ _ _ => F13
      rename News _ _ _ _ => N13
      rename_i h13 oA2 dA2
      have N14 := news_sub (l := (S, ({ cls := .type "list", data := .seq ys.toArray c9 } : Obj)) :: (s1.heap.objs.size + 1 + 1 + 1, oE2) :: (Al, lst zl) :: (s1.heap.objs.size + 1 + 1 + 1 + 1, oA2) :: (wl, wordsO wvs) ::
        (I, oI) :: (tT, ({ cls := .type "tuple", data := .seq [Value.ref v1, .ref v2, .ref v3].toArray } : Obj)) :: (s1.heap.objs.size + 1 + 1, oB) :: (px, instObj 262 pd) :: (pd, dictOf [⟨PyData.keyHash w0.params "qval", .str "qval" p1, .int 1 p2⟩, ⟨PyData.keyHash w0.params "sim_test", .str "sim_test" p3, .ref 100⟩] pn) ::
        (lx, instObj 221 ld) :: (ld, dictOf [⟨PyData.keyHash w0.params "qval", .str "qval" q1, .int 1 q2⟩, ⟨PyData.keyHash w0.params "external", .str "external" q3, .bool true⟩] qn) :: (v1, wordsO [.str x tx]) :: (v2, wordsO [.str y ty]) :: (v3, wordsO [.str x tx, .str y ty]) :: tl) N13 (by
          repeat (refine List.forall_mem_cons.mpr ⟨by k_mem, ?_⟩)
          intro p hp
          repeat (first | exact hp | apply List.mem_cons_of_mem))
      clear N13
      refine check_p (s := s1) (es := es) (ys := ys) (xs := xs) kX2 T9 B9 F13 N14 dE2 dA2 R9 (fun p hp => by repeat (first | exact hp | apply List.mem_cons_of_mem)) hyl hzl hlen9 hS hxl hx7' (sums_ok P9 O9) ?next2
      intro h15 tk15 F15 N15
      refine wpAny_execs_nil ?_
      refine ⟨h15, tk15, ⟨some (.ref wl), oE2, oA2, (Al, lst zl) :: (S, ({ cls := .type "list", data := .seq ys.toArray c9 } : Obj)) :: tl⟩, rfl, F15, news_sub N15 ?subT, ?offT, ⟨_, dE2⟩, ⟨_, dA2⟩, fun e => ?endT⟩
      case subT =>
        repeat (refine List.forall_mem_cons.mpr ⟨by k_mem, ?_⟩)
        intro p hp
        repeat (first | exact hp | apply List.mem_cons_of_mem)
      case offT =>
        exact List.forall_mem_cons.mpr ⟨hTI, List.forall_mem_cons.mpr ⟨oI1, List.forall_mem_cons.mpr ⟨oI2, List.forall_mem_cons.mpr ⟨offI (_, oB) (by simp), List.forall_mem_cons.mpr ⟨offI (px, instObj 262 pd) (by simp), List.forall_mem_cons.mpr ⟨offI (pd, dictOf _ _) (by simp), List.forall_mem_cons.mpr ⟨offI (lx, instObj 221 ld) (by simp), List.forall_mem_cons.mpr ⟨offI (ld, dictOf _ _) (by simp), List.forall_mem_cons.mpr ⟨offI (v1, wordsO _) (by simp), List.forall_mem_cons.mpr ⟨offI (v2, wordsO _) (by simp), List.forall_mem_cons.mpr ⟨offI (v3, wordsO _) (by simp), List.forall_mem_cons.mpr ⟨fun e => absurd hIAl (by rw [← e]; exact Nat.lt_irrefl _), List.forall_mem_cons.mpr ⟨fun e => off9.1 e.symm, fun p hp => hoff9 p hp I (by simp)⟩⟩⟩⟩⟩⟩⟩⟩⟩⟩⟩⟩⟩
      case endT =>
        rw [← hlast e]
        exact ⟨S, ys, es, c9, tl, Al, zl, dE2, dA2, rfl, R9, P9, O9, hzl⟩
    case fin =>
      intro σ h tk hJ F20 N20
      obtain ⟨_, _, hE3⟩ := hJ
      obtain ⟨S, ys, es, c9, tl, Al, zl, dE, dA, hnw, R, P, O, hzl⟩ := hE3 rfl
      rw [hnw] at N20
      refine wpAny_mono (tail_p (c := c9) (pd := pd) (ld := ld) (nv := pn) (mv := qn) (t1 := p1) (t2 := p2) (t3 := p3) (t4 := q1) (t5 := q2) (t6 := q3) (s := s1) (es := es) (ys := ys) (zl := zl) (S := S) (Al := Al) (tl := tl) (x := x) (y := y) kX2 (by assumption) (by assumption) F20 (news_sub N20 ?subF) dE dA dB R P O hzl hx1 hx7 hy1 hy7 ?lastF) (fun _ _ h => h) (fun _ _ e => e.elim)
      case subF =>
        repeat (refine List.forall_mem_cons.mpr ⟨by k_mem, ?_⟩)
        intro p hp
        repeat (first | exact hp | apply List.mem_cons_of_mem)
      case lastF =>
        intro h' tk' m' F'
        k_steps)
end Mine
end
set_option maxRecDepth 100000 in
set_option maxHeartbeats 8000000 in
theorem PySem.Challenge.cw_dr5026_01_holds : PySem.Challenge.rw_dr5026_01.Holds := by
  exact Mine.law_holds
