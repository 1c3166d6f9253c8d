import PyProof.Rows.All
import Wide.All
import OpenK.AllK
import Wide.FinOn
import PySem.Challenge.RW_pe0017_01
set_option Elab.async false
set_option maxRecDepth 100000
section
open PySem PySem.W PyProof.Rows
namespace Mine
set_option maxRecDepth 100000 in
set_option maxHeartbeats 8000000 in
open_top hd for PySem.Challenge.rw_pe0017_01
end Mine
end
section
namespace Mine
/-- one number's octets -/
def octs1 (x : Int) : List Int := if x < 64 then [x] else [64 + x.fdiv 64, x.fmod 64]
def octs (ds : List Int) : List Int := ds.flatMap octs1
/-- the signs' numbers -/
def codesOf (x : PySem.Str) : List Int := x.cps.toList.map fun (c : Nat) => (c : Int)
/-- what a cut text holds: whole numbers, and perhaps one octet that wants more -/
def Cut (cs nums : List Int) : Prop := ∃ tl, cs = octs nums ++ tl ∧ (∀ n ∈ nums, 0 ≤ n ∧ n < 4096) ∧ (tl = [] ∨ ∃ c, tl = [c] ∧ 64 ≤ c ∧ c < 128)
theorem octs_nil : octs [] = [] := rfl
theorem octs_cons (d : Int) (ds : List Int) : octs (d :: ds) = octs1 d ++ octs ds := by simp [octs]
theorem octs_append (a b : List Int) : octs (a ++ b) = octs a ++ octs b := by simp [octs]
theorem octs_snoc (a : List Int) (d : Int) : octs (a ++ [d]) = octs a ++ octs1 d := by simp [octs]
theorem codesOf_len (x : PySem.Str) : (codesOf x).length = x.cps.size := by simp [codesOf]
theorem codesOf_at (x : PySem.Str) (i : Nat) (h : i < x.cps.size) : (codesOf x)[i]? = some ((x.cps[i]?.getD 0 : Nat) : Int) := by
  simp [codesOf, h]
theorem octs1_lo {d : Int} (h : d < 64) : octs1 d = [d] := by simp [octs1, h]
theorem octs1_hi {d : Int} (h : ¬ d < 64) : octs1 d = [64 + d.fdiv 64, d.fmod 64] := by simp [octs1, h]
theorem fdiv64 {d : Int} (h0 : 64 ≤ d) (h1 : d < 4096) : 64 ≤ 64 + d.fdiv 64 ∧ 64 + d.fdiv 64 < 128 ∧ 0 ≤ d.fmod 64 ∧ d.fmod 64 < 64 ∧ (64 + d.fdiv 64 - 64) * 64 + d.fmod 64 = d := by
  rw [Int.fdiv_eq_ediv_of_nonneg _ (by decide), Int.fmod_eq_emod_of_nonneg _ (by decide)]
  omega
theorem octs_bound {ds : List Int} (h : ∀ n ∈ ds, 0 ≤ n ∧ n < 4096) : ∀ c ∈ octs ds, 0 ≤ c ∧ c < 128 := by
  intro c hc
  simp only [octs, List.mem_flatMap] at hc
  obtain ⟨d, hd, hc⟩ := hc
  have hb := h d hd
  by_cases h64 : d < 64
  · rw [octs1_lo h64, List.mem_singleton] at hc
    omega
  · have := fdiv64 (by omega) hb.2
    rw [octs1_hi h64] at hc
    simp only [List.mem_cons, List.not_mem_nil, or_false] at hc
    omega
/-- a text of given signs -/
def signOf (c : Int) : PySem.Str := ⟨#[c.toNat]⟩
theorem glued_fold (cs : List Int) : ∀ acc : Array Nat, ((cs.map signOf).foldl (fun (acc : Array Nat) (p : PySem.Str) => acc ++ PySem.Str.empty.cps ++ p.cps) acc).toList = acc.toList ++ cs.map Int.toNat := by
  induction cs with
  | nil => intro acc; simp
  | cons c cs ih =>
    intro acc
    rw [List.map_cons, List.foldl_cons, ih]
    simp [signOf, PySem.Str.empty]
theorem join_codes {cs : List Int} (h : ∀ c ∈ cs, 0 ≤ c) : codesOf (PySem.Txt.join PySem.Str.empty (cs.map signOf)) = cs := by
  have e : (PySem.Txt.join PySem.Str.empty (cs.map signOf)).cps.toList = cs.map Int.toNat := by
    cases cs with
    | nil => rfl
    | cons c cs =>
      show ((cs.map signOf).foldl (fun (acc : Array Nat) (p : PySem.Str) => acc ++ PySem.Str.empty.cps ++ p.cps) (signOf c).cps).toList = _
      rw [glued_fold]
      simp [signOf]
  unfold codesOf
  rw [e, List.map_map]
  conv => rhs; rw [← List.map_id cs]
  refine List.map_congr_left fun c hc => ?_
  have := h c hc
  show ((c.toNat : Nat) : Int) = c
  omega
theorem octs1_pos (d : Int) : 1 ≤ (octs1 d).length := by unfold octs1; split <;> simp
theorem octs_len (ds : List Int) : ds.length ≤ (octs ds).length := by
  induction ds with
  | nil => simp [octs]
  | cons d ds ih => rw [octs_cons, List.length_append, List.length_cons]; have := octs1_pos d; omega
open PyProof.Rows PySem in
theorem ints_snoc {vs : List Value} {ns : List Int} {d : Int} {t : Tok} (h : IntsAre vs ns) : IntsAre (vs ++ [.int d t]) (ns ++ [d]) := by
  induction h with
  | nil => exact .cons _ _ .nil
  | cons n u _ ih => exact .cons n u ih
open PyProof.Rows PySem in
theorem ints_append {vs us : List Value} {ns ms : List Int} (h : IntsAre vs ns) (g : IntsAre us ms) : IntsAre (vs ++ us) (ns ++ ms) := by
  induction h with
  | nil => exact g
  | cons n u _ ih => exact .cons n u ih
theorem octs1_len (d : Int) : (octs1 d).length ≤ 2 := by unfold octs1; split <;> simp
theorem octs_len2 (ds : List Int) : (octs ds).length ≤ 2 * ds.length := by
  induction ds with
  | nil => simp [octs]
  | cons d ds ih => rw [octs_cons, List.length_append, List.length_cons]; have := octs1_len d; omega
open PyProof.Rows PySem in
theorem ints_at {vs : List Value} {ns : List Int} (h : IntsAre vs ns) : ∀ (i : Nat) (v : Value), vs[i]? = some v → ∃ n t, ns[i]? = some n ∧ v = .int n t := by
  induction h with
  | nil => intro i v e; simp at e
  | cons n u _ ih =>
    intro i v e
    cases i with
    | zero => exact ⟨n, u, rfl, by simpa using e.symm⟩
    | succ i => exact ih i v (by simpa using e)
open PyProof.Rows PySem in
theorem ints_of {vs : List Value} : ∀ {ns : List Int}, vs.length = ns.length → (∀ (i : Nat) (n : Int), ns[i]? = some n → ∃ t, vs[i]? = some (.int n t)) → IntsAre vs ns := by
  induction vs with
  | nil => intro ns h _; cases ns with
    | nil => exact .nil
    | cons _ _ => simp at h
  | cons v vs ih =>
    intro ns h hh
    cases ns with
    | nil => simp at h
    | cons n ns =>
      obtain ⟨t, e⟩ := hh 0 n rfl
      have ev : v = .int n t := by simpa using e
      subst ev
      exact .cons n t (ih (by simpa using h) fun i m hm => hh (i + 1) m (by simpa using hm))
open PyProof.Rows PySem in
theorem ints_len {vs : List Value} {ns : List Int} (h : IntsAre vs ns) : vs.length = ns.length := by
  induction h with
  | nil => rfl
  | cons n u _ ih => simp [ih]
end Mine
end
section
open PySem PySem.W PyProof.Rows PySem.Calls
namespace Mine
section
variable {prog : Program} {w : World} {A : Around} {E : Value → Shared → Prop} {s : Shared} {h₀ : Heap} {L it l : Addr} {m : Str → Option Value} {news : List (Addr × Obj)}
/-- a list's iterator, as an object -/
def LIt (o : Obj) (l : Addr) (i : Nat) : Prop := o.cls = .type "list_iterator" ∧ o.data = .fields #[.ref l, .int i 0]
theorem iter_list {items : Array Value} {Q : Value → Shared → Prop} (hl : s.heap.IsList l items)
    (h : ∀ o, LIt o l 0 → o.isFreed = false → Q (.ref s.heap.objs.size) { s with heap := s.heap.push o }) :
    wpAny (model prog w) A (call (.builtin "iter") [.ref l]) Q E s := by
  refine call_function_entry (by decide +kernel) (by decide +kernel) kdk_entry_iter (kdk_args_iter _) ?_
  unfold Builtin.«iter»
  refine wpAny_bind (m := someArgs "iter" 1 2 _) (wpAny_of_eq (a := [Value.ref l]) (by first | rfl | kernel_rfl!) ?_)
  show wpAny _ _ (pyIter (.ref l) >>= _) _ _ _
  exact wpAny_bind (wpAny_pyIter_list hl (wpAny_pure ⟨_, rfl, h _ ⟨rfl, rfl⟩ rfl⟩))
theorem next_item {i : Nat} {items : Array Value} {x : Value} {Q : Value → Shared → Prop} (hit : s.heap.IsListIter it l i) (hl : s.heap.IsList l items) (hx : items[i]? = some x)
    (h : ∀ h', h'.IsListIter it l (i + 1) → Heap.SameBut it s.heap h' → Q x { s with heap := h' }) :
    wpAny (model prog w) A (call (.builtin "next") [.ref it]) Q E s := by
  refine call_function_entry (by decide +kernel) (by decide +kernel) kdk_entry_next (kdk_args_next _) ?_
  unfold Builtin.«next»
  refine wpAny_bind (m := someArgs "next" 1 2 _) (wpAny_of_eq (a := [Value.ref it]) (by first | rfl | kernel_rfl!) ?_)
  dsimp only
  refine wpAny_bind (wpAny_specialOf (name := Str.ofString "__next__") hit.typeIs slot_listiter_next.lookup ?_)
  refine wpAny_ite_split (fun hab => absurd hab (by decide)) (fun _ => ?_)
  obtain ⟨o, ho, hc, hd⟩ := id hit
  obtain ⟨ol, hol, _, nl, hdl⟩ := hl
  refine wpAny_bind (wpAny_callSpecial?_slot (name := Str.ofString "__next__") hit.typeIs slot_listiter_next
    (wpAny_call_entry slot_listiter_next hit.typeIs entry_listiter_next ?_ (args_listiter_next _)))
  show wpAny _ _ (field (.ref it) 0 >>= _) _ _ s
  refine wpAny_bind (wpAny_field ho hd (x := .ref l) rfl ?_)
  show wpAny _ _ (if (Value.ref l == Value.none) = true then _ else _) _ _ s
  rw [if_neg (show ¬ ((Value.ref l == Value.none) = true) from Bool.false_ne_true)]
  show wpAny _ _ (field (.ref it) 1 >>= _) _ _ s
  refine wpAny_bind (wpAny_field ho hd (x := .int i 0) rfl ?_)
  show wpAny _ _ (seqItems? (.ref l) >>= _) _ _ s
  refine wpAny_bind (wpAny_seqItems hol hdl ?_)
  simp only [Int.toNat_natCast, hx]
  refine wpAny_bind (wpAny_setField ho hd (by simp) (wpAny_pure ⟨x, rfl, wpAny_pure ⟨_, rfl, h _ ?_ (Heap.SameBut.update ..)⟩⟩))
  exact ⟨_, Heap.get?_update_self _ ho (Obj.isFreed_of_fields (Obj.data_mapFields hd _)), (Obj.cls_mapFields ..).trans hc, by
    rw [Obj.data_mapFields hd]; simp [rawInt]⟩
theorem next_end {i : Nat} {items : Array Value} {Q : Value → Shared → Prop} (hh : A.handled = none) (hit : s.heap.IsListIter it l i) (hl : s.heap.IsList l items) (hx : items[i]? = none)
    (h : ∀ h₁ h' e o', Heap.SameBut it s.heap h₁ → h₁.get? it = some o' → Heap.NewExc h₁ h' e "StopIteration" → E (.ref e) { s with heap := h' }) :
    wpAny (model prog w) A (call (.builtin "next") [.ref it]) Q E s := by
  refine call_function_entry (by decide +kernel) (by decide +kernel) kdk_entry_next (kdk_args_next _) ?_
  unfold Builtin.«next»
  refine wpAny_bind (m := someArgs "next" 1 2 _) (wpAny_of_eq (a := [Value.ref it]) (by first | rfl | kernel_rfl!) ?_)
  dsimp only
  refine wpAny_bind (wpAny_specialOf (name := Str.ofString "__next__") hit.typeIs slot_listiter_next.lookup ?_)
  refine wpAny_ite_split (fun hab => absurd hab (by decide)) (fun _ => ?_)
  obtain ⟨o, ho, hc, hd⟩ := id hit
  obtain ⟨ol, hol, _, nl, hdl⟩ := hl
  refine wpAny_bind (wpAny_callSpecial?_slot (name := Str.ofString "__next__") hit.typeIs slot_listiter_next
    (wpAny_call_entry slot_listiter_next hit.typeIs entry_listiter_next ?_ (args_listiter_next _)))
  show wpAny _ _ (field (.ref it) 0 >>= _) _ _ s
  refine wpAny_bind (wpAny_field ho hd (x := .ref l) rfl ?_)
  show wpAny _ _ (if (Value.ref l == Value.none) = true then _ else _) _ _ s
  rw [if_neg (show ¬ ((Value.ref l == Value.none) = true) from Bool.false_ne_true)]
  show wpAny _ _ (field (.ref it) 1 >>= _) _ _ s
  refine wpAny_bind (wpAny_field ho hd (x := .int i 0) rfl ?_)
  show wpAny _ _ (seqItems? (.ref l) >>= _) _ _ s
  refine wpAny_bind (wpAny_seqItems hol hdl ?_)
  simp only [Int.toNat_natCast, hx]
  refine wpAny_bind (wpAny_rule (wpAny_bind (wpAny_setField ho hd (by simp) ?_)))
  show wpAny _ _ (newExc (.type "StopIteration") [] >>= _) _ _ _
  refine wpAny_bind ?_
  simp only [newExc, newTuple]
  refine wpAny_bind (wpAny_newObj_type ?_ (by size_fits))
  refine wpAny_bind (m := firstArgMember _ _) (wpAny_of_eq (a := Value.none) (by first | rfl | (simp only [firstArgMember]; rfl)) ?_)
  refine wpAny_newObj_type ?_ (by size_fits)
  simp only [raiseNew]
  refine wpAny_bind (wpAny_handled ?_)
  rw [show A.in1.in1.handled = none from hh]
  refine wpAny_bind (wpAny_pure (wpAny_throw ?_))
  refine h _ _ _ _ (Heap.SameBut.update ..) (Heap.get?_update_self _ ho (Obj.isFreed_of_fields (Obj.data_mapFields hd _))) ⟨fun b o e => Heap.get?_push_of_some _ (Heap.get?_push_of_some _ e), ?_, _, _, Heap.get?_push_size _ rfl, rfl, rfl⟩
  rw [Heap.size_push]
  exact Heap.get?_none_of_le (Nat.le_succ _)
theorem LIt.at {h : Heap} {o : Obj} {i : Nat} (a : LIt o l i) (ho : h.get? it = some o) : h.IsListIter it l i := ⟨o, ho, a.1, a.2⟩
theorem iter_K {items : Array Value} {n : Nat} {Q : Value → Shared → Prop} (F : Fr h₀ L s.heap m) (N : News h₀ L s.heap news) (hp : (l, listOf items n) ∈ news)
    (h : ∀ I h' o, Fr h₀ L h' m → News h₀ L h' ((I, o) :: news) → (∀ p ∈ news, p.1 < I) → LIt o l 0 → Q (.ref I) { s with heap := h' }) :
    wpAny (model prog w) A (call (.builtin "iter") [.ref l]) Q E s :=
  iter_list (items := items) ⟨_, (N _ hp).1, rfl, n, rfl⟩ fun o ho hf => h _ _ o (F.push _) (News.push F N _ hf) (fun q hq => Heap.lt_size (N q hq).1) ho
theorem next_K {io : Obj} {g : Obj → List (Addr × Obj)} {i n : Nat} {items : Array Value} {x : Value} {Q : Value → Shared → Prop} (F : Fr h₀ L s.heap m) (N : News h₀ L s.heap news) (U : UpdF it io news g) (hi : LIt io l i)
    (hp : (l, listOf items n) ∈ news) (hx : items[i]? = some x)
    (h : ∀ h' o', Fr h₀ L h' m → News h₀ L h' (g o') → LIt o' l (i + 1) → Q x { s with heap := h' }) :
    wpAny (model prog w) A (call (.builtin "next") [.ref it]) Q E s := by
  obtain ⟨pre, post, hl, hg, a, b⟩ := U.split
  have hmem : (it, io) ∈ news := by rw [hl]; exact List.mem_append_right _ (.head _)
  have hm := N (it, io) hmem
  refine next_item (items := items) (hi.at hm.1) ⟨_, (N _ hp).1, rfl, n, rfl⟩ hx fun h' hit' hs => ?_
  obtain ⟨o', ho', hc', hd'⟩ := hit'
  exact h h' o' (F.change hs hm.2.1 hm.2.2) (hg o' ▸ (show News h₀ L s.heap (pre ++ (it, io) :: post) from hl ▸ N).setIn a b hs ho') ⟨hc', hd'⟩
theorem next_KE {io : Obj} {g : Obj → List (Addr × Obj)} {i n : Nat} {items : Array Value} {Q : Value → Shared → Prop} (hh : A.handled = none) (F : Fr h₀ L s.heap m) (N : News h₀ L s.heap news) (U : UpdF it io news g) (hi : LIt io l i)
    (hp : (l, listOf items n) ∈ news) (hx : items[i]? = none)
    (h : ∀ h₁ h' o' e, Fr h₀ L h₁ m → News h₀ L h₁ (g o') → Heap.NewExc h₁ h' e "StopIteration" → E (.ref e) { s with heap := h' }) :
    wpAny (model prog w) A (call (.builtin "next") [.ref it]) Q E s := by
  obtain ⟨pre, post, hl, hg, a, b⟩ := U.split
  have hmem : (it, io) ∈ news := by rw [hl]; exact List.mem_append_right _ (.head _)
  have hm := N (it, io) hmem
  refine next_end (items := items) hh (hi.at hm.1) ⟨_, (N _ hp).1, rfl, n, rfl⟩ hx fun h₁ h' e o' hs ho' hx' => ?_
  exact h h₁ h' o' e (F.change hs hm.2.1 hm.2.2) (hg o' ▸ (show News h₀ L s.heap (pre ++ (it, io) :: post) from hl ▸ N).setIn a b hs ho') hx'
end
end Mine
end
section
open PySem PySem.W PyProof.Rows PySem.Calls
namespace Mine
abbrev atF (dp un : Nat) (gd : Option (List Code)) (cn : Str) (cs : Scope) (L a : Addr) (ccd : Value) (outer : List Env) : Around := { handled := none, depth := dp, frames := some (envOf cn cs L a ccd :: outer), guards := gd, units := un }
section
variable {prog : Program} {w : World} {A : Around} {E : Value → Shared → Prop} {s : Shared}
theorem and_eq {a b v : Int} {t u : Tok} {Q : Value → Shared → Prop} (e : Builtin.bitAnd a b = v) (h : Q (.int v s.toks) { s with toks := s.toks + 1 }) : wpAny (model prog w) A (binaryOp .BitAnd (.int a t) (.int b u)) Q E s := and_int (e ▸ h)
theorem ior_eq {a b v : Int} {t u : Tok} {Q : Value → Shared → Prop} (e : Builtin.bitOr a b = v) (h : Q (.int v s.toks) { s with toks := s.toks + 1 }) : wpAny (model prog w) A (inplaceOp .BitOr (.int a t) (.int b u)) Q E s := ior_int (e ▸ h)
theorem ishl_eq {a v : Int} {t u : Tok} {Q : Value → Shared → Prop} (h0 : 0 ≤ a) (h1 : a < 64) (e : a * 64 = v) (h : Q (.int v s.toks) { s with toks := s.toks + 1 }) : wpAny (model prog w) A (inplaceOp .LShift (.int a t) (.int 6 u)) Q E s :=
  ilshift_int_small (by decide) (by decide) (by omega) (by subst e; exact h)
/-- a while loop, n turns at most -/
def WhileU (prog : Program) (w : World) (A : Around) (test : Expr) (body : List Stmt) (env : Env) (Q : Flow → Shared → Prop) (E : Value → Shared → Prop) : Nat → Shared → Prop
  | 0, s => wpAny (model prog w) A (isTrue test env (eval test env)) (fun b s₂ => if b = true then False else Q .next s₂) E s
  | n + 1, s => wpAny (model prog w) A (isTrue test env (eval test env)) (fun b s₂ => if b = true then
      wpAny (model prog w) A (execs body env) (fun f s₃ => match f with | .next => WhileU prog w A test body env Q E n s₃ | .cont => WhileU prog w A test body env Q E n s₃ | .brk => Q .next s₃ | .ret v => Q (.ret v) s₃) E s₂
      else Q .next s₂) E s
theorem while_unr {test : Expr} {body : List Stmt} {env : Env} {pos : Pos} {Q : Flow → Shared → Prop} (n : Nat) (h : WhileU prog w A test body env Q E n s) (hE : PassesOwn (model prog w) A env E) :
    wpAny (model prog w) A (exec (.While test body [] pos) env) Q E s := by
  refine wpAny_While (codeAny_whileLoop (fun k s' => WhileU prog w A test body env Q E k s') ?_ n h)
  intro k s' hk
  cases k with
  | zero =>
    unfold WhileU at hk
    refine wpAny_mono hk (fun b s₂ h₂ => ?_) hE
    cases b with
    | false => simp only [Bool.false_eq_true, if_false] at h₂ ⊢; exact wpAny_execs_nil h₂
    | true => simp at h₂
  | succ k =>
    unfold WhileU at hk
    refine wpAny_mono hk (fun b s₂ h₂ => ?_) hE
    cases b with
    | false => simp only [Bool.false_eq_true, if_false] at h₂ ⊢; exact wpAny_execs_nil h₂
    | true =>
      simp only [if_true] at h₂ ⊢
      refine wpAny_mono h₂ (fun f s₃ h₃ => ?_) hE
      cases f with
      | next => exact ⟨k, Nat.lt_succ_self _, h₃⟩
      | cont => exact ⟨k, Nat.lt_succ_self _, h₃⟩
      | brk => exact h₃
      | ret v => exact h₃
end
theorem and64_all : ∀ x : Fin 128, Builtin.bitAnd (x.val : Int) 64 = if x.val < 64 then 0 else 64 := by decide +kernel
theorem and64_lo {c : Int} (h0 : 0 ≤ c) (h1 : c < 64) : Builtin.bitAnd c 64 = 0 := by
  have := and64_all ⟨c.toNat, by omega⟩
  simp only [Int.toNat_of_nonneg h0] at this
  rw [this, if_pos (by omega)]
theorem and64_hi {c : Int} (h0 : 64 ≤ c) (h1 : c < 128) : Builtin.bitAnd c 64 = 64 := by
  have := and64_all ⟨c.toNat, by omega⟩
  simp only [Int.toNat_of_nonneg (show 0 ≤ c by omega)] at this
  rw [this, if_neg (by omega)]
theorem and63_lo {c : Int} (h0 : 0 ≤ c) (h1 : c < 64) : Builtin.bitAnd c 63 = c := by rw [bitAnd_m6]; omega
theorem and63_hi {c : Int} (h0 : 64 ≤ c) (h1 : c < 128) : Builtin.bitAnd c 63 = c - 64 := by rw [bitAnd_m6]; omega
theorem or_all : ∀ x y : Fin 64, Builtin.bitOr ((x.val : Int) * 64) (y.val : Int) = (x.val : Int) * 64 + (y.val : Int) := by decide +kernel
theorem or_lo {a b : Int} (h0 : 0 ≤ a) (h1 : a < 64) (h2 : 0 ≤ b) (h3 : b < 64) : Builtin.bitOr (a * 64) b = a * 64 + b := by
  have := or_all ⟨a.toNat, by omega⟩ ⟨b.toNat, by omega⟩
  simp only [Int.toNat_of_nonneg h0, Int.toNat_of_nonneg h2] at this
  exact this
local macro_rules | `(tactic| walk_at "call builtin:next") => `(tactic| (k_here; (with_reducible show wpAny _ _ (call (Value.builtin "next") [Value.ref _]) _ _ _); k_dflt (first
  | (refine' next_K ?F ?N ?U ?i ?p ?x ?_; (case F => k_asm); (case N => k_asm); (case U => k_updF); (case i => k_asm); (case p => k_mem); (case x => assumption); intro h' o' F' N' hi'; (try dsimp only at N'); (try k_sweep))
  | (refine' next_KE ?hh ?F ?N ?U ?i ?p ?x ?_; (case hh => rfl); (case F => k_asm); (case N => k_asm); (case U => k_updF); (case i => k_asm); (case p => k_mem); (case x => assumption); intro h₁' h' o' e' F' N' x'; (try dsimp only at N')))))
local macro_rules | `(tactic| walk_at "binaryOp BitAnd int int") => `(tactic| (refine' and_eq ?h ?_; (case h => assumption)))
local macro_rules | `(tactic| walk_at "inplaceOp BitOr int int") => `(tactic| (refine' ior_eq ?h ?_; (case h => assumption)))
local macro_rules | `(tactic| walk_at "inplaceOp LShift int int") => `(tactic| (refine' ishl_eq ?h0 ?h1 rfl ?_; (case h0 => omega); (case h1 => omega)))
local macro_rules | `(tactic| walk_at "exec While BinOp cons nil") => `(tactic| (refine' while_unr 1 ?_ ?hE; (case hE => passes_own); unfold WhileU; try dsimp only))
local macro_rules | `(tactic| walk_at "exec") => `(tactic| ((with_reducible show wpAny _ _ (exec (Stmt.While _ _ _ _) _) _ _ _); refine' while_unr 1 ?_ ?hE; (case hE => passes_own); unfold WhileU; try dsimp only))
local macro_rules | `(tactic| walk_at "WhileU") => `(tactic| (unfold WhileU; try dsimp only))
local macro_rules | `(tactic| walk_at "leaving ref") => `(tactic| (refine' leave_newS ?k1 ?k0 ?k2 ?k3 ?_; (case k0 => assumption); (case k2 => assumption); (case k1 => assumption); (case k3 => k_asm); k_whole; intro h' S' R' U'; (try dsimp only at S' R' U' ⊢)))
set_option maxHeartbeats 4000000 in
theorem parse_one {w : World} {dp un : Nat} {gd : Option (List Code)} {cn : Str} {cs : Scope} {a : Addr} {ccd : Value} {outer : List Env} {A₀ : Around} {base h₀ : Heap} {L : Addr} {m : Str → Option Value} {s : Shared} {mean : ExcName → Option Value} {mg mb : Str → Option Value} {fd it lc : Addr} {ofd oit : Obj} {items : Array Value} {i n : Nat} {c : Int} {t : Tok}
    {Q E : Value → Shared → Prop} :
    Below A₀ base outer h₀ → Fr h₀ L s.heap m → (hd.heap_39 w.params).In h₀ → News h₀ L s.heap [(fd, ofd), (it, oit), (lc, listOf items n)] → Top hd.view_39 (looseW hd.view_39 []) mean mg mb h₀ → cs.kind = .function → dp + 1 < recursionLimit → un + 8 < cLine →
    @LT.lt Nat _ it fd → @LT.lt Nat _ lc it → LIt oit lc i → items[i]? = some (.int c t) → 0 ≤ c → c < 64 →
    (∀ h' tk' t' o', Fr h₀ L h' m → News h₀ L h' [(fd, ofd), (it, o'), (lc, listOf items n)] → LIt o' lc (i + 1) → Q (.int c t') { s with heap := h', toks := tk' }) →
    wpAny (model Challenge.rw_pe0017_01.row.prog w) (atF dp un gd cn cs L a ccd outer) (call (.ref 21) [.ref it]) Q E s := by
  k_fill
  w_top off
  intro B F X N T hk hd hu n1 n2 hi hx h0 h1 ret
  have e1 := and63_lo h0 h1
  have e2 := and64_lo h0 h1
  w_strict (
    refine wpAny_call ?_
    k_dflt cell_enter
    k_steps
    exact ret _ _ _ _ (by k_asm) (by k_asm) (by assumption))
set_option maxHeartbeats 4000000 in
theorem parse_two {w : World} {dp un : Nat} {gd : Option (List Code)} {cn : Str} {cs : Scope} {a : Addr} {ccd : Value} {outer : List Env} {A₀ : Around} {base h₀ : Heap} {L : Addr} {m : Str → Option Value} {s : Shared} {mean : ExcName → Option Value} {mg mb : Str → Option Value} {fd it lc : Addr} {ofd oit : Obj} {items : Array Value} {i n : Nat} {c d : Int} {t u : Tok}
    {Q E : Value → Shared → Prop} :
    Below A₀ base outer h₀ → Fr h₀ L s.heap m → (hd.heap_39 w.params).In h₀ → News h₀ L s.heap [(fd, ofd), (it, oit), (lc, listOf items n)] → Top hd.view_39 (looseW hd.view_39 []) mean mg mb h₀ → cs.kind = .function → dp + 1 < recursionLimit → un + 8 < cLine →
    @LT.lt Nat _ it fd → @LT.lt Nat _ lc it → LIt oit lc i → items[i]? = some (.int c t) → 64 ≤ c → c < 128 → items[i + 1]? = some (.int d u) → 0 ≤ d → d < 64 →
    (∀ h' tk' t' o', Fr h₀ L h' m → News h₀ L h' [(fd, ofd), (it, o'), (lc, listOf items n)] → LIt o' lc (i + 2) → Q (.int ((c - 64) * 64 + d) t') { s with heap := h', toks := tk' }) →
    wpAny (model Challenge.rw_pe0017_01.row.prog w) (atF dp un gd cn cs L a ccd outer) (call (.ref 21) [.ref it]) Q E s := by
  k_fill
  w_top off
  intro B F X N T hk hd hu n1 n2 hi hx h0 h1 hy h2 h3 ret
  have e1 := and63_hi h0 h1
  have e2 := and64_hi h0 h1
  have e3 := and63_lo h2 h3
  have e4 := and64_lo h2 h3
  have e5 := or_lo (show 0 ≤ c - 64 by omega) (show c - 64 < 64 by omega) h2 h3
  w_strict (
    refine wpAny_call ?_
    k_dflt cell_enter
    k_steps
    exact ret _ _ _ _ (by k_asm) (by k_asm) (by assumption))
set_option maxHeartbeats 4000000 in
theorem parse_end {w : World} {dp un : Nat} {gd : Option (List Code)} {cn : Str} {cs : Scope} {a : Addr} {ccd : Value} {outer : List Env} {A₀ : Around} {base h₀ : Heap} {L : Addr} {m : Str → Option Value} {s : Shared} {mean : ExcName → Option Value} {mg mb : Str → Option Value} {fd it lc : Addr} {ofd oit : Obj} {items : Array Value} {i n : Nat}
    {Q E : Value → Shared → Prop} :
    Below A₀ base outer h₀ → Fr h₀ L s.heap m → (hd.heap_39 w.params).In h₀ → News h₀ L s.heap [(fd, ofd), (it, oit), (lc, listOf items n)] → Top hd.view_39 (looseW hd.view_39 []) mean mg mb h₀ → cs.kind = .function → dp + 1 < recursionLimit → un + 8 < cLine →
    @LT.lt Nat _ it fd → @LT.lt Nat _ lc it → LIt oit lc i → items[i]? = none →
    (∀ h' tk' e g o', Fr h₀ L g m → RaisedSN base g (envOf cn cs L a ccd :: outer) e (.type "StopIteration") [(fd, ofd), (it, o'), (lc, listOf items n)] h' → g.UpToSlots h' → E (.ref e) { s with heap := h', toks := tk' }) →
    wpAny (model Challenge.rw_pe0017_01.row.prog w) (atF dp un gd cn cs L a ccd outer) (call (.ref 21) [.ref it]) Q E s := by
  k_fill
  w_top off
  intro B F X N T hk hd hu n1 n2 hi hx ret
  w_strict (
    refine wpAny_call ?_
    k_dflt cell_enter
    k_steps
    exact ret _ _ _ _ _ (by assumption) (by assumption) (by assumption))
set_option maxHeartbeats 4000000 in
theorem parse_cut {w : World} {dp un : Nat} {gd : Option (List Code)} {cn : Str} {cs : Scope} {a : Addr} {ccd : Value} {outer : List Env} {A₀ : Around} {base h₀ : Heap} {L : Addr} {m : Str → Option Value} {s : Shared} {mean : ExcName → Option Value} {mg mb : Str → Option Value} {fd it lc : Addr} {ofd oit : Obj} {items : Array Value} {i n : Nat} {c : Int} {t : Tok}
    {Q E : Value → Shared → Prop} :
    Below A₀ base outer h₀ → Fr h₀ L s.heap m → (hd.heap_39 w.params).In h₀ → News h₀ L s.heap [(fd, ofd), (it, oit), (lc, listOf items n)] → Top hd.view_39 (looseW hd.view_39 []) mean mg mb h₀ → cs.kind = .function → dp + 1 < recursionLimit → un + 8 < cLine →
    @LT.lt Nat _ it fd → @LT.lt Nat _ lc it → LIt oit lc i → items[i]? = some (.int c t) → 64 ≤ c → c < 128 → items[i + 1]? = none →
    (∀ h' tk' e g o', Fr h₀ L g m → RaisedSN base g (envOf cn cs L a ccd :: outer) e (.type "StopIteration") [(fd, ofd), (it, o'), (lc, listOf items n)] h' → g.UpToSlots h' → E (.ref e) { s with heap := h', toks := tk' }) →
    wpAny (model Challenge.rw_pe0017_01.row.prog w) (atF dp un gd cn cs L a ccd outer) (call (.ref 21) [.ref it]) Q E s := by
  k_fill
  w_top off
  intro B F X N T hk hd hu n1 n2 hi hx h0 h1 hy ret
  have e1 := and63_hi h0 h1
  have e2 := and64_hi h0 h1
  w_strict (
    refine wpAny_call ?_
    k_dflt cell_enter
    k_steps
    exact ret _ _ _ _ _ (by assumption) (by assumption) (by assumption))
end Mine
end
section
open PySem PySem.W PyProof.Rows PySem.Calls
namespace Mine
/-- what stood stays; the frames' own notes (slots) may turn -/
structure Turns (fs : List Addr) (h h' : Heap) : Prop where
  other : ∀ b o, h.get? b = some o → b ∉ fs → h'.get? b = some o
  frame : ∀ b o, h.get? b = some o → b ∈ fs → ∃ sl, h'.get? b = some { o with slots := sl }
theorem Turns.of_stays {fs : List Addr} {h h' : Heap} (k : ∀ b o, h.get? b = some o → h'.get? b = some o) : Turns fs h h' := ⟨fun b o e _ => k b o e, fun b o e _ => ⟨o.slots, k b o e⟩⟩
theorem Turns.of_kts {fs : List Addr} {h g h' : Heap} (T : KtsTurn fs h g) (k : ∀ b o, g.get? b = some o → h'.get? b = some o) : Turns fs h h' :=
  ⟨fun b o e n => k _ _ (T.other b o e n), fun b o e n => by obtain ⟨sl, hs⟩ := T.frame b o e n; exact ⟨sl, k _ _ hs⟩⟩
theorem Turns.trans {fs : List Addr} {h g h' : Heap} (x : Turns fs h g) (y : Turns fs g h') : Turns fs h h' :=
  ⟨fun b o e n => y.other b o (x.other b o e n) n, fun b o e n => by
    obtain ⟨s1, h1⟩ := x.frame b o e n
    obtain ⟨s2, h2⟩ := y.frame b _ h1 n
    exact ⟨s2, h2⟩⟩
theorem Turns.up {fs : List Addr} {h h' : Heap} (x : Turns fs h h') {b : Addr} {o : Obj} (e : h.get? b = some o) : ∃ sl, h'.get? b = some { o with slots := sl } := by
  by_cases m : b ∈ fs
  · exact x.frame b o e m
  · exact ⟨o.slots, x.other b o e m⟩
section
variable {prog : Program} {w : World} {A₀ A : Around} {s : Shared} {base h₀ : Heap} {outer : List Env} {L a : Addr} {m : Str → Option Value} {cn : Str} {cs : Scope} {ccd : Value} {news : List (Addr × Obj)} {K : Frag} {p : Program} {loose : List Str} {mean : ExcName → Option Value} {mg mb : Str → Option Value}
    {R : Result → Shared → Prop} {name qual : Str} {params : Arguments} {body : List Stmt} {scope : Scope} {dV kV doc pm cdv ct oc : Value} {an od : Option Addr} {osl : Array (Option Value)} {f : Addr} {args : Args} {binds : List (Str × Value)}
/-- a def is entered; all that stands is its ground -/
theorem enterP (X : K.In s.heap) (T : Top p loose mean mg mb s.heap)
    (ho : K.lookup f = some ⟨oc, od, .func (fnOf name qual params body scope dV kV doc pm an cdv ct), osl⟩) (hcd : codeIn K cdv qual = true) (hroom : A.depth < recursionLimit)
    (hbind : BindsTo s (fnOf name qual params body scope dV kV doc pm an cdv ct) args binds) (hloc : ∀ y ∈ binds, scope.names.lookup y.1 = some .local)
    (h : ∀ L' h₁, Fr s.heap L' h₁ (fun y => binds.reverse.lookup y) → News s.heap L' h₁ [] →
      wpAny (model prog w) (A.deeper (envOf qual scope L' f cdv)) (execs body (envOf qual scope L' f cdv))
        (fun fl s' => R (.ok (.ret (match fl with | .ret v => v | _ => .none))) s')
        (fun e s' => wpAny (model prog w) (A.deeper (envOf qual scope L' f cdv)) (leaving (envOf qual scope L' f cdv) e) (fun _ s'' => R (.error e) s'') (fun e' s'' => R (.error e') s'') s')
        { s with heap := h₁, toks := s.toks + binds.length })
    (hco : scope.isCoroutine = false) (hgen : scope.isGenerator = false) (hk : scope.kind = .function)
    (hcell : ∀ x ∈ scope.names, x.2 ≠ .cell) : codeAny (model prog w) A (.call (.ref f) args) R s :=
  codeAny_call_def (fd := fnOf name qual params body scope dV kV doc pm an cdv ct) (body := body) (binds := binds) hroom (X _ _ ho) rfl T.nolimit (codeRec_of X hcd) rfl hbind hcell hloc
    (fun h₁ hns hk₁ => h _ h₁ ⟨hns, hk₁, Nat.le_refl _⟩ News.nil) hco hgen hk
/-- the same, a def with cells -/
theorem enterC (X : K.In s.heap) (T : Top p loose mean mg mb s.heap)
    (ho : K.lookup f = some ⟨oc, od, .func (fnOf name qual params body scope dV kV doc pm an cdv ct), osl⟩) (hcd : codeIn K cdv qual = true) (hroom : A.depth < recursionLimit)
    (hbind : BindsTo s (fnOf name qual params body scope dV kV doc pm an cdv ct) args binds) (hkind : (binds.all fun y => scope.names.lookup y.1 == some .local || scope.names.lookup y.1 == some .cell) = true)
    (hnd : ((cellsFrom 0 scope.names []).map (·.1)).Nodup)
    (h : ∀ L' h₁ tk cells, Fr s.heap L' h₁ (bindL (envOfC qual scope L' f cdv).kindOf binds fun _ => none) → News s.heap L' h₁ cells →
      CellsAre (bindC (envOfC qual scope L' f cdv).kindOf binds fun _ => none) (cellsFrom (L' + 1) scope.names []) cells →
      wpAny (model prog w) (A.deeper (envOfC qual scope L' f cdv)) (execs body (envOfC qual scope L' f cdv))
        (fun fl s' => R (.ok (.ret (match fl with | .ret v => v | _ => .none))) s')
        (fun e s' => wpAny (model prog w) (A.deeper (envOfC qual scope L' f cdv)) (leaving (envOfC qual scope L' f cdv) e) (fun _ s'' => R (.error e) s'') (fun e' s'' => R (.error e') s'') s')
        { s with heap := h₁, toks := tk })
    (hco : scope.isCoroutine = false) (hgen : scope.isGenerator = false) (hk : scope.kind = .function) : codeAny (model prog w) A (.call (.ref f) args) R s := by
  refine codeAny_call_function (fd := fnOf name qual params body scope dV kV doc pm an cdv ct) hroom (X _ _ ho) rfl hco hgen rfl (codeRec_of X hcd) (hbind _ _ _ _ ?_)
  refine wpAny_newFunctionEnv_cells hk (kindsX hkind _) fun env' he s' x => ?_
  subst he
  refine ⟨T.nolimit.keeps x.toInCall.keep, codeAny_func ?_⟩
  obtain ⟨h₁, tk, rfl, _⟩ := x.done
  have hk₁ := x.toInCall.keep
  obtain ⟨cells, NC, Y⟩ := Cl.news (h₀ := s.heap) (Nat.le_refl _) fun n c hm => ⟨x.cell n c (lookup_of_mem_nodup (cellsFrom_names scope.names 0 (s.heap.objs.size + 1) [] [] rfl ▸ hnd) hm), x.above n c hm⟩
  exact h s.heap.objs.size h₁ tk cells ⟨x.toInCall.ns, hk₁, Nat.le_refl _⟩ NC Y
/-- the stack as the called def sees it -/
theorem groundT {env : Env} (B : Below A₀ base outer h₀) (F : Fr h₀ L s.heap m) (D : KtsDicts (outer.filterMap (·.frame)) h₀)
    (hA : A.frames = some (env :: outer)) (hf : env.frame = some L) (hke : env.scope.kind = .function) :
    Below A base (env :: outer) s.heap ∧ KtsDicts ((env :: outer).filterMap (·.frame)) s.heap := by
  have B₁ := pushX B F hf hke
  refine ⟨⟨hA, B₁.stays, B₁.frames⟩, fun b hb => ?_⟩
  obtain ⟨env', he, hf'⟩ := List.mem_filterMap.mp hb
  rcases List.mem_cons.mp he with rfl | he
  · obtain ⟨oL, es, ep, hL, hLd, _, _⟩ := F.ns
    obtain rfl : L = b := Option.some.inj (hf.symm.trans hf')
    exact ⟨oL, es, ep, hL, hLd⟩
  · obtain ⟨o, es', n', ho', hd'⟩ := D b (List.mem_filterMap.mpr ⟨env', he, hf'⟩)
    exact ⟨o, es', n', F.keep b o ho', hd'⟩
/-- behind a call that turned the frames' notes: the frame's facts anew -/
theorem turned (B : Below A₀ base outer h₀) (F : Fr h₀ L s.heap m) (N : News h₀ L s.heap news) (XB : K.In base) (TB : Top p loose mean mg mb base) (D : KtsDicts (outer.filterMap (·.frame)) h₀) {h' : Heap}
    (U : Turns (L :: outer.filterMap (·.frame)) s.heap h') :
    ∃ h₀', KtsTurn (outer.filterMap (·.frame)) h₀ h₀' ∧ Fr h₀' L h' m ∧ News h₀' L h' news ∧ Below A₀ base outer h₀' ∧ K.In h₀' ∧ Top p loose mean mg mb h₀' ∧ KtsDicts (outer.filterMap (·.frame)) h₀' := by
  have nL₀ : h₀.get? L = none := kts_self F
  obtain ⟨oL, es, ep, hL, hLd, hLk, hLf⟩ := F.ns
  obtain ⟨sl, hs⟩ := U.up hL
  obtain ⟨T₁, S₁⟩ := kts_turn_at (h := h') (fs := outer.filterMap (·.frame)) (g := h₀)
    (fun b hb => by
      obtain ⟨_, o, ho', _⟩ := B.frames.mem hb
      exact ⟨o, ho'⟩)
    (fun b o e nmem => U.other b o (F.keep b o e) (fun q => by
      rcases List.mem_cons.mp q with z | z
      · rw [z, nL₀] at e
        cases e
      · exact nmem z))
    (fun b o e hm => U.up (F.keep b o e))
  have B₃ : Below A₀ base outer (ktsHeap h' (outer.filterMap (·.frame)) h₀) := ⟨B.stack, fun b o e => T₁.other b o (B.stays b o e) (fun hm => by
    rw [(B.frames.mem hm).1] at e
    cases e), B.frames.of_keeps fun b o e _ => by
    obtain ⟨sl', hs'⟩ := T₁.up e
    exact ⟨_, hs', rfl⟩⟩
  refine ⟨_, T₁, ⟨⟨_, es, ep, hs, hLd, hLk, hLf⟩, S₁, by rw [T₁.size]; exact F.above⟩, fun q hq => ⟨U.other _ _ (N q hq).1 fun hm => ?_, (N q hq).2.1, T₁.none_ _ (N q hq).2.2⟩, B₃, XB.keeps B₃.stays, TB.keeps B₃.stays, D.turn T₁⟩
  rcases List.mem_cons.mp hm with z | z
  · exact (N q hq).2.1 z
  · obtain ⟨_, o, ho', _⟩ := B.frames.mem z
    rw [(N q hq).2.2] at ho'
    cases ho'
end
end Mine
end
section
open PySem PySem.W PyProof.Rows PySem.Calls PySem.Spec
namespace Mine
open LCg (lst lst_snoc)
/-- the items of a made list, each with the objects behind it -/
structure AllZ (n : Nat) (Z : Nat → Value → List (Addr × Obj) → Prop) (ys : List Value) (oss : List (List (Addr × Obj))) : Prop where
  len : ys.length = n
  leno : oss.length = n
  at_ : ∀ i : Nat, i < n → ∃ y os, ys[i]? = some y ∧ oss[i]? = some os ∧ Z i y os
theorem AllZ.nil {Z : Nat → Value → List (Addr × Obj) → Prop} : AllZ 0 Z [] [] := ⟨rfl, rfl, fun i h => absurd h (Nat.not_lt_zero _)⟩
theorem AllZ.snoc {n : Nat} {Z : Nat → Value → List (Addr × Obj) → Prop} {ys : List Value} {oss : List (List (Addr × Obj))} {y : Value} {os : List (Addr × Obj)} (x : AllZ n Z ys oss) (z : Z n y os) : AllZ (n + 1) Z (ys ++ [y]) (oss ++ [os]) := by
  refine ⟨by simp [x.len], by simp [x.leno], fun i hi => ?_⟩
  by_cases h : i < n
  · obtain ⟨y', os', h1, h2, h3⟩ := x.at_ i h
    exact ⟨y', os', by rw [List.getElem?_append_left (by rw [x.len]; exact h)]; exact h1, by rw [List.getElem?_append_left (by rw [x.leno]; exact h)]; exact h2, h3⟩
  · obtain rfl : i = n := by omega
    exact ⟨y, os, by rw [List.getElem?_append_right (by rw [x.len]; exact Nat.le_refl _), x.len]; simp, by rw [List.getElem?_append_right (by rw [x.leno]; exact Nat.le_refl _), x.leno]; simp, z⟩
theorem none_before {fs : List Addr} {h h' : Heap} (T : Turns fs h h') {b : Addr} (e : h'.get? b = none) : h.get? b = none := by
  cases q : h.get? b with
  | none => rfl
  | some o => obtain ⟨sl, hs⟩ := T.up q; rw [e] at hs; cases hs
section
variable {prog : Program} {w : World} {A : Around} {E : Value → Shared → Prop} {s s₁ : Shared} {env : Env} {fs : List Addr} {Z : Nat → Value → List (Addr × Obj) → Prop}
/-- one element: its value, the objects behind it; all else stays -/
def ElPost (fs : List Addr) (Z : Nat → Value → List (Addr × Obj) → Prop) (i : Nat) (s' : Shared) (y : Value) (s'' : Shared) : Prop :=
  ∃ h tk os, s'' = { s' with heap := h, toks := tk } ∧ Turns fs s'.heap h ∧ (∀ q ∈ os, h.get? q.1 = some q.2 ∧ s'.heap.get? q.1 = none) ∧ Z i y os
/-- what the whole list must give -/
def FinZ (fs : List Addr) (Z : Nat → Value → List (Addr × Obj) → Prop) (n : Nat) (s₁ : Shared) (Q : Value → Shared → Prop) : Prop :=
  ∀ D ys oss h tk, Turns fs s₁.heap h → s₁.heap.get? D = none → h.get? D = some (lst ys) → AllZ n Z ys oss → (∀ os ∈ oss, ∀ q ∈ os, h.get? q.1 = some q.2 ∧ s₁.heap.get? q.1 = none ∧ q.1 ≠ D) → Q (.ref D) { s₁ with heap := h, toks := tk }
theorem comp_block {elt iter : Expr} {x : Str} {px : Pos} {scope : Scope} {cl : List (Str × Addr)} {pos : Pos} {I : Addr} {fp : List Addr} {n : Nat} {P : Nat → Value → Prop} {St : Nat → Heap → Prop} {h₂ : Heap}
    {RR : Value → Addr → Result → Shared → Prop}
    (W : Walks prog w A I fp [I] n P St) (hIo : ∀ i h, St i h → ∃ o, h.get? I = some o) (hsz : n ≤ sizeLine) (hst : St 0 h₂) (hfp : ∀ b ∈ fp, b < h₂.objs.size ∧ b ∉ fs) (hI : s₁.heap.get? I = none) (hk : ∀ b o, s₁.heap.get? b = some o → h₂.get? b = some o) (hfs : ∀ b ∈ fs, ∃ o, s₁.heap.get? b = some o)
    (hcell : ∀ y ∈ scope.names, y.2 ≠ .cell) (hkind : scope.kind = .function) (hx : scope.names.lookup x = some .local)
    (el : ∀ i v s' C m₂ E', i < n → P i v → (∃ h tk, s' = { s₁ with heap := h, toks := tk }) → Turns fs s₁.heap s'.heap → s₁.heap.get? C = none → C ∉ fs → s'.heap.Ns C m₂ → m₂ x = some v →
      wpAny (model prog w) A (eval elt (compEnvC scope cl C env)) (ElPost fs Z i s') E' s')
    (hRR : ∀ D C m' ys oss h tk, Turns fs s₁.heap h → s₁.heap.get? D = none → s₁.heap.get? C = none → C ≠ D → C ∉ fs → h.Ns C m' → h.get? D = some (lst ys) → AllZ n Z ys oss → (∀ os ∈ oss, ∀ q ∈ os, h.get? q.1 = some q.2 ∧ s₁.heap.get? q.1 = none ∧ q.1 ≠ D ∧ q.1 ≠ C) →
      RR (.ref D) C (.ok .next) { s₁ with heap := h, toks := tk }) {E₁ : Value → Shared → Prop} :
    wpAny (model prog w) A (newList []) (fun acc s₃ => wpAny (model prog w) A (newFunctionEnv scope env.globals cl [] env.qual none .none (some env)) (fun cenv s₄ =>
      codeAny (model prog w) A (.compStart (.ListComp elt [⟨.Name x px, iter, [], 0⟩] scope pos) 0 (.ref I) acc { cenv with scope := relabel scope env }) (RR acc cenv.locals) s₄) E₁ s₃) E₁ { s₁ with heap := h₂ } := by
  refine wpAny_newObj_type (wpAny_newFunctionEnv hcell (by intro y hy; simp at hy) (fun h₁ hns₁ hsb₁ => ?_) hkind)
  dsimp only at hns₁ hsb₁ ⊢
  generalize hH2 : h₂.push { cls := .type "list", dict := none, data := .seq ([] : List Value).toArray } = H2 at hns₁ hsb₁ ⊢
  have hC : H2.objs.size = h₂.objs.size + 1 := by rw [← hH2, Heap.size_push]
  have hDC : h₂.objs.size ≠ H2.objs.size := by rw [hC]; exact Nat.ne_of_lt (Nat.lt_succ_self _)
  have below : ∀ b, b < h₂.objs.size → b ≠ H2.objs.size ∧ b ≠ h₂.objs.size := fun b hb => ⟨by rw [hC]; exact Nat.ne_of_lt (Nat.lt_succ_of_lt hb), Nat.ne_of_lt hb⟩
  have hIf : I ∈ fp := W.sub I (List.mem_singleton.mpr rfl)
  have hIlt : I < h₂.objs.size := (hfp I hIf).1
  have old : ∀ b o, h₂.get? b = some o → h₁.get? b = some o := fun b o e => hsb₁.extBut b o (below b (Heap.lt_size e)).1 (Heap.get?_push_of_some _ (hH2 ▸ Heap.get?_push_of_some _ e))
  have hacc : h₁.get? h₂.objs.size = some (lst []) := hsb₁.extBut _ _ hDC (Heap.get?_push_of_some _ (hH2 ▸ Heap.get?_push_size _ rfl))
  have hst₁ : St 0 h₁ := W.frame _ _ _ hst fun b _ o e => old b o e
  have fresh : ∀ a, h₂.objs.size ≤ a → s₁.heap.get? a = none := fun a ha => by
    cases e : s₁.heap.get? a with
    | none => rfl
    | some o' => exact absurd (Heap.lt_size (hk _ _ e)) (Nat.not_lt.mpr ha)
  have hD₀ : s₁.heap.get? h₂.objs.size = none := fresh _ (Nat.le_refl _)
  have hC₀ : s₁.heap.get? H2.objs.size = none := fresh _ (by rw [hC]; exact Nat.le_succ _)
  have nfs : ∀ b, s₁.heap.get? b = none → b ∉ fs := fun b e hm => by obtain ⟨o, ho⟩ := hfs b hm; rw [e] at ho; cases ho
  have hCI : I ≠ H2.objs.size := (below I hIlt).1
  have hDI : I ≠ h₂.objs.size := (below I hIlt).2
  -- a turn of one new object keeps all that stood
  have keep1 : ∀ {h h' : Heap} {c : Addr}, Turns fs s₁.heap h → s₁.heap.get? c = none → (∀ b o, b ≠ c → h.get? b = some o → h'.get? b = some o) → Turns fs s₁.heap h' := fun {h h' c} T hc k =>
    ⟨fun b o e nm => k b o (fun q => by rw [q, hc] at e; cases e) (T.other b o e nm), fun b o e hm => by obtain ⟨sl, hs⟩ := T.frame b o e hm; exact ⟨sl, k b _ (fun q => by rw [q, hc] at e; cases e) hs⟩⟩
  have loop : ∀ s₃ : Shared, s₃ = { s₁ with heap := h₁, toks := s₁.toks + ([] : List (Str × Value)).length } →
      codeAny (model prog w) A (.compLoop (.ListComp elt [⟨.Name x px, iter, [], 0⟩] scope pos) 0 (.ref I) (.ref h₂.objs.size) (compEnvC scope cl H2.objs.size env))
        (RR (.ref h₂.objs.size) H2.objs.size) s₃ := by
    rintro s₃ rfl
    refine codeAny_compLoop_tests
      (fun k s' => ∃ h tk i ys oss m', s' = { s₁ with heap := h, toks := tk } ∧ i ≤ n ∧ k = n + 1 - i ∧ St i h ∧ Turns fs s₁.heap h ∧ h.Ns H2.objs.size m' ∧ h.get? h₂.objs.size = some (lst ys) ∧ AllZ i Z ys oss ∧
        (∀ os ∈ oss, ∀ q ∈ os, h.get? q.1 = some q.2 ∧ s₁.heap.get? q.1 = none ∧ q.1 ≠ h₂.objs.size ∧ q.1 ≠ H2.objs.size ∧ q.1 ≠ I)) ?_ (n + 1)
      ⟨h₁, _, 0, [], [], _, rfl, Nat.zero_le _, rfl, hst₁, Turns.of_stays fun b o e => old b o (hk b o e), hns₁, hacc, AllZ.nil, fun os h => nomatch h⟩
    · rintro k s' ⟨h, tk, i, ys, oss, m', rfl, hi, rfl, hst', T', hn', hD', hZ', hos⟩
      by_cases hlt : i < n
      · refine W.item i _ _ _ hlt hst' fun v ha tka hPv hsta hka => ?_
        have hka' : ∀ b o, b ≠ I → h.get? b = some o → ha.get? b = some o := fun b o hb e => hka b o (by simpa using hb) e
        refine wpAny_assign_Name (wpAny_storeName_local (lookup_relabel_local hx) (hn'.at' fun o e => hka' _ o (Ne.symm hCI) e) (fun hb hnb hsb => ?_) (by simp [compEnvC, relabel, hkind]))
        refine wpAny_tests_nil ?_
        simp only [if_true]
        have hsb' : ∀ b o, b ≠ H2.objs.size → ha.get? b = some o → hb.get? b = some o := fun b o q e => hsb.extBut b o q e
        have Tb : Turns fs s₁.heap hb := keep1 (keep1 T' hI hka') hC₀ hsb'
        have hstb : St (i + 1) hb := W.frame _ _ _ hsta fun b hbf o e => hsb' b o (below b (hfp b hbf).1).1 e
        have hDb : hb.get? h₂.objs.size = some (lst ys) := hsb' _ _ hDC (hka' _ _ (Ne.symm hDI) hD')
        obtain ⟨oIb, hIb⟩ := hIo _ _ hstb
        obtain ⟨oCb, esC, epC, hCb, rC⟩ := id hnb
        replace hCb : hb.get? H2.objs.size = some oCb := hCb
        have hosb : ∀ os ∈ oss, ∀ q ∈ os, hb.get? q.1 = some q.2 ∧ s₁.heap.get? q.1 = none ∧ q.1 ≠ h₂.objs.size ∧ q.1 ≠ H2.objs.size ∧ q.1 ≠ I := fun os h1 q h2 =>
          let ⟨a1, a2, a3, a4, a5⟩ := hos os h1 q h2; ⟨hsb' _ _ a4 (hka' _ _ a5 a1), a2, a3, a4, a5⟩
        refine wpAny_mono (el i v _ H2.objs.size _ _ hlt hPv ⟨hb, _, rfl⟩ Tb hC₀ (nfs _ hC₀) hnb (by simp)) (fun y s₄ h₄ => ?_) fun _ _ e => e
        obtain ⟨hc, tkc, os, rfl, Tc, hosc, hz⟩ := h₄
        dsimp only at Tc hosc
        have oth : ∀ b o, s₁.heap.get? b = none → hb.get? b = some o → hc.get? b = some o := fun b o e1 e2 => Tc.other b o e2 (nfs b e1)
        have hDc := oth _ _ hD₀ hDb
        refine append_at (hsz := by show ys.toArray.size ≤ sizeLine; rw [List.size_toArray, hZ'.len]; exact Nat.le_trans hi hsz) hDc fun hd hsd hDd => ?_
        have hsd' : ∀ b o, b ≠ h₂.objs.size → hc.get? b = some o → hd.get? b = some o := fun b o q e => hsd.extBut b o q e
        have nowD : ∀ q ∈ os, q.1 ≠ h₂.objs.size ∧ q.1 ≠ H2.objs.size ∧ q.1 ≠ I := fun q hq =>
          ⟨(fun z => by have := (hosc q hq).2; rw [z, hDb] at this; cases this), (fun z => by have := (hosc q hq).2; rw [z, hCb] at this; cases this), (fun z => by have := (hosc q hq).2; rw [z, hIb] at this; cases this)⟩
        have stc : St (i + 1) hc := W.frame _ _ _ hstb fun b hbf o e => Tc.other b o e (hfp b hbf).2
        refine ⟨n + 1 - (i + 1), by omega, hd, tkc, i + 1, ys ++ [y], oss ++ [os], _, rfl, hlt, rfl, W.frame _ _ _ stc fun b hbf o e => hsd' b o (below b (hfp b hbf).1).2 e, keep1 (Tb.trans Tc) hD₀ hsd',
          Heap.Ns.sameBut (show hc.Ns H2.objs.size _ from ⟨oCb, esC, epC, oth _ _ hC₀ hCb, rC⟩) hsd (Ne.symm hDC), hDd.trans (congrArg some (lst_snoc ys y ▸ ?_)), hZ'.snoc hz, ?_⟩
        · rfl
        · intro os' hm q hq
          rcases List.mem_append.mp hm with hm | hm
          · obtain ⟨a1, a2, a3, a4, a5⟩ := hosb os' hm q hq
            exact ⟨hsd' _ _ a3 (oth _ _ a2 a1), a2, a3, a4, a5⟩
          · obtain rfl := List.mem_singleton.mp hm
            obtain ⟨a3, a4, a5⟩ := nowD q hq
            exact ⟨hsd' _ _ a3 (hosc q hq).1, none_before Tb (hosc q hq).2, a3, a4, a5⟩
      · obtain rfl : i = n := Nat.le_antisymm hi (Nat.not_lt.mp hlt)
        refine W.done _ _ _ hst' fun ha tka hka => ?_
        have hka' : ∀ b o, b ≠ I → h.get? b = some o → ha.get? b = some o := fun b o hb e => hka b o (by simpa using hb) e
        exact hRR _ _ _ ys oss ha tka (keep1 T' hI hka') hD₀ hC₀ (Ne.symm hDC) (nfs _ hC₀) (hn'.at' fun o e => hka' _ o (Ne.symm hCI) e) (hka' _ _ (Ne.symm hDI) hD') hZ' fun os h1 q h2 =>
          let ⟨a1, a2, a3, a4, a5⟩ := hos os h1 q h2; ⟨hka' _ _ a5 a1, a2, a3, a4⟩
  exact codeAny_compStart_list (loop _ rfl) (W.self 0 _ _ _ hst₁ (loop _ rfl))
/-- the source's walk, the element, the end -/
def CompIt (prog : Program) (w : World) (A : Around) (env : Env) (elt : Expr) (x : Str) (scope : Scope) (cl : List (Str × Addr)) (fs : List Addr) (Z : Nat → Value → List (Addr × Obj) → Prop) (E : Value → Shared → Prop) (Fin : Nat → Shared → Prop) (xv : Value) (s₁ : Shared) : Prop :=
  wpAny (model prog w) A (pyIter xv) (fun it s₂ => ∃ I fp n P St h₂, it = .ref I ∧ s₂ = { s₁ with heap := h₂ } ∧ Walks prog w A I fp [I] n P St ∧ (∀ i h, St i h → ∃ o, h.get? I = some o) ∧ n ≤ sizeLine ∧ St 0 h₂ ∧ (∀ b ∈ fp, b < h₂.objs.size ∧ b ∉ fs) ∧ s₁.heap.get? I = none ∧
    (∀ b o, s₁.heap.get? b = some o → h₂.get? b = some o) ∧ (∀ b ∈ fs, ∃ o, s₁.heap.get? b = some o) ∧
    (∀ i v s' C m₂ E', i < n → P i v → (∃ h tk, s' = { s₁ with heap := h, toks := tk }) → Turns fs s₁.heap s'.heap → s₁.heap.get? C = none → C ∉ fs → s'.heap.Ns C m₂ → m₂ x = some v →
      wpAny (model prog w) A (eval elt (compEnvC scope cl C env)) (ElPost fs Z i s') E' s') ∧ Fin n s₁) E s₁
theorem comp_rule {elt iter : Expr} {x : Str} {px : Pos} {scope : Scope} {cl : List (Str × Addr)} {pos : Pos} {Q : Value → Shared → Prop}
    (hclos : closureFor scope env = pure cl) (hcell : ∀ y ∈ scope.names, y.2 ≠ .cell) (hkind : scope.kind = .function)
    (hnames : ∀ y ∈ scope.names, y.2 = .local → scope.names.lookup y.1 = some .local) (hx : scope.names.lookup x = some .local)
    (h : wpAny (model prog w) A (eval iter env) (CompIt prog w A env elt x scope cl fs Z E (fun n s₁ => FinZ fs Z n s₁ Q)) E s)
    (hs : ∀ x, foldedSetIterable iter env x = pure x := by intro _; rfl) :
    wpAny (model prog w) A (eval (.ListComp elt [⟨.Name x px, iter, [], 0⟩] scope pos) env) Q E s := by
  rw [eval_ListComp]
  refine wpAny_comprehension_free (use := none) rfl hs hclos hkind hnames (wpAny_mono h (fun xv s₁ h₁ => wpAny_mono h₁ (fun it s₂ h₂ => ?_) fun _ _ e => e) fun _ _ e => e)
  obtain ⟨I, fp, n, P, St, g₂, rfl, rfl, W, hIo, hsz, hst, hfp, hI, hk, hfs, el, fin⟩ := h₂
  refine comp_block (Z := Z) W hIo hsz hst hfp hI hk hfs hcell hkind hx el ?_
  intro D C m' ys oss h tk T hD hC hCD hCf hn hl hz hos
  refine ⟨m', hn, fun h'' hs'' => fin D ys oss h'' tk ⟨fun b o e nm => hs''.extBut b o (fun q => by rw [q, hC] at e; cases e) (T.other b o e nm), fun b o e hm => ?_⟩ hD (hs''.extBut _ _ (Ne.symm hCD) hl) hz fun os h1 q h2 => ?_⟩
  · obtain ⟨sl, hs⟩ := T.frame b o e hm
    exact ⟨sl, hs''.extBut b _ (fun q => by rw [q, hC] at e; cases e) hs⟩
  · obtain ⟨a1, a2, a3, a4⟩ := hos os h1 q h2
    exact ⟨hs''.extBut _ _ a4 a1, a2, a3⟩
theorem comp_assign {elt iter : Expr} {x y : Str} {px py : Pos} {scope : Scope} {cl : List (Str × Addr)} {pos spos : Pos} {Q : Flow → Shared → Prop} {L : Addr}
    (hsw : swapsWith (.ListComp elt [⟨.Name x px, iter, [], 0⟩] scope pos) (some (.Name y py)) spos.line env = pure true)
    (hclos : closureFor scope env = pure cl) (hcell : ∀ z ∈ scope.names, z.2 ≠ .cell) (hkind : scope.kind = .function)
    (hnames : ∀ z ∈ scope.names, z.2 = .local → scope.names.lookup z.1 = some .local) (hx : scope.names.lookup x = some .local)
    (hy : env.kindOf y = some .local) (hL : env.locals = L) (hp : (env.scope.kind == .class || (env.scope.kind == .module && env.locals != env.globals)) = false)
    (h : wpAny (model prog w) A (eval iter env) (CompIt prog w A env elt x scope cl [] Z E (fun n s₁ => ∃ m, s₁.heap.Ns L m ∧
      ∀ D ys oss h tk, (∀ b o, s₁.heap.get? b = some o → b ≠ L → h.get? b = some o) → s₁.heap.get? D = none → h.get? D = some (lst ys) → AllZ n Z ys oss → (∀ os ∈ oss, ∀ q ∈ os, h.get? q.1 = some q.2 ∧ s₁.heap.get? q.1 = none ∧ q.1 ≠ D) →
        h.Ns L (fun z => if z = y then some (.ref D) else m z) → Q .next { s₁ with heap := h, toks := tk })) E s)
    (hs : ∀ x, foldedSetIterable iter env x = pure x := by intro _; rfl) :
    wpAny (model prog w) A (exec (.Assign [.Name y py] (.ListComp elt [⟨.Name x px, iter, [], 0⟩] scope pos) spos) env) Q E s := by
  rw [exec_Assign_Name_used _ _ _ _ hsw]
  refine wpAny_bind (wpAny_standAt (wpAny_bind ?_))
  show wpAny _ A (do let _ ← comprehension (.ListComp elt [⟨.Name x px, iter, [], 0⟩] scope pos) scope env _ (newList []) false (eval iter env) (some (assign (.Name y py) env))) _ _ s
  refine wpAny_bind (wpAny_mono (wpAny_comprehension_free (use := some (assign (.Name y py) env)) (Q := fun _ s' => Q .next s') rfl hs hclos hkind hnames
    (wpAny_mono h (fun xv s₁ h₁ => wpAny_mono h₁ (fun it s₂ h₂ => ?_) fun _ _ e => e) fun _ _ e => e)) (fun _ s' hq => wpAny_pure (wpAny_pure hq)) fun _ _ e => e)
  obtain ⟨I, fp, n, P, St, g₂, rfl, rfl, W, hIo, hsz, hst, hfp, hI, hk, hfs, el, m, hLn, fin⟩ := h₂
  refine comp_block (Z := Z) W hIo hsz hst hfp hI hk hfs hcell hkind hx el ?_
  intro D C m' ys oss h tk T hD hC hCD hCf hn hl hz hos
  show wpAny _ A (assign (.Name y py) env (.ref D)) _ _ _
  have keep : ∀ b o, s₁.heap.get? b = some o → h.get? b = some o := fun b o e => T.other b o e (List.not_mem_nil)
  have hLh : h.Ns env.locals m := by
    rw [hL]
    exact hLn.at' fun o e => keep _ o e
  refine wpAny_assign_Name (wpAny_storeName_local hy hLh (fun h₂ hn₂ hs₂ => ?_) hp)
  rw [hL] at hn₂ hs₂
  obtain ⟨oL, _, _, hLo, _⟩ := id hLn
  have neL : ∀ b, s₁.heap.get? b = none → b ≠ L := fun b e q => by rw [q, hLo] at e; cases e
  have hLC : L ≠ C := Ne.symm (neL C hC)
  refine ⟨m', hn.sameBut hs₂ (Ne.symm hLC), fun h'' hs'' => fin D ys oss h'' _ (fun b o e nb => ?_) hD ?_ hz (fun os h1 q h2 => ?_) (hn₂.sameBut hs'' hLC)⟩
  · exact hs''.extBut _ _ (fun q => by rw [q, hC] at e; cases e) (hs₂.extBut _ _ nb (keep b o e))
  · exact hs''.extBut _ _ (Ne.symm hCD) (hs₂.extBut _ _ (neL D hD) hl)
  · obtain ⟨a1, a2, a3, a4⟩ := hos os h1 q h2
    exact ⟨hs''.extBut _ _ a4 (hs₂.extBut _ _ (neL _ a2) a1), a2, a3⟩
end
end Mine
end
section
open PySem PySem.W PyProof.Rows PySem.Calls PySem.Spec
namespace Mine
/-- the walk stops here -/
def Hold (P : Prop) : Prop := P
theorem hold {P : Prop} (h : Hold P) : P := h
theorem Hold.out {P : Prop} (h : P) : Hold P := h
section
variable {prog : Program} {w : World} {A : Around} {E : Value → Shared → Prop} {s s₁ : Shared} {env : Env} {fs : List Addr} {Z : Nat → Value → List (Addr × Obj) → Prop} {elt : Expr} {x : Str} {scope : Scope} {cl : List (Str × Addr)} {Fin : Nat → Shared → Prop}
theorem compIt_str {y : Str} {t : Tok} (hA : A.handled = none) (ha : y.cps.all (· < 128) = true) (hsz : y.cps.size ≤ sizeLine) (hfs : ∀ b ∈ fs, ∃ o, s₁.heap.get? b = some o)
    (el : ∀ i v s' C m₂ E', i < y.cps.size → SignAt y i v → (∃ h tk, s' = { s₁ with heap := h, toks := tk }) → Turns fs s₁.heap s'.heap → s₁.heap.get? C = none → C ∉ fs → s'.heap.Ns C m₂ → m₂ x = some v →
      wpAny (model prog w) A (eval elt (compEnvC scope cl C env)) (ElPost fs Z i s') E' s') (fin : Fin y.cps.size s₁) :
    CompIt prog w A env elt x scope cl fs Z E Fin (.str y t) s₁ := by
  unfold CompIt
  have nf : s₁.heap.get? s₁.heap.objs.size = none := Heap.get?_none_of_le (Nat.le_refl _)
  refine wpAny_pyIter_ascii ha ⟨s₁.heap.objs.size, [s₁.heap.objs.size], y.cps.size, SignAt y, (fun i h => h.IsStrIter s₁.heap.objs.size "str_ascii_iterator" y t i), _, rfl, rfl, Walks.strAscii hA _ y t, fun i h ⟨o, ho, _⟩ => ⟨o, ho⟩, hsz, ⟨_, Heap.get?_push_size _ rfl, rfl, rfl⟩, fun b hb => ?_, nf, fun b o e => Heap.get?_push_of_some _ e, hfs, el, fin⟩
  obtain rfl := List.mem_singleton.mp hb
  refine ⟨by rw [Heap.size_push]; exact Nat.lt_succ_self _, fun hm => ?_⟩
  obtain ⟨o, ho⟩ := hfs _ hm
  rw [nf] at ho; cases ho
theorem compIt_list {l : Addr} {items : Array Value} (hA : A.handled = none) (hl : s₁.heap.IsList l items) (hlf : l ∉ fs) (hsz : items.size ≤ sizeLine) (hfs : ∀ b ∈ fs, ∃ o, s₁.heap.get? b = some o)
    (el : ∀ i v s' C m₂ E', i < items.size → items[i]? = some v → (∃ h tk, s' = { s₁ with heap := h, toks := tk }) → Turns fs s₁.heap s'.heap → s₁.heap.get? C = none → C ∉ fs → s'.heap.Ns C m₂ → m₂ x = some v →
      wpAny (model prog w) A (eval elt (compEnvC scope cl C env)) (ElPost fs Z i s') E' s') (fin : Fin items.size s₁) :
    CompIt prog w A env elt x scope cl fs Z E Fin (.ref l) s₁ := by
  unfold CompIt
  have nf : s₁.heap.get? s₁.heap.objs.size = none := Heap.get?_none_of_le (Nat.le_refl _)
  have hlt : l < s₁.heap.objs.size := by obtain ⟨_, e, _⟩ := hl; exact Heap.lt_size e
  refine wpAny_pyIter_list hl ⟨s₁.heap.objs.size, [s₁.heap.objs.size, l], items.size, fun i v => items[i]? = some v, (fun i h => h.IsListIter s₁.heap.objs.size l i ∧ h.IsList l items), _, rfl, rfl, Walks.list hA _ l (Nat.ne_of_lt hlt) items, fun i h ⟨⟨o, ho, _⟩, _⟩ => ⟨o, ho⟩, hsz, ⟨⟨_, Heap.get?_push_size _ rfl, rfl, rfl⟩, hl.push _⟩, fun b hb => ?_, nf, fun b o e => Heap.get?_push_of_some _ e, hfs, el, fin⟩
  rw [Heap.size_push]
  rcases List.mem_cons.mp hb with rfl | hb
  · refine ⟨Nat.lt_succ_self _, fun hm => ?_⟩
    obtain ⟨o, ho⟩ := hfs _ hm
    rw [nf] at ho; cases ho
  · obtain rfl := List.mem_singleton.mp hb
    exact ⟨Nat.lt_succ_of_lt hlt, hlf⟩
theorem compIt_range {r : Addr} {b : Int} {t u v : Tok} {n : Nat} (hA : A.handled = none) (hr : IsRange s₁.heap r 0 b 1 t u v) (hsm : Builtin.Range.small 0 b 1 = true) (hn : Builtin.Range.rangeSize 0 b 1 = ((n : Nat) : Int)) (hsz : n ≤ sizeLine) (hfs : ∀ b ∈ fs, ∃ o, s₁.heap.get? b = some o)
    (el : ∀ i v s' C m₂ E', i < n → (∃ t, v = .int (i : Int) t) → (∃ h tk, s' = { s₁ with heap := h, toks := tk }) → Turns fs s₁.heap s'.heap → s₁.heap.get? C = none → C ∉ fs → s'.heap.Ns C m₂ → m₂ x = some v →
      wpAny (model prog w) A (eval elt (compEnvC scope cl C env)) (ElPost fs Z i s') E' s') (fin : Fin n s₁) :
    CompIt prog w A env elt x scope cl fs Z E Fin (.ref r) s₁ := by
  unfold CompIt
  have nf : s₁.heap.get? s₁.heap.objs.size = none := Heap.get?_none_of_le (Nat.le_refl _)
  refine wpAny_pyIter_range hr hsm ⟨s₁.heap.objs.size, [s₁.heap.objs.size], n, (fun i v => ∃ t, v = .int ((0 : Int) + (i : Int)) t), _, _, rfl, rfl, LCg.range_walks hA 0 n, fun i h st => ⟨_, st⟩, hsz, (by show IsRangeIter _ _ _ _ _; rw [hn]; simpa using Heap.get?_push_size _ rfl), fun b hb => ?_, nf, fun b o e => Heap.get?_push_of_some _ e, hfs, fun i v s' C m₂ E' hi hv => el i v s' C m₂ E' hi (by simpa using hv), fin⟩
  obtain rfl := List.mem_singleton.mp hb
  refine ⟨by rw [Heap.size_push]; exact Nat.lt_succ_self _, fun hm => ?_⟩
  obtain ⟨o, ho⟩ := hfs _ hm
  rw [nf] at ho; cases ho
variable {K : Frag} {p : Program} {loose : List Str} {mean : ExcName → Option Value} {mg mb : Str → Option Value} {C : Addr} {pos : Pos} {v : Value} {Q : Value → Shared → Prop} {m₂ : Str → Option Value}
theorem el_var (hN : s.heap.Ns C m₂) (hx : m₂ x = some v) (h : Q v s)
    (hk : (compEnvC scope cl C env).scope.kind = .function := by rfl) (hl : (compEnvC scope cl C env).kindOf x = some .local := by rfl) (hd : (x == ("__debug__" : Str)) = false := by decide) :
    wpAny (model prog w) A (eval (.Name x pos) (compEnvC scope cl C env)) Q E s := ldVarK hN hx h hk hl hd
theorem el_def (X : K.In s.heap) (T : Top p loose mean mg mb s.heap) (e : nsIn K mainGlobals x = some (some v)) (h : Q v s) (hg : env.globals = mainGlobals := by rfl)
    (hk : (compEnvC scope cl C env).scope.kind = .function := by rfl) (hx : (compEnvC scope cl C env).kindOf x = some .globalImplicit := by rfl) (hd : (x == ("__debug__" : Str)) = false := by decide) :
    wpAny (model prog w) A (eval (.Name x pos) (compEnvC scope cl C env)) Q E s :=
  Name_function_global hk hx (loadGlobal_global (env := compEnvC scope cl C env) (show s.heap.Ns env.globals mg from hg ▸ T.g) (mg_of X T.g e) h) hd
theorem el_built (X : K.In s.heap) (T : Top p loose mean mg mb s.heap) (e : nsIn K mainGlobals x = some none) (hv : bootBuiltins x = some v) (hn : x ≠ "__name__") (h : Q v s) (hg : env.globals = mainGlobals := by rfl) (hb : env.builtins = builtinsNs := by rfl)
    (hk : (compEnvC scope cl C env).scope.kind = .function := by rfl) (hx : (compEnvC scope cl C env).kindOf x = some .globalImplicit := by rfl) (hd : (x == ("__debug__" : Str)) = false := by decide) :
    wpAny (model prog w) A (eval (.Name x pos) (compEnvC scope cl C env)) Q E s :=
  Name_function_global hk hx (loadGlobal_builtin (env := compEnvC scope cl C env) (show s.heap.Ns env.globals mg from hg ▸ T.g) (mg_none_of X T.g e) (show s.heap.Ns env.builtins mb from hb ▸ T.b) ((T.builtins x hn).trans hv) h) hd
end
end Mine
end
section
open PySem PySem.W PyProof.Rows PySem.Calls PySem.Spec
namespace Mine
theorem isExc_Stop : isSubtype (.type "StopIteration") (.type "BaseException") = pure true := by rw [isSubtype_type]; kernel_rfl
theorem notTuple_Stop : isSubtype (.type ((Manifest.find? "StopIteration").elim "type" fun x => x.metatype)) (.type "tuple") = pure false := by
  rw [show ((Manifest.find? "StopIteration").elim "type" fun x => x.metatype) = "type" from by kernel_rfl, isSubtype_type]; kernel_rfl
theorem sub_Stop : isSubtype (.type "StopIteration") (.type "StopIteration") = pure true := by rw [isSubtype_type]; kernel_rfl
section
local macro_rules | `(tactic| walk_at "eval ListComp") => `(tactic| refine hold ?_)
local macro_rules | `(tactic| walk_at "exec While Constant cons nil") => `(tactic| refine hold ?_)
local macro_rules | `(tactic| walk_at "eval Name") => `(tactic| ((with_reducible show wpAny _ _ (eval (Expr.Name _ _) (compEnvC _ _ _ _)) _ _ _); first
  | (refine' el_var ?n ?x ?_; (case n => assumption); (case x => assumption))
  | (k_dflt (refine' el_def ?X ?T ?e ?_; (case X => assumption); (case T => assumption); (case e => k_is)))
  | (k_dflt (refine' el_built ?X ?T ?e ?v ?n ?_; (case X => assumption); (case T => assumption); (case e => k_is); (case v => boot_by_name); (case n => decide)))))
local macro_rules | `(tactic| walk_at "call builtin:iter") => `(tactic| (k_here; (with_reducible show wpAny _ _ (call (Value.builtin "iter") [Value.ref _]) _ _ _); k_dflt (refine' iter_K ?F ?N ?p ?_; (case F => k_asm); (case N => k_asm); (case p => k_mem)); intro I' h' o' F' N' l1 hi'; (try k_lt l1)))
local macro_rules | `(tactic| walk_at "call builtin:list.append") => `(tactic| (k_here; k_dflt (refine' append_K ?k1 ?k2 ?k3 ?_ ?z; (case k1 => k_asm); (case k2 => k_asm); (case k3 => k_upd); (case z => assumption)); intro h' F' N'))
local macro_rules | `(tactic| walk_at "call ref") => `(tactic| refine hold ?_)
set_option maxHeartbeats 4000000 in
theorem read_call {w : World} {dp un : Nat} {gd : Option (List Code)} {env : Env} {outer : List Env} {A₀ : Around} {base h₀ : Heap} {L : Addr} {m : Str → Option Value} {s : Shared} {mean : ExcName → Option Value} {mg mb : Str → Option Value} {x : Str} {tx : Tok} {nums : List Int}
    {Q E : Value → Shared → Prop} :
    Below A₀ base outer h₀ → Fr h₀ L s.heap m → (hd.heap_39 w.params).In base → Top hd.view_39 (looseW hd.view_39 []) mean mg mb base → KtsDicts (outer.filterMap (·.frame)) h₀ → env.frame = some L → env.scope.kind = .function → dp + 2 < recursionLimit → un + 16 < cLine →
    x.cps.size ≤ 100 → x.cps.all (· < 128) = true → Cut (codesOf x) nums →
    (∀ r ws n h' tk', Turns (L :: outer.filterMap (·.frame)) s.heap h' → s.heap.get? r = none → h'.get? r = some (listOf ws n) → IntsAre ws.toList nums → Q (.ref r) { s with heap := h', toks := tk' }) →
    wpAny (model Challenge.rw_pe0017_01.row.prog w) { handled := none, depth := dp, frames := some (env :: outer), guards := gd, units := un } (call (.ref 45) [.str x tx]) Q E s := by
  k_fill
  w_top off
  intro B F XB TB D hf hk hd hu hlen hasc hcut ret
  have hst : ∀ b o, base.get? b = some o → s.heap.get? b = some o := fun b o e => F.keep b o (B.stays b o e)
  have X := XB.keeps hst
  have T := TB.keeps hst
  have G := groundT (A := { handled := none, depth := dp, frames := some (env :: outer), guards := gd, units := un }) B F D rfl hf hk
  obtain ⟨B', D'⟩ := G
  w_strict (
    refine wpAny_call ?_
    k_dflt (refine' enterP ?k3 ?k4 ?k6 ?k7 ?k8 ?k9 ?kB ?_ ?c2 ?c3 ?c4 ?c5; (case k3 => exact X); (case k4 => exact T); (case k6 => k_is); (case k7 => k_is); (case k8 => ktr_room); (case k9 => exact BindsTo.of_eq rfl); (case c5 => decide); (case kB => exact locs rfl); (case c2 => exact rfl); (case c3 => exact rfl); (case c4 => exact rfl); k_whole; intro L' h' F' N'; (try dsimp only); (try k_fold))
    k_steps
    refine Hold.out ?_
    k_dflt (refine' comp_rule (fs := []) (Z := fun i v _ => ∃ t, v = .int ((x.cps[i]?.getD 0 : Nat) : Int) t) ?g1 ?g2 ?g3 ?g4 ?g5 ?_ ?g6; (case g1 => exact rfl); (case g2 => decide); (case g3 => exact rfl); (case g4 => decide); (case g5 => exact rfl); (case g6 => intro _; rfl))
    k_steps
    refine compIt_str rfl hasc (by show x.cps.size ≤ 2 ^ 24; omega) (fun _ h => nomatch h) ?_ ?_
    · intro i v s' C m₂ E' hi hv hs' Ts hC hCf hN hx
      obtain ⟨g1, tk1, rfl⟩ := hs'
      obtain ⟨c, u, hc, rfl⟩ := hv
      have k1 : ∀ b o, s.heap.get? b = some o → g1.get? b = some o := fun b o e => Ts.other b o (F'.keep b o e) List.not_mem_nil
      have X1 := X.keeps k1
      have T1 := T.keeps k1
      k_steps
      exact ⟨_, _, [], rfl, Turns.of_stays fun _ _ e => e, (fun _ h => nomatch h), _, by rw [hc]; rfl⟩
    intro D1 ys oss h1 tk1 T1 hD1 hl1 hz1 _
    dsimp only at T1 hD1
    have F1 : Fr s.heap L' h1 _ := F'.keeps fun b o e => T1.other b o e List.not_mem_nil
    have N1 : News s.heap L' h1 [(D1, listOf ys.toArray ys.length)] := fun q hq => by
      obtain rfl := List.mem_singleton.mp hq
      refine ⟨hl1, fun z => ?_, ?_⟩
      · obtain ⟨o, _, _, e, _⟩ := F'.ns
        have z' : D1 = L' := z
        rw [z', e] at hD1; cases hD1
      · cases q : s.heap.get? D1 with
        | none => rfl
        | some o => rw [F'.keep _ _ q] at hD1; cases hD1
    obtain ⟨tl, hcs, hnum, htl⟩ := hcut
    have hit1 : ∀ (i : Nat) (c : Int), (codesOf x)[i]? = some c → ∃ t, ys[i]? = some (.int c t) := fun i c hc => by
      have hi : i < x.cps.size := by
        rcases Nat.lt_or_ge i x.cps.size with h | h
        · exact h
        · rw [List.getElem?_eq_none (by rw [codesOf_len]; exact h)] at hc; cases hc
      rw [codesOf_at x i hi] at hc
      obtain ⟨y, os, h1, _, t, h3⟩ := hz1.at_ i hi
      exact ⟨t, by rw [h1, h3, ← Option.some.inj hc]⟩
    have hit0 : ∀ (i : Nat), (codesOf x)[i]? = none → ys[i]? = none := fun i hc => by
      have hi : x.cps.size ≤ i := by rw [← codesOf_len]; exact List.getElem?_eq_none_iff.mp hc
      exact List.getElem?_eq_none (by rw [hz1.len]; exact hi)
    clear F' N'
    k_steps
    refine Hold.out ?_
    have hlz := hz1.len
    refine While_inv2 (n₀ := nums.length) (fun n m₁ nx => ∃ dn rs o vs k, nums = dn ++ rs ∧ n = rs.length ∧ m₁ = _ ∧ nx = [(_, listOf vs k), (_, o), (D1, listOf ys.toArray ys.length)] ∧ IntsAre vs.toList dn ∧ LIt o D1 (octs dn).length) (by k_asm) (by k_asm) ⟨[], nums, _, #[], 0, rfl, rfl, rfl, rfl, IntsAre.nil, by assumption⟩ ?_ (by passes_own)
    rintro n m₁ nx h tk F₁ N₁ ⟨dn, rs, o, vs, k, e1, e2, rfl, rfl, hI, hit⟩
    have hvs : vs.size ≤ sizeLine := by
      have h1 := ints_len hI
      have h2 := octs_len nums
      have h3 := codesOf_len x
      rw [hcs, List.length_append] at h3
      have h4 : nums.length = dn.length + rs.length := by rw [e1, List.length_append]
      rw [Array.length_toList] at h1
      show vs.size ≤ 2 ^ 24
      omega
    k_steps
    refine Hold.out ?_
    cases rs with
    | cons d rs' =>
      have hd1 : 0 ≤ d ∧ d < 4096 := hnum d (by rw [e1]; simp)
      by_cases hd2 : d < 64
      · have hc0 : (codesOf x)[(octs dn).length]? = some d := by rw [hcs, e1, octs_append, octs_cons, octs1_lo hd2]; simp
        obtain ⟨t0, hy0⟩ := hit1 _ _ hc0
        refine parse_one B' F₁ X N₁ T rfl (by ktr_room) (by ktr_units) (by omega) (by omega) hit (by simpa using hy0) hd1.1 hd2 ?_
        intro h' tk' t' o' F' N' hi'
        k_steps
        exact ⟨_, _, _, _, rs'.length, rfl, by k_asm, by k_asm, by rw [e2]; simp, dn ++ [d], rs', _, _, _, by rw [e1]; simp, rfl, rfl, rfl, by rw [Array.toList_push]; exact ints_snoc hI, by rw [octs_snoc, octs1_lo hd2, List.length_append]; exact hi'⟩
      · have hq := fdiv64 (by omega) hd1.2
        have hc0 : (codesOf x)[(octs dn).length]? = some (64 + d.fdiv 64) := by rw [hcs, e1, octs_append, octs_cons, octs1_hi hd2]; simp
        have hc1 : (codesOf x)[(octs dn).length + 1]? = some (d.fmod 64) := by rw [hcs, e1, octs_append, octs_cons, octs1_hi hd2]; simp
        obtain ⟨t0, hy0⟩ := hit1 _ _ hc0
        obtain ⟨t1, hy1⟩ := hit1 _ _ hc1
        refine parse_two B' F₁ X N₁ T rfl (by ktr_room) (by ktr_units) (by omega) (by omega) hit (by simpa using hy0) hq.1 hq.2.1 (by simpa using hy1) hq.2.2.1 hq.2.2.2.1 ?_
        intro h' tk' t' o' F' N' hi'
        rw [hq.2.2.2.2]
        k_steps
        exact ⟨_, _, _, _, rs'.length, rfl, by k_asm, by k_asm, by rw [e2]; simp, dn ++ [d], rs', _, _, _, by rw [e1]; simp, rfl, rfl, rfl, by rw [Array.toList_push]; exact ints_snoc hI, by rw [octs_snoc, octs1_hi hd2, List.length_append]; exact hi'⟩
    | nil =>
      rw [List.append_nil] at e1
      subst e1
      rcases htl with rfl | ⟨c, rfl, hc1, hc2⟩
      · have hn0 : (codesOf x)[(octs nums).length]? = none := by rw [hcs]; simp
        refine parse_end B' F₁ X N₁ T rfl (by ktr_room) (by ktr_units) (by omega) (by omega) hit (by simpa using hit0 _ hn0) ?_
        intro h' tk' e g o' Fg R U
        k_dflt (refine' caught_SN0 (T' := "StopIteration") R Fg B' U XB TB D' KtsTurn.refl ?ex PyProof.Rows.Boot.«StopIteration» ?hn isExc_Stop notTuple_Stop sub_Stop ?_; (case ex => k_is); (case hn => decide))
        intro h6 g6 T6 F6 N6 B6 X6 P6 D6
        k_steps
        have efs : (env :: outer).filterMap (·.frame) = L :: outer.filterMap (·.frame) := by rw [List.filterMap_cons, hf]
        rw [efs] at T6
        exact ret _ vs k _ _ (Turns.of_kts T6 F6.keep) (none_before (Turns.of_kts T6 fun _ _ e => e) (N6 _ (.head _)).2.2) (N6 _ (.head _)).1 hI
      · have hc0 : (codesOf x)[(octs nums).length]? = some c := by rw [hcs]; simp
        have hn0 : (codesOf x)[(octs nums).length + 1]? = none := by rw [hcs]; simp
        obtain ⟨t0, hy0⟩ := hit1 _ _ hc0
        refine parse_cut B' F₁ X N₁ T rfl (by ktr_room) (by ktr_units) (by omega) (by omega) hit (by simpa using hy0) hc1 hc2 (by simpa using hit0 _ hn0) ?_
        intro h' tk' e g o' Fg R U
        k_dflt (refine' caught_SN0 (T' := "StopIteration") R Fg B' U XB TB D' KtsTurn.refl ?ex PyProof.Rows.Boot.«StopIteration» ?hn isExc_Stop notTuple_Stop sub_Stop ?_; (case ex => k_is); (case hn => decide))
        intro h6 g6 T6 F6 N6 B6 X6 P6 D6
        k_steps
        have efs : (env :: outer).filterMap (·.frame) = L :: outer.filterMap (·.frame) := by rw [List.filterMap_cons, hf]
        rw [efs] at T6
        exact ret _ vs k _ _ (Turns.of_kts T6 F6.keep) (none_before (Turns.of_kts T6 fun _ _ e => e) (N6 _ (.head _)).2.2) (N6 _ (.head _)).1 hI)
end
end Mine
end
section
open PySem PySem.W PyProof.Rows PySem.Calls PySem.Spec
namespace Mine
theorem map_at {m : Str → Option Value} {x : Str} {v : Option Value} (h : m x = v) : m = fun y => if y = x then v else m y := by
  funext y
  by_cases e : y = x
  · rw [if_pos e, e, h]
  · rw [if_neg e]
section
variable {prog : Program} {w : World} {A : Around} {E : Value → Shared → Prop} {s : Shared} {env : Env} {h₀ : Heap} {L : Addr} {m : Str → Option Value}
/-- what a turn of a gathering loop leaves -/
def AccPost (h₀ : Heap) (L o : Addr) (nm : Str) (g : List Int) (own : List (Addr × Obj)) (s : Shared) (f : Flow) (s' : Shared) : Prop :=
  f = .next ∧ ∃ h tk m' ws k news, s' = { s with heap := h, toks := tk } ∧ Fr h₀ L h m' ∧ m' nm = some (.ref o) ∧ News h₀ L h news ∧ (o, listOf ws k) ∈ news ∧ (∀ p ∈ own, p ∈ news) ∧ IntsAre ws.toList g
/-- a loop over a list of ints that gathers a list of ints -/
theorem for_acc {x nm : Str} {px pos : Pos} {iter : Expr} {body : List Stmt} {l o : Addr} {vs : List Value} {ns : List Int} {Q : Flow → Shared → Prop} (G : Nat → List Int)
    (hL : env.locals = L) (hh : A.handled = none) (hx : env.kindOf x = some .local) (hp : (env.scope.kind == .class || (env.scope.kind == .module && env.locals != env.globals)) = false)
    (hit : ∀ (Q' : Value → Shared → Prop), Q' (.ref l) s → wpAny (model prog w) A (eval iter env) Q' E s)
    (hl : h₀.IsList l vs.toArray) (hi : IntsAre vs ns) (F : Fr h₀ L s.heap m) (N : News h₀ L s.heap [(o, listOf #[] 0)]) (hm : m nm = some (.ref o)) (hne : nm ≠ x) (hG : G 0 = [])
    (turn : ∀ i n t (m₁ : Str → Option Value) ws k h tk own, ns[i]? = some n → n ∈ ns → OwnOff own [o] → IntsAre ws.toList (G i) → Fr h₀ L h (fun y => if y = x then some (.int n t) else if y = nm then some (.ref o) else m₁ y) → News h₀ L h ((o, listOf ws k) :: own) →
      wpAny (model prog w) A (execs body env) (AccPost h₀ L o nm (G (i + 1)) own { s with heap := h, toks := tk }) E { s with heap := h, toks := tk })
    (done : ∀ (m' : Str → Option Value) ws k h tk, Fr h₀ L h (fun y => if y = nm then some (.ref o) else m' y) → News h₀ L h [(o, listOf ws k)] → IntsAre ws.toList (G ns.length) → Q .next { s with heap := h, toks := tk })
    (hs : ∀ x, foldedSetIterable iter env x = pure x := by intro _; rfl)
    (hE : PassesOwn (model prog w) A env E := by passes_own) :
    wpAny (model prog w) A (exec (.For (.Name x px) iter body [] pos) env) Q E s := by
  subst hL
  refine For_invV h₀ hx hp (hit _ ?_) hs hE
  refine iter_invN (fun i m₁ nx => m₁ nm = some (.ref o) ∧ ∃ ws k, nx = [(o, listOf ws k)] ∧ IntsAre ws.toList (G i)) hh hl hi F N ⟨hm, #[], 0, rfl, by rw [hG]; exact IntsAre.nil⟩ ?_ ?_
  · rintro i n t m₁ nx h tk own hn _ hoff ⟨hm1, ws, k, rfl, hI⟩ F₁ N₁
    have e1 : (fun y => if y = x then some (Value.int n t) else m₁ y) = fun y => if y = x then some (.int n t) else if y = nm then some (.ref o) else m₁ y := by
      conv => lhs; rw [map_at hm1]
    rw [e1] at F₁
    refine wpAny_mono (turn i n t m₁ ws k h tk own hn (List.mem_of_getElem? hn) hoff hI F₁ N₁) (fun f s' hf => ?_) fun _ _ e => e
    obtain ⟨rfl, h', tk', m', ws', k', news, rfl, F', hm', N', hmem, hown, hI'⟩ := hf
    exact ⟨h', tk', m', news, [(o, listOf ws' k')], rfl, F', N', fun p hp => by rw [List.mem_singleton.mp hp]; exact hmem, hown, rfl, hm', ws', k', rfl, hI'⟩
  · rintro m₁ nx h tk ⟨hm1, ws, k, rfl, hI⟩ F₁ N₁
    rw [map_at hm1] at F₁
    exact done m₁ ws k h tk F₁ N₁ hI
theorem fills_list_iadd : fillsInplaceSlot (.type "list") "add" (Operator.Add == .Add) = pure false := by
  unfold fillsInplaceSlot
  show (typeLookup (.type "list") (dunderI "add") >>= fun fi => pure (fi.isSome && !isSeqSlot fi)) = pure false
  rw [F.slot_list_iadd.lookup]
  show (pure (true && !isSeqSlot (some (.builtin "list.__iadd__"))) : Sem Bool) = _
  rw [show isSeqSlot (some (.builtin "list.__iadd__")) = true from by decide +kernel]
  rfl
theorem seq_list_iadd : seqSlot? (.type "list") (dunderI "add") = pure (some (.builtin "list.__iadd__")) := PySem.seqSlot_of F.slot_list_iadd.lookup (by decide +kernel)
theorem iadd_list {l b : Addr} {items items2 : Array Value} {n n2 : Nat} {Q : Value → Shared → Prop} (hl : s.heap.get? l = some (listOf items n)) (hb : s.heap.get? b = some (listOf items2 n2)) (hsz : items.size + items2.size ≤ sizeLine)
    (h : Q (.ref l) { s with heap := s.heap.update l (Obj.mapSeq fun x => x ++ items2) }) : wpAny (model prog w) A (inplaceOp .Add (.ref l) (.ref b)) Q E s := by
  have ha : s.TypeIs (.ref l) "list" := ⟨_, hl, rfl⟩
  have hb' : s.TypeIs (.ref b) "list" := ⟨_, hb, rfl⟩
  unfold inplaceOp
  refine wpAny_holding ?_
  refine wpAny_bind (wpAny_typeOf ha (wpAny_bind (wpAny_of_eq fills_list_iadd ?_)))
  show wpAny (model prog w) A (if false = true then _ else _) Q E s
  rw [if_neg Bool.false_ne_true]
  refine wpAny_bind (wpAny_binaryOp1_none (nm := "add") ha hb' noFill_list_add ?_)
  refine wpAny_bind (wpAny_of_eq seq_list_iadd ?_)
  refine wpAny_bind (wpAny_rule (call_meets F.slot_list_iadd ha F.entry_list_iadd (F.args_list_iadd_2 _ _) (AutoSeq1.list___iadd___list_list_0 l items n b items2 n2 ?_ (by omega) (by omega)) ⟨hl, hb, h⟩))
  rw [show Builtin.List.listTooLong (items.size + items2.size) = false from decide_eq_false (by omega)]
  simp
theorem iadd_K {l b : Addr} {items items2 : Array Value} {n n2 : Nat} {news : List (Addr × Obj)} {g : Obj → List (Addr × Obj)} {Q : Value → Shared → Prop} (F : Fr h₀ L s.heap m) (N : News h₀ L s.heap news) (U : UpdF l (listOf items n) news g) (hb : (b, listOf items2 n2) ∈ news) (hsz : items.size + items2.size ≤ sizeLine)
    (h : ∀ h' k, Fr h₀ L h' m → News h₀ L h' (g (listOf (items ++ items2) k)) → Q (.ref l) { s with heap := h' }) : wpAny (model prog w) A (inplaceOp .Add (.ref l) (.ref b)) Q E s := by
  obtain ⟨pre, post, hl, hg, a, b'⟩ := U.split
  have hmem : (l, listOf items n) ∈ news := by rw [hl]; exact List.mem_append_right _ (.head _)
  have hm := N _ hmem
  have z := Heap.get?_update_self (f := Obj.mapSeq fun x => x ++ items2) hm.1 rfl
  exact iadd_list hm.1 (N _ hb).1 hsz (h _ _ (F.change (Heap.SameBut.update ..) hm.2.1 hm.2.2) (hg _ ▸ (show News h₀ L s.heap (pre ++ (l, listOf items n) :: post) from hl ▸ N).setIn a b' (Heap.SameBut.update ..) z))
end
end Mine
end
section
open PySem PySem.W PyProof.Rows PySem.Calls PySem.Spec
namespace Mine
section
local macro_rules | `(tactic| walk_at "inplaceOp Add ref") => `(tactic| refine hold ?_)
local macro_rules | `(tactic| walk_at "exec For Name Name cons nil") => `(tactic| refine hold ?_)
set_option maxHeartbeats 4000000 in
theorem octets_call {w : World} {dp un : Nat} {gd : Option (List Code)} {fr : Option (List Env)} {s : Shared} {mean : ExcName → Option Value} {mg mb : Str → Option Value} {l : Addr} {vs : List Value} {ns : List Int}
    {Q E : Value → Shared → Prop} :
    (hd.heap_39 w.params).In s.heap → Top hd.view_39 (looseW hd.view_39 []) mean mg mb s.heap → dp < recursionLimit → un < cLine →
    s.heap.IsList l vs.toArray → IntsAre vs ns → ns.length ≤ 20 → (∀ n ∈ ns, 0 ≤ n ∧ n < 4096) →
    (∀ r ws k h' tk', (∀ b o, s.heap.get? b = some o → h'.get? b = some o) → s.heap.get? r = none → h'.get? r = some (listOf ws k) → IntsAre ws.toList (octs ns) → Q (.ref r) { s with heap := h', toks := tk' }) →
    wpAny (model Challenge.rw_pe0017_01.row.prog w) { handled := none, depth := dp, frames := fr, guards := gd, units := un } (call (.ref 40) [.ref l]) Q E s := by
  k_fill
  w_top off
  intro X T hd hu hl hI hlen hb ret
  w_strict (
    refine wpAny_call ?_
    k_dflt (refine' enterP ?k3 ?k4 ?k6 ?k7 ?k8 ?k9 ?kB ?_ ?c2 ?c3 ?c4 ?c5; (case k3 => exact X); (case k4 => exact T); (case k6 => k_is); (case k7 => k_is); (case k8 => exact hd); (case k9 => exact BindsTo.of_eq rfl); (case c5 => decide); (case kB => exact locs rfl); (case c2 => exact rfl); (case c3 => exact rfl); (case c4 => exact rfl); k_whole; intro L' h' F' N'; (try dsimp only); (try k_fold))
    k_steps
    refine Hold.out ?_
    (with_reducible rename Fr _ _ _ _ => F2)
    (with_reducible rename News _ _ _ _ => N2)
    refine for_acc (nm := Str.ofString "octets") (fun i => octs (ns.take i)) rfl rfl rfl rfl ?_ hl hI F2 N2 rfl (by decide) rfl ?_ ?_ (by intro _; rfl) (by passes_own)
    · intro Q' hQ'
      k_steps
      exact hQ'
    · intro i n t m₁ ws k h tk own hn hmem hoff hIw F3 N3
      have hln : ws.size ≤ 2 * ns.length := by
        have h1 := ints_len hIw
        have h2 := octs_len2 (ns.take i)
        have h3 : (ns.take i).length ≤ ns.length := by rw [List.length_take]; exact Nat.min_le_right _ _
        rw [Array.length_toList] at h1
        omega
      have hz : ns.length ≤ 20 := hlen
      have hsl : sizeLine = 16777216 := rfl
      have htk : ns.take (i + 1) = ns.take i ++ [n] := by simp [List.take_add_one, hn]
      by_cases h64 : n < 64
      · k_steps
        refine Hold.out ?_
        refine iadd_K (by k_asm) (by k_asm) (UpdF.tail (by k_ne) (UpdF.head (hoff.ne (.head _)))) (.head _) (by simp only [List.size_toArray, List.length_cons, List.length_nil]; omega) ?_
        intro h' k' F' N'
        k_steps
        exact ⟨rfl, _, _, _, _, _, _, rfl, by k_asm, rfl, by k_asm, .tail _ (.head _), fun p hp => .tail _ (.tail _ hp), by rw [htk, octs_snoc, octs1_lo h64, Array.toList_append]; exact ints_append hIw (.cons _ _ .nil)⟩
      · k_steps
        refine Hold.out ?_
        refine iadd_K (by k_asm) (by k_asm) (UpdF.tail (by k_ne) (UpdF.head (hoff.ne (.head _)))) (.head _) (by simp only [List.size_toArray, List.length_cons, List.length_nil]; omega) ?_
        intro h' k' F' N'
        k_steps
        exact ⟨rfl, _, _, _, _, _, _, rfl, by k_asm, rfl, by k_asm, .tail _ (.head _), fun p hp => .tail _ (.tail _ hp), by rw [htk, octs_snoc, octs1_hi h64, Array.toList_append]; exact ints_append hIw (.cons _ _ (.cons _ _ .nil))⟩
    · intro m' ws k h tk F3 N3 hIw
      rw [List.take_length] at hIw
      k_steps
      exact ret _ ws k _ _ F3.keep (N3 _ (.head _)).2.2 (N3 _ (.head _)).1 hIw)
end
end Mine
end
section
open PySem PySem.W PyProof.Rows PySem.Calls PySem.Spec
namespace Mine
/-- how many blanks go at the front (i) and at the end (r), k at most -/
structure StripR (cs : List Int) (k i r : Nat) : Prop where
  sum : i + r ≤ k
  front : ∀ j, j < i → cs[j]? = some 32
  stop1 : i = k ∨ ∃ c, cs[i]? = some c ∧ c ≠ 32
  back : ∀ j, j < r → cs[cs.length - 1 - j]? = some 32
  stop2 : i + r = k ∨ ∃ c, cs[cs.length - 1 - r]? = some c ∧ c ≠ 32
  room : i + r < cs.length
theorem blank_is : Str.ofString " " = ⟨#[32]⟩ := by decide +kernel
theorem code_at {x : Str} {i : Nat} (h : i < x.cps.size) : (codesOf x)[i]? = some ((x.cps[i] : Nat) : Int) := by
  rw [codesOf_at x i h]
  simp [h]
theorem item_blank {x : Str} {i : Nat} (h : i < x.cps.size) : ((Txt.item x ((i : Nat) : Int) == Str.ofString " ") = true) ↔ (codesOf x)[i]? = some 32 := by
  rw [item_meets (i := ((i : Nat) : Int)) (n := x.cps[i]) (by omega) (by simp [h]), blank_is, code_at h, beq_iff_eq]
  constructor
  · intro e
    have : (#[x.cps[i]] : Array Nat) = #[32] := congrArg Str.cps e
    have h2 : x.cps[i] = 32 := by simpa using this
    rw [h2]; rfl
  · intro e
    have h2 : x.cps[i] = 32 := by have := Option.some.inj e; omega
    rw [h2]
theorem slice_codes {x : Str} {i j : Int} (h0 : 0 ≤ i) (h1 : i ≤ j) (h2 : j ≤ x.length) : codesOf (Txt.slice x (some i) (some j)) = ((codesOf x).drop i.toNat).take (j - i).toNat := by
  rw [beq_iff_eq.mp (slice_closesL h0 h1 h2)]
  simp [codesOf, List.map_take, List.map_drop]
/-- behind the first loop -/
def Post1 (h₀ : Heap) (L : Addr) (s : Shared) (x : Str) (tx : Tok) (k : Nat) (f : Flow) (s' : Shared) : Prop :=
  f = .next ∧ ∃ (h : Heap) (tk : Nat) (m' : Str → Option Value) (i n : Nat) (t1 t2 : Tok), s' = { s with heap := h, toks := tk } ∧
    Fr h₀ L h (fun y => if y = Str.ofString "s" then some (.str x tx) else if y = Str.ofString "amount" then some (.int ((n : Nat) : Int) t2) else if y = Str.ofString "lpos" then some (.int ((i : Nat) : Int) t1) else m' y) ∧ i + n = k ∧
    (∀ j, j < i → (codesOf x)[j]? = some 32) ∧ (n = 0 ∨ ∃ c, (codesOf x)[i]? = some c ∧ c ≠ 32)
def Post2 (h₀ : Heap) (L : Addr) (s : Shared) (x : Str) (tx : Tok) (i k : Nat) (f : Flow) (s' : Shared) : Prop :=
  f = .next ∧ ∃ (h : Heap) (tk : Nat) (m' : Str → Option Value) (r n : Nat) (t1 t2 t3 : Tok), s' = { s with heap := h, toks := tk } ∧
    Fr h₀ L h (fun y => if y = Str.ofString "s" then some (.str x tx) else if y = Str.ofString "amount" then some (.int ((n : Nat) : Int) t2) else if y = Str.ofString "lpos" then some (.int ((i : Nat) : Int) t1) else if y = Str.ofString "rpos" then some (.int ((x.cps.size : Int) - 1 - ((r : Nat) : Int)) t3) else m' y) ∧ r + n = k ∧
    (∀ j, j < r → (codesOf x)[(codesOf x).length - 1 - j]? = some 32) ∧ (n = 0 ∨ ∃ c, (codesOf x)[(codesOf x).length - 1 - r]? = some c ∧ c ≠ 32)
section
local macro_rules | `(tactic| walk_at "exec While BoolOp cons nil") => `(tactic| refine hold ?_)
local macro_rules | `(tactic| walk_at "call builtin:len") => `(tactic| ((with_reducible show wpAny _ _ (call (Value.builtin "len") [Value.str _ _]) _ _ _); refine P.len_str (by omega) ?_))
set_option maxHeartbeats 4000000 in
theorem strip_call {w : World} {dp un : Nat} {gd : Option (List Code)} {fr : Option (List Env)} {s : Shared} {mean : ExcName → Option Value} {mg mb : Str → Option Value} {x : Str} {tx ta : Tok} {k p : Nat} {c : Int}
    {Q E : Value → Shared → Prop} :
    (hd.heap_39 w.params).In s.heap → Top hd.view_39 (looseW hd.view_39 []) mean mg mb s.heap → dp < recursionLimit → un < cLine →
    x.cps.size ≤ 100 → k ≤ 100 → (codesOf x)[p]? = some c → c ≠ 32 →
    (∀ y t' h' tk' i r, (∀ b o, s.heap.get? b = some o → h'.get? b = some o) → StripR (codesOf x) k i r → codesOf y = ((codesOf x).drop i).take ((codesOf x).length - r - i) → Q (.str y t') { s with heap := h', toks := tk' }) →
    wpAny (model Challenge.rw_pe0017_01.row.prog w) { handled := none, depth := dp, frames := fr, guards := gd, units := un } (call (.ref 28) [.str x tx, .int (k : Int) ta]) Q E s := by
  k_fill
  w_top off
  intro X T hd hu hlen hk hp hc ret
  w_strict (
    refine wpAny_call ?_
    k_dflt (refine' enterP ?k3 ?k4 ?k6 ?k7 ?k8 ?k9 ?kB ?_ ?c2 ?c3 ?c4 ?c5; (case k3 => exact X); (case k4 => exact T); (case k6 => k_is); (case k7 => k_is); (case k8 => exact hd); (case k9 => exact BindsTo.of_eq rfl); (case c5 => decide); (case kB => exact locs rfl); (case c2 => exact rfl); (case c3 => exact rfl); (case c4 => exact rfl); k_whole; intro L' h' F' N'; (try dsimp only); (try k_fold))
    k_steps
    refine Hold.out ?_
    (with_reducible rename Fr _ _ _ _ => F2)
    have hxl : x.length = x.cps.size := rfl
    have hcl := codesOf_len x
    have hpl : p < x.cps.size := by
      rcases Nat.lt_or_ge p x.cps.size with h | h
      · exact h
      · rw [List.getElem?_eq_none (by rw [hcl]; exact h)] at hp; cases hp
    refine wpAny_mono (Q := Post1 s.heap L' s x tx k) ?_ (fun f s' hq => ?_) (fun _ _ e => e)
    · refine While_inv2 (n₀ := k) (fun n m₁ nx => nx = [] ∧ ∃ i t1 t2, i + n = k ∧ m₁ (Str.ofString "lpos") = some (.int ((i : Nat) : Int) t1) ∧ m₁ (Str.ofString "amount") = some (.int ((n : Nat) : Int) t2) ∧ m₁ (Str.ofString "s") = some (.str x tx) ∧ ∀ j, j < i → (codesOf x)[j]? = some 32) F2 News.nil ⟨rfl, 0, _, _, Nat.zero_add _, rfl, rfl, rfl, fun j h => absurd h (Nat.not_lt_zero _)⟩ ?_ (by passes_own)
      rintro n m₁ nx h tk F₁ N₁ ⟨rfl, i, t1, t2, e1, hm1, hm2, hm3, hfr⟩
      rw [map_at hm3, map_at hm2, map_at hm1] at F₁
      have hip : i ≤ p := by
        rcases Nat.lt_or_ge p i with h | h
        · rw [hfr p h] at hp; exact absurd (Option.some.inj hp).symm hc
        · exact h
      have hib := item_blank (x := x) (i := i) (by omega)
      k_steps
      · exact ⟨_, _, _, _, n - 1, rfl, by k_asm, News.nil, by omega, rfl, i + 1, _, _, by omega, congrArg (fun z => some (Value.int z _)) (by omega : (i : Int) + 1 = ((i + 1 : Nat) : Int)), congrArg (fun z => some (Value.int z _)) (by omega : (n : Int) - 1 = ((n - 1 : Nat) : Int)), rfl, fun j hj => by
          rcases Nat.lt_or_ge j i with h | h
          · exact hfr j h
          · obtain rfl : j = i := by omega
            exact hib.mp (by assumption)⟩
      · exact ⟨rfl, h, _, m₁, i, n, t1, t2, rfl, F₁, e1, hfr, .inr ⟨_, code_at (by omega), fun e => by
          have := hib.mpr ((code_at (by omega)).trans (congrArg some e))
          simp_all⟩⟩
      · exact ⟨rfl, h, _, m₁, i, n, t1, t2, rfl, F₁, e1, hfr, .inl (by omega)⟩
    · obtain ⟨rfl, h, tk, m', i, n, t1, t2, rfl, F₁, e1, hfr, hs1⟩ := hq
      have N₁ : News s.heap L' h [] := News.nil
      have hip : i ≤ p := by
        rcases Nat.lt_or_ge p i with h | h
        · rw [hfr p h] at hp; exact absurd (Option.some.inj hp).symm hc
        · exact h
      k_steps
      refine Hold.out ?_
      (with_reducible rename Fr _ _ _ _ => F2)
      refine wpAny_mono (Q := Post2 s.heap L' s x tx i n) ?_ (fun f s' hq => ?_) (fun _ _ e => e)
      · refine While_inv2 (n₀ := n) (fun n₁ m₁ nx => nx = [] ∧ ∃ r t1 t2 t3, r + n₁ = n ∧ m₁ (Str.ofString "rpos") = some (.int ((x.cps.size : Int) - 1 - ((r : Nat) : Int)) t3) ∧ m₁ (Str.ofString "lpos") = some (.int ((i : Nat) : Int) t1) ∧ m₁ (Str.ofString "amount") = some (.int ((n₁ : Nat) : Int) t2) ∧ m₁ (Str.ofString "s") = some (.str x tx) ∧ ∀ j, j < r → (codesOf x)[(codesOf x).length - 1 - j]? = some 32) F2 News.nil ⟨rfl, 0, _, _, _, Nat.zero_add _, congrArg (fun z => some (Value.int z _)) (by omega), rfl, rfl, rfl, fun j h => absurd h (Nat.not_lt_zero _)⟩ ?_ (by passes_own)
        rintro n₁ m₁ nx h tk F₁ N₁ ⟨rfl, r, t1, t2, t3, e2, hm0, hm1, hm2, hm3, hbk⟩
        rw [map_at hm3, map_at hm2, map_at hm1, map_at hm0] at F₁
        have hrp : p + r < x.cps.size := by
          rcases Nat.lt_or_ge (p + r) x.cps.size with h | h
          · exact h
          · have hb := hbk (x.cps.size - 1 - p) (by omega)
            rw [hcl, show x.cps.size - 1 - (x.cps.size - 1 - p) = p by omega] at hb
            rw [hb] at hp; exact absurd (Option.some.inj hp).symm hc
        have hib := item_blank (x := x) (i := x.cps.size - 1 - r) (by omega)
        rw [show ((x.cps.size - 1 - r : Nat) : Int) = (x.cps.size : Int) - 1 - ((r : Nat) : Int) by omega] at hib
        k_steps
        · exact ⟨_, _, _, _, n₁ - 1, rfl, by k_asm, News.nil, by omega, rfl, r + 1, _, _, _, by omega, congrArg (fun z => some (Value.int z _)) (by omega : (x.cps.size : Int) - 1 - ((r : Nat) : Int) - 1 = (x.cps.size : Int) - 1 - ((r + 1 : Nat) : Int)), rfl, congrArg (fun z => some (Value.int z _)) (by omega : (n₁ : Int) - 1 = ((n₁ - 1 : Nat) : Int)), rfl, fun j hj => by
            rcases Nat.lt_or_ge j r with h | h
            · exact hbk j h
            · obtain rfl : j = r := by omega
              rw [hcl]
              exact hib.mp (by assumption)⟩
        · exact ⟨rfl, h, _, m₁, r, n₁, t1, t2, t3, rfl, F₁, e2, hbk, .inr ⟨_, by rw [hcl]; exact code_at (by omega), fun e => by
            have := hib.mpr ((code_at (by omega)).trans (congrArg some e))
            simp_all⟩⟩
        · exact ⟨rfl, h, _, m₁, r, n₁, t1, t2, t3, rfl, F₁, e2, hbk, .inl (by omega)⟩
      · obtain ⟨rfl, h, tk, m', r, n₁, t1, t2, t3, rfl, F₁, e2, hbk, hs2⟩ := hq
        have N₁ : News s.heap L' h [] := News.nil
        have hrp : p + r < x.cps.size := by
          rcases Nat.lt_or_ge (p + r) x.cps.size with h | h
          · exact h
          · have hb := hbk (x.cps.size - 1 - p) (by omega)
            rw [hcl, show x.cps.size - 1 - (x.cps.size - 1 - p) = p by omega] at hb
            rw [hb] at hp; exact absurd (Option.some.inj hp).symm hc
        k_steps
        have hsc := slice_codes (x := x) (i := (i : Int)) (j := (x.cps.size : Int) - 1 - (r : Int) + 1) (by omega) (by omega) (by omega)
        rw [show ((i : Nat) : Int).toNat = i by omega, show ((x.cps.size : Int) - 1 - (r : Int) + 1 - (i : Int)).toNat = (codesOf x).length - r - i by omega] at hsc
        refine ret _ _ _ _ i r ?_ ⟨by omega, hfr, ?_, hbk, ?_, by omega⟩ hsc
        · exact Fr.keep (by k_asm)
        · rcases hs1 with h | h
          · exact .inl (by omega)
          · exact .inr h
        · rcases hs2 with h | h
          · exact .inl (by omega)
          · exact .inr h)
end
end Mine
end
section
open PySem PySem.W PyProof.Rows PySem.Calls PySem.Spec
namespace Mine
/-- the menu -/
def pick (x : Int) : Int := [32, 32, 96, 2080, (x.fdiv 6).fmod 4096, 5].getD (x.fmod 6).toNat 0
def srcOf (ns : List Int) : List Int := ns.take 2 ++ [0, 5, 40] ++ (ns.drop 2).take 2 ++ [2, 1].drop ((ns.drop 2).take 2).length
def drawnOf (ns : List Int) : List Int := (srcOf ns).map pick
section
variable {prog : Program} {w : World} {A : Around} {E : Value → Shared → Prop} {s : Shared}
theorem newList_el {vs : List Value} {Q : Value → Shared → Prop} (h : ∀ D h', (∀ b o, s.heap.get? b = some o → h'.get? b = some o) → h'.get? D = some (listOf vs.toArray 0) → Q (.ref D) { s with heap := h' }) (hsz : vs.length ≤ sizeLine) :
    wpAny (model prog w) A (newList vs) Q E s :=
  wpAny_newObj_type (h _ _ (fun _ _ e => Heap.get?_push_of_some _ e) (Heap.get?_push_size _ rfl)) (by show vs.toArray.size ≤ sizeLine; rw [List.size_toArray]; exact hsz)
theorem item_el {value slice : PySem.Expr} {l : Addr} {its : Array Value} {n : Nat} {k : Int} {u : Tok} {v : Value} {Q : Value → Shared → Prop}
    (hl : s.heap.get? l = some (listOf its n)) (h0 : 0 ≤ k) (hhi : k < 2 ^ 63) (hx : its[k.toNat]? = some v) (h : Q v s)
    (hs : subscripted slice false (.ref l) (.int k u) = operate [.ref l, .int k u] (getItem (.ref l) (.int k u))) :
    wpAny (model prog w) A (subscriptTail value slice (.ref l) (.int k u)) Q E s :=
  have hl' : s.heap.IsList l its := ⟨_, hl, rfl, n, rfl⟩
  tail_any hl'.typeIs slot_list_getitem.lookup (wpAny_getItem_list hl' h0 hhi hx h) hs
end
theorem srcOf_len (ns : List Int) : (srcOf ns).length ≤ 7 := by
  simp only [srcOf, List.length_append, List.length_take, List.length_drop, List.length_cons, List.length_nil]
  omega
theorem srcOf_eq (ns : List Int) : List.take 2 ns ++ [0, 5, 40] ++ List.take (min 4 ns.length - 2) (List.drop 2 ns) ++ List.drop (((List.take (min 4 ns.length - 2) (List.drop 2 ns)).length : Nat) : Int).toNat [2, 1] = srcOf ns := by
  have h : List.take (min 4 ns.length - 2) (List.drop 2 ns) = (ns.drop 2).take 2 := by
    match ns with
    | [] => rfl
    | [_] => rfl
    | [_, _] => rfl
    | [_, _, _] => rfl
    | _ :: _ :: _ :: _ :: r => simp
  rw [h]
  simp [srcOf]
section
local macro_rules | `(tactic| walk_at "eval ListComp") => `(tactic| refine hold ?_)
local macro_rules | `(tactic| walk_at "subscriptTail") => `(tactic| ((with_reducible show wpAny _ _ (subscriptTail (PySem.Expr.List _ _) _ (Value.ref _) (Value.int _ _)) _ _ _); refine hold ?_))
local macro_rules | `(tactic| kmk_nums) => `(tactic| with_reducible first | exact kmk_from (by l_ints) (by omega) | exact kmk_upto (by l_ints) (by omega) | exact kmk_run (by l_ints) (by omega) (by omega))
local macro_rules | `(tactic| walk_at "subscriptTail") => `(tactic| ((with_reducible show wpAny _ _ (subscriptTail (PySem.Expr.List _ _) (PySem.Expr.Slice _ _ _ _) _ _) _ _ _); k_dflt (refine kba_turn (value' := PySem.Expr.Name (PySem.Str.ofString "_") ⟨0, 0, 0, 0⟩) (fun _ => rfl) ?_)))
local macro_rules | `(tactic| walk_at "newList cons int cons") => `(tactic| ((with_reducible show wpAny _ _ (newList (_ :: _ :: _ :: _ :: _ :: _)) _ _ _); refine hold ?_))
local macro_rules | `(tactic| walk_at "eval Name") => `(tactic| ((with_reducible show wpAny _ _ (eval (Expr.Name _ _) (compEnvC _ _ _ _)) _ _ _); first
  | (refine' el_var ?n ?x ?_; (case n => assumption); (case x => assumption))
  | (k_dflt (refine' el_def ?X ?T ?e ?_; (case X => assumption); (case T => assumption); (case e => k_is)))
  | (k_dflt (refine' el_built ?X ?T ?e ?v ?n ?_; (case X => assumption); (case T => assumption); (case e => k_is); (case v => boot_by_name); (case n => decide)))))
set_option maxHeartbeats 4000000 in
theorem drawn_call {w : World} {dp un : Nat} {gd : Option (List Code)} {fr : Option (List Env)} {s : Shared} {mean : ExcName → Option Value} {mg mb : Str → Option Value} {l : Addr} {vs : List Value} {ns : List Int}
    {Q E : Value → Shared → Prop} :
    (hd.heap_39 w.params).In s.heap → Top hd.view_39 (looseW hd.view_39 []) mean mg mb s.heap → dp < recursionLimit → un < cLine →
    s.heap.IsList l vs.toArray → IntsAre vs ns → ns.length ≤ 63 → (PyData.list (ns.map PyData.int)).layable0 = true →
    (∀ r ws k h' tk', (∀ b o, s.heap.get? b = some o → h'.get? b = some o) → s.heap.get? r = none → h'.get? r = some (listOf ws k) → IntsAre ws.toList (drawnOf ns) → Q (.ref r) { s with heap := h', toks := tk' }) →
    wpAny (model Challenge.rw_pe0017_01.row.prog w) { handled := none, depth := dp, frames := fr, guards := gd, units := un } (call (.ref 33) [.ref l]) Q E s := by
  k_fill
  w_top off
  intro X T hd hu hl hI hlen hlay ret
  w_strict (
    refine wpAny_call ?_
    k_dflt (refine' enterP ?k3 ?k4 ?k6 ?k7 ?k8 ?k9 ?kB ?_ ?c2 ?c3 ?c4 ?c5; (case k3 => exact X); (case k4 => exact T); (case k6 => k_is); (case k7 => k_is); (case k8 => exact hd); (case k9 => exact BindsTo.of_eq rfl); (case c5 => decide); (case kB => exact locs rfl); (case c2 => exact rfl); (case c3 => exact rfl); (case c4 => exact rfl); k_whole; intro L' h' F' N'; (try dsimp only); (try k_fold))
    k_steps
    refine Hold.out ?_
    k_dflt (refine' comp_rule (fs := []) (Z := fun i v _ => ∃ t, v = .int (pick ((srcOf ns)[i]?.getD 0)) t) ?g1 ?g2 ?g3 ?g4 ?g5 ?_ ?g6; (case g1 => exact rfl); (case g2 => decide); (case g3 => exact rfl); (case g4 => decide); (case g5 => exact rfl); (case g6 => intro _; rfl))
    k_steps
    (with_reducible rename News _ _ _ _ => N2)
    (with_reducible rename Fr _ _ _ _ => F2)
    (with_reducible rename IntsAre _ (_ ++ _) => hI2)
    rw [srcOf_eq] at hI2
    have hsl := srcOf_len ns
    refine compIt_list rfl ⟨_, (N2 _ (.head _)).1, rfl, 0, rfl⟩ List.not_mem_nil (by show _ ≤ 2 ^ 24; rw [List.size_toArray, ints_len hI2]; omega) (fun _ h => nomatch h) ?_ ?_
    · intro i v s' C m₂ E' hi hv hs' Ts hC hCf hN hx
      obtain ⟨g1, tk1, rfl⟩ := hs'
      obtain ⟨n, t, hn, rfl⟩ := ints_at hI2 i v (by simpa using hv)
      have hmem : n ∈ srcOf ns := List.mem_of_getElem? hn
      have hn1 : (srcOf ns)[i]?.getD 0 = n := by rw [hn]; rfl
      k_steps
      refine Hold.out ?_
      refine newList_el (fun D1 h1 hk1 hD1 => ?_) (by show 6 ≤ 2 ^ 24; decide)
      dsimp only at hN hk1
      replace hN := hN.at' fun o e => hk1 C o e
      k_steps
      refine Hold.out ?_
      have h60 : 0 ≤ n.fmod 6 := Int.fmod_nonneg_of_pos _ (by decide)
      have h61 : n.fmod 6 < 6 := Int.fmod_lt_of_pos _ (by decide)
      obtain ⟨j, hj6, hj⟩ : ∃ j : Nat, j < 6 ∧ n.fmod 6 = (j : Int) := ⟨(n.fmod 6).toNat, by omega, by omega⟩
      have hpk : ∃ t', ([Value.int 32 tk1, Value.int 32 (tk1 + 1), Value.int 96 (tk1 + 1 + 1), Value.int 2080 (tk1 + 1 + 1 + 1), Value.int ((n.fdiv 6).fmod 4096) (tk1 + 1 + 1 + 1 + 1 + 1 + 1 + 1), Value.int 5 (tk1 + 1 + 1 + 1 + 1 + 1 + 1 + 1 + 1)] : List Value)[(n.fmod 6).toNat]? = some (.int (pick n) t') := by
        unfold pick
        rw [hj]
        match j, hj6 with
        | 0, _ => exact ⟨_, rfl⟩
        | 1, _ => exact ⟨_, rfl⟩
        | 2, _ => exact ⟨_, rfl⟩
        | 3, _ => exact ⟨_, rfl⟩
        | 4, _ => exact ⟨_, rfl⟩
        | 5, _ => exact ⟨_, rfl⟩
      obtain ⟨t', hpk⟩ := hpk
      refine item_el hD1 h60 (by omega) (by simpa using hpk) ?_ (by with_unfolding_all rfl)
      exact ⟨_, _, [], rfl, Turns.of_stays hk1, (fun _ h => nomatch h), t', by rw [hn1]⟩
    · intro D1 ys oss h1 tk1 T1 hD1 hl1 hz1 _
      dsimp only at T1 hD1
      have hlen1 : ys.length = (srcOf ns).length := by rw [hz1.len, List.size_toArray, ints_len hI2]
      refine ret D1 ys.toArray ys.length h1 tk1 (fun b o e => T1.other b o (F2.keep b o e) List.not_mem_nil) ?_ hl1 ?_
      · cases q : s.heap.get? D1 with
        | none => rfl
        | some o => rw [F2.keep _ _ q] at hD1; cases hD1
      · refine ints_of (by rw [hlen1, drawnOf, List.length_map]) fun i n hn => ?_
        have hi : i < (srcOf ns).length := by
          rcases Nat.lt_or_ge i (srcOf ns).length with h | h
          · exact h
          · rw [drawnOf, List.getElem?_eq_none (by rw [List.length_map]; exact h)] at hn; cases hn
        obtain ⟨y, os, h1, _, t, h3⟩ := hz1.at_ i (by rw [List.size_toArray, ints_len hI2]; exact hi)
        refine ⟨t, ?_⟩
        have e : (drawnOf ns)[i]? = some (pick ((srcOf ns)[i]?.getD 0)) := by simp [drawnOf, hi]
        rw [e] at hn
        rw [h1, h3, ← Option.some.inj hn])
end
end Mine
end
section
open PySem PySem.W PyProof.Rows PySem.Calls PySem.Spec
namespace Mine
/-- one row of the answer: a tuple, and its list -/
def RowZ (lens : Nat → Int) (nums : Nat → List Int) (k : Nat) (v : Value) (os : List (Addr × Obj)) : Prop :=
  ∃ (t l : Addr) (tk : Tok) (ws : Array Value) (n n2 : Nat), v = .ref t ∧ os = [(t, { cls := .type "tuple", data := .seq #[.int (lens k) tk, .ref l] n2 }), (l, listOf ws n)] ∧ IntsAre ws.toList (nums k)
theorem strs_of {cs : List Int} : ∀ {vs : List Value}, vs.length = cs.length → (∀ (i : Nat) (c : Int), cs[i]? = some c → ∃ t, vs[i]? = some (.str (signOf c) t)) → StrsAre vs (cs.map signOf) := by
  induction cs with
  | nil => intro vs h _; cases vs with
    | nil => exact .nil
    | cons _ _ => simp at h
  | cons c cs ih =>
    intro vs h hh
    cases vs with
    | nil => simp at h
    | cons v vs =>
      obtain ⟨t, e⟩ := hh 0 c rfl
      have ev : v = .str (signOf c) t := by simpa using e
      subst ev
      exact .cons _ t (ih (by simpa using h) fun i m hm => hh (i + 1) m (by simpa using hm))
theorem sum_signs (cs : List Int) : ((cs.map signOf).map (·.length)).sum = cs.length := by
  induction cs with
  | nil => rfl
  | cons c cs ih => rw [List.map_cons, List.map_cons, List.sum_cons, ih, List.length_cons]; show 1 + _ = _; omega
theorem empty_is : Str.ofString "" = Str.empty := by decide +kernel
section
variable {prog : Program} {w : World} {A : Around} {E : Value → Shared → Prop} {s : Shared} {h₀ : Heap} {L C : Addr} {m m' : Str → Option Value} {news : List (Addr × Obj)} {scope : Scope} {cl : List (Str × Addr)} {env : Env} {x : Str} {pos : Pos} {v : Value} {Q : Value → Shared → Prop} {c : Addr} {o : Obj}
theorem newTuple_el {vs : List Value} {Q : Value → Shared → Prop} (h : ∀ D h', s.heap.get? D = none → (∀ b o, s.heap.get? b = some o → h'.get? b = some o) → h'.get? D = some { cls := .type "tuple", data := .seq vs.toArray 0 } → Q (.ref D) { s with heap := h' }) (hsz : vs.length ≤ sizeLine) :
    wpAny (model prog w) A (newTuple vs) Q E s :=
  wpAny_newObj_type (h _ _ (Heap.get?_none_of_le (Nat.le_refl _)) (fun _ _ e => Heap.get?_push_of_some _ e) (Heap.get?_push_size _ rfl)) (by show vs.toArray.size ≤ sizeLine; rw [List.size_toArray]; exact hsz)
theorem el_cell (hc : cl.lookup x = some c) (ho : s.heap.get? c = some o) (hd : o.data = .cell (some v)) (h : Q v s)
    (hk : (compEnvC scope cl C env).scope.kind = .function := by rfl) (hx : (compEnvC scope cl C env).kindOf x = some .cell := by rfl) (hb : (x == ("__debug__" : Str)) = false := by decide) :
    wpAny (model prog w) A (eval (.Name x pos) (compEnvC scope cl C env)) Q E s := wpAny_Name (wpAny_loadName_cell hk hx hc ⟨o, ho, hd⟩ h) hb
theorem fr_assigned {g h : Heap} (F : Fr h₀ L g m) (k : ∀ b o, g.get? b = some o → b ≠ L → h.get? b = some o) (hn : h.Ns L m') : Fr h₀ L h m' :=
  ⟨hn, fun b o e => k b o (F.keep b o e) (fun q => by rw [q, kts_self F] at e; cases e), F.above⟩
theorem news_assigned {g h : Heap} (N : News h₀ L g news) (k : ∀ b o, g.get? b = some o → b ≠ L → h.get? b = some o) : News h₀ L h news :=
  fun p hp => ⟨k _ _ (N p hp).1 (N p hp).2.1, (N p hp).2⟩
end
section
local macro_rules | `(tactic| walk_at "call builtin:str.join") => `(tactic| refine hold ?_)
local macro_rules | `(tactic| walk_at "newTuple") => `(tactic| refine hold ?_)
local macro_rules | `(tactic| walk_at "call builtin:len") => `(tactic| ((with_reducible show wpAny _ _ (call (Value.builtin "len") [Value.str _ _]) _ _ _); refine P.len_str (by omega) ?_))
local macro_rules | `(tactic| walk_at "call builtin:chr") => `(tactic| refine chr_of_range (by omega) (by omega) ?_)
local macro_rules | `(tactic| walk_at "eval ListComp") => `(tactic| refine hold ?_)
local macro_rules | `(tactic| walk_at "exec Assign cons ListComp") => `(tactic| refine hold ?_)
local macro_rules | `(tactic| walk_at "call ref") => `(tactic| refine hold ?_)
local macro_rules | `(tactic| walk_at "eval Name") => `(tactic| ((with_reducible show wpAny _ _ (eval (Expr.Name _ _) (compEnvC _ _ _ _)) _ _ _); first
  | (refine' el_var ?n ?x ?_; (case n => assumption); (case x => assumption))
  | (k_dflt (refine' el_cell ?c ?o ?d ?_; (case c => exact rfl); (case o => assumption); (case d => assumption)))
  | (k_dflt (refine' el_def ?X ?T ?e ?_; (case X => assumption); (case T => assumption); (case e => k_is)))
  | (k_dflt (refine' el_built ?X ?T ?e ?v ?n ?_; (case X => assumption); (case T => assumption); (case e => k_is); (case v => boot_by_name); (case n => decide)))))
set_option maxHeartbeats 4000000 in
theorem run_call {w : World} {dp un : Nat} {gd : Option (List Code)} {env : Env} {outer : List Env} {A₀ : Around} {base h₀ : Heap} {L : Addr} {m : Str → Option Value} {s : Shared} {mean : ExcName → Option Value} {mg mb : Str → Option Value} {l : Addr} {vs : List Value} {ds : List Int} {lens : Nat → Int} {nums : Nat → List Int}
    {Q E : Value → Shared → Prop} :
    Below A₀ base outer h₀ → Fr h₀ L s.heap m → (hd.heap_39 w.params).In base → Top hd.view_39 (looseW hd.view_39 []) mean mg mb base → KtsDicts (outer.filterMap (·.frame)) h₀ → env.frame = some L → env.scope.kind = .function → dp + 3 < recursionLimit → un + 24 < cLine →
    s.heap.IsList l vs.toArray → IntsAre vs ds → ds.length ≤ 20 → (∀ n ∈ ds, 0 ≤ n ∧ n < 4096) → (∃ (p : Nat) (c : Int), (octs ds)[p]? = some c ∧ c ≠ 32) →
    (∀ k i r, k < 6 → StripR (octs ds) k i r → Cut (((octs ds).drop i).take ((octs ds).length - r - i)) (nums k) ∧ (((((octs ds).drop i).take ((octs ds).length - r - i)).length : Nat) : Int) = lens k) →
    (∀ D ys oss h' tk', Turns (L :: outer.filterMap (·.frame)) s.heap h' → s.heap.get? D = none → h'.get? D = some (LCg.lst ys) → AllZ 6 (RowZ lens nums) ys oss → (∀ os ∈ oss, ∀ q ∈ os, h'.get? q.1 = some q.2 ∧ s.heap.get? q.1 = none ∧ q.1 ≠ D) → Q (.ref D) { s with heap := h', toks := tk' }) →
    wpAny (model Challenge.rw_pe0017_01.row.prog w) { handled := none, depth := dp, frames := some (env :: outer), guards := gd, units := un } (call (.ref 50) [.ref l]) Q E s := by
  k_fill
  w_top off
  intro B F XB TB D hf hk hd hu hl hI hlen hb hnb hcut ret
  have hst : ∀ b o, base.get? b = some o → s.heap.get? b = some o := fun b o e => F.keep b o (B.stays b o e)
  have X := XB.keeps hst
  have T := TB.keeps hst
  have G := groundT (A := { handled := none, depth := dp, frames := some (env :: outer), guards := gd, units := un }) B F D rfl hf hk
  obtain ⟨B', D'⟩ := G
  w_strict (
    refine wpAny_call ?_
    k_dflt (refine' enterC ?k3 ?k4 ?k6 ?k7 ?k8 ?k9 ?kB ?kD ?_ ?c2 ?c3 ?c4; (case k3 => exact X); (case k4 => exact T); (case k6 => k_is); (case k7 => k_is); (case k8 => ktr_room); (case k9 => exact BindsTo.of_eq rfl); (case kB => exact rfl); (case kD => decide +kernel); (case c2 => exact rfl); (case c3 => exact rfl); (case c4 => exact rfl); k_whole; intro L' h' tk' cells' F' N' Y'; k_cells Y'; (try simp only [List.cons_append, List.nil_append] at N'); (try dsimp only); (try k_fold))
    k_steps
    refine Hold.out ?_
    k_dflt (refine' comp_rule (fs := []) (Z := fun i v _ => ∃ t, v = .str (signOf ((octs ds)[i]?.getD 0)) t) ?g1 ?g2 ?g3 ?g4 ?g5 ?_ ?g6; (case g1 => exact rfl); (case g2 => decide); (case g3 => exact rfl); (case g4 => decide); (case g5 => exact rfl); (case g6 => intro _; rfl))
    k_steps
    refine Hold.out ?_
    have hlen2 := octs_len2 ds
    refine octets_call (X.keeps F'.keep) (T.keeps F'.keep) (by ktr_room) (by ktr_units) (stays_list F'.keep hl) hI hlen hb ?_
    intro r ws k h1 tk1 hk1 hr1 hobj1 hI1
    dsimp only at hk1 hr1
    have hwl : ws.size = (octs ds).length := by rw [← ints_len hI1, Array.length_toList]
    refine compIt_list rfl ⟨_, hobj1, rfl, k, rfl⟩ List.not_mem_nil (by show ws.size ≤ 2 ^ 24; omega) (fun _ h => nomatch h) ?_ ?_
    · intro i v s' C m₂ E' hi hv hs' Ts hC hCf hN hx
      obtain ⟨g1, tk2, rfl⟩ := hs'
      obtain ⟨c, t, hc, rfl⟩ := ints_at hI1 i v (by simpa using hv)
      have hcb := octs_bound hb c (List.mem_of_getElem? hc)
      have kg : ∀ b o, s.heap.get? b = some o → g1.get? b = some o := fun b o e => Ts.other b o (hk1 b o (F'.keep b o e)) List.not_mem_nil
      have X2 := X.keeps kg
      have T2 := T.keeps kg
      k_steps
      exact ⟨_, _, [], rfl, Turns.of_stays fun _ _ e => e, (fun _ h => nomatch h), _, by rw [hc]; rfl⟩
    intro D1 ys oss h2 tk2 T2 hD1 hl1 hz1 _
    dsimp only at T2 hD1
    have k2 : ∀ b o, h'.get? b = some o → h2.get? b = some o := fun b o e => T2.other b o (hk1 b o e) List.not_mem_nil
    have F2 := F'.keeps k2
    have N2 := N'.grown k2
    clear F' N'
    have hyl : ys.length = (octs ds).length := by rw [hz1.len, hwl]
    have hstr : StrsAre ys ((octs ds).map signOf) := strs_of hyl fun i c hc => by
      have hi : i < ws.size := by
        rcases Nat.lt_or_ge i ws.size with h | h
        · exact h
        · rw [List.getElem?_eq_none (by omega)] at hc; cases hc
      obtain ⟨y, os, h1, _, t, h3⟩ := hz1.at_ i hi
      exact ⟨t, by rw [h1, h3, hc]; rfl⟩
    k_steps
    refine Hold.out ?_
    refine join_listC ⟨_, hl1, rfl, _, rfl⟩ (by simpa using hstr) (by decide) (by rw [sum_signs, List.length_map]; omega) ?_
    intro t3 tk3
    have hjc := join_codes (cs := octs ds) fun c hc => (octs_bound hb c hc).1
    rw [empty_is]
    generalize Txt.join _ _ = text at hjc ⊢
    k_steps
    refine Hold.out ?_
    k_dflt (refine' comp_assign (Z := fun i v _ => ∃ y t, v = .str y t ∧ ∃ a b, StripR (octs ds) i a b ∧ codesOf y = ((octs ds).drop a).take ((octs ds).length - b - a)) ?g0 ?g1 ?g2 ?g3 ?g4 ?g5 ?g7 rfl ?g8 ?_ ?g6; (case g0 => exact rfl); (case g1 => exact rfl); (case g2 => decide); (case g3 => exact rfl); (case g4 => decide); (case g5 => exact rfl); (case g6 => intro _; rfl); (case g7 => exact rfl); (case g8 => exact rfl))
    k_steps
    (with_reducible rename IsRange _ _ _ _ _ _ _ _ => hR)
    (with_reducible rename Fr _ _ _ _ => F3)
    (with_reducible rename News _ _ _ _ => N3)
    (with_reducible rename Obj.data _ = Data.cell _ => hcd)
    have htl : text.cps.size = (octs ds).length := by rw [← codesOf_len, hjc]
    obtain ⟨p, c, hp, hc⟩ := hnb
    refine compIt_range (n := 6) rfl hR (by decide) (by decide) (by decide) (fun _ h => nomatch h) ?_ ?_
    · intro i v s' C m₂ E' hi hv hs' Ts hC hCf hN hx
      obtain ⟨g1, tk4, rfl⟩ := hs'
      obtain ⟨t4, rfl⟩ := hv
      dsimp only at Ts
      have kg : ∀ b o, s.heap.get? b = some o → g1.get? b = some o := fun b o e => Ts.other b o (F3.keep b o e) List.not_mem_nil
      have X2 := X.keeps kg
      have T2 := T.keeps kg
      have hco := Ts.other _ _ (N3 _ (.head _)).1 List.not_mem_nil
      k_steps
      refine Hold.out ?_
      refine strip_call (p := p) (c := c) X2 T2 (by ktr_room) (by ktr_units) (by omega) (by omega) (by rw [hjc]; exact hp) hc ?_
      intro y t5 h5 tk5 a b hk5 hS hy
      rw [hjc] at hS hy
      exact ⟨_, _, [], rfl, Turns.of_stays hk5, (fun _ h => nomatch h), y, t5, rfl, a, b, hS, hy⟩
    refine ⟨_, F3.ns, ?_⟩
    intro D2 ys2 oss2 h6 tk6 k6 hD2 hl2 hz2 _ hn6
    dsimp only at k6 hD2
    have F6 := fr_assigned F3 k6 hn6
    have N6 : News s.heap L' h6 [(D2, LCg.lst ys2)] := fun q hq => by
      obtain rfl := List.mem_singleton.mp hq
      refine ⟨hl2, fun z => ?_, ?_⟩
      · obtain ⟨o, _, _, e, _⟩ := F3.ns
        have z' : D2 = L' := z
        rw [z', e] at hD2; cases hD2
      · cases q : s.heap.get? D2 with
        | none => rfl
        | some o => rw [F3.keep _ _ q] at hD2; cases hD2
    clear F3 N3 hR
    k_steps
    refine Hold.out ?_
    have efs : (env :: outer).filterMap (·.frame) = L :: outer.filterMap (·.frame) := by rw [List.filterMap_cons, hf]
    k_dflt (refine' comp_rule (fs := L' :: (env :: outer).filterMap (·.frame)) (Z := RowZ lens nums) ?g1 ?g2 ?g3 ?g4 ?g5 ?_ ?g6; (case g1 => exact rfl); (case g2 => decide); (case g3 => exact rfl); (case g4 => decide); (case g5 => exact rfl); (case g6 => intro _; rfl))
    k_steps
    have hfx : ∀ b ∈ L' :: (env :: outer).filterMap (·.frame), ∃ o, h6.get? b = some o := fun b hb => by
      rcases List.mem_cons.mp hb with rfl | hb
      · obtain ⟨o, _, _, e, _⟩ := F6.ns
        exact ⟨o, e⟩
      · obtain ⟨o, _, _, e, _⟩ := D' b hb
        exact ⟨o, F6.keep _ _ e⟩
    have hDf : D2 ∉ L' :: (env :: outer).filterMap (·.frame) := fun hb => by
      rcases List.mem_cons.mp hb with e | hb
      · exact (N6 _ (.head _)).2.1 e
      · obtain ⟨o, _, _, e, _⟩ := D' _ hb
        have := (N6 _ (.head _)).2.2
        rw [e] at this; cases this
    refine compIt_list rfl ⟨_, (N6 _ (.head _)).1, rfl, _, rfl⟩ hDf (by show ys2.toArray.size ≤ 2 ^ 24; rw [List.size_toArray, hz2.len]; decide) hfx ?_ ?_
    · intro i v s' C m₂ E' hi hv hs' Ts hC hCf hN hx
      obtain ⟨g1, tk7, rfl⟩ := hs'
      dsimp only at Ts hN
      have hi6 : i < 6 := by rw [List.size_toArray, hz2.len] at hi; exact hi
      obtain ⟨y0, os0, hy0, _, y, ty, rfl, a, b, hS, hyc⟩ := hz2.at_ i hi6
      obtain rfl : v = .str y ty := by
        have : ys2[i]? = some v := by simpa using hv
        rw [hy0] at this; exact (Option.some.inj this).symm
      obtain ⟨hcu, hle⟩ := hcut i a b hi6 hS
      rw [← hyc] at hcu hle
      obtain ⟨g0, K0, F0, N0, B0, X0, T0, D0⟩ := turned (s := { s with heap := h6 }) B' F6 N6 XB TB D' Ts
      have X2 := X0.keeps F0.keep
      have T2 := T0.keeps F0.keep
      have hyl : y.cps.size ≤ 100 := by
        have h1 := codesOf_len y
        rw [hyc, List.length_take, List.length_drop] at h1
        omega
      have hxl : y.length = y.cps.size := rfl
      have hasc : y.cps.all (· < 128) = true := by
        rw [Array.all_eq_true]
        intro j hj
        have h1 := code_at (x := y) hj
        have h2 : ((y.cps[j] : Nat) : Int) ∈ octs ds := by
          have := List.mem_of_getElem? h1
          rw [hyc] at this
          exact List.mem_of_mem_drop (List.mem_of_mem_take this)
        have h3 := octs_bound hb _ h2
        exact decide_eq_true (by omega)
      have hyv : ((y.length : Nat) : Int) = lens i := by rw [← hle, codesOf_len]; rfl
      k_steps
      refine Hold.out ?_
      refine read_call (nums := nums i) B0 F0 XB TB D0 rfl rfl (by ktr_room) (by ktr_units) hyl hasc hcu ?_
      intro r ws n h8 tk8 T8 hr8 ho8 hI8
      dsimp only at T8 hr8
      k_steps
      refine Hold.out ?_
      refine newTuple_el (fun D3 h9 hD3 hk9 ho9 => ?_) (by show 2 ≤ 2 ^ 24; decide)
      dsimp only at hD3 hk9
      rw [hyv] at ho9
      refine ⟨h9, tk8, [(D3, { cls := .type "tuple", data := .seq #[.int (lens i) (tk7 + 1), .ref r] 0 }), (r, listOf ws n)], rfl, T8.trans (Turns.of_stays hk9), fun q hq => ?_, D3, r, tk7 + 1, ws, n, 0, rfl, rfl, hI8⟩
      rcases List.mem_cons.mp hq with rfl | hq
      · exact ⟨ho9, none_before T8 hD3⟩
      · obtain rfl := List.mem_singleton.mp hq
        exact ⟨hk9 _ _ ho8, hr8⟩
    · intro D4 ys4 oss4 h10 tk10 T10 hD4 hl4 hz4 hos4
      dsimp only at T10 hD4 hos4
      rw [List.size_toArray, hz2.len] at hz4
      have new6 : ∀ b, h6.get? b = none → s.heap.get? b = none := fun b e => by
        cases q : s.heap.get? b with
        | none => rfl
        | some o => rw [F6.keep _ _ q] at e; cases e
      rw [efs] at T10
      have nL : s.heap.get? L' = none := kts_self F6
      refine ret D4 ys4 oss4 h10 tk10 ⟨fun b o e nm => T10.other b o (F6.keep b o e) (fun hm => ?_), fun b o e hm => T10.frame b o (F6.keep b o e) (.tail _ hm)⟩ (new6 _ hD4) hl4 hz4 fun os h1 q h2 => ?_
      · rcases List.mem_cons.mp hm with z | z
        · rw [z, nL] at e; cases e
        · exact nm z
      · obtain ⟨a1, a2, a3⟩ := hos4 os h1 q h2
        exact ⟨a1, new6 _ a2, a3⟩)
end
end Mine
end
section
open PySem PySem.W PyProof.Rows PySem.Calls PySem.Spec
namespace Mine
open LCg (lst lst_snoc)
/-- the numbers below n that pass -/
def passing (tb : Nat → Bool) (n : Nat) : List Int := ((List.range n).filter tb).map fun j : Nat => (j : Int)
theorem passing_succ (tb : Nat → Bool) (n : Nat) : passing tb (n + 1) = passing tb n ++ (if tb n then [(n : Int)] else []) := by
  unfold passing
  rw [List.range_succ, List.filter_append, List.map_append]
  congr 1
  by_cases h : tb n = true
  · simp [h]
  · simp [h]
theorem passing_first {tb : Nat → Bool} {n f : Nat} (hf : f < n) (h1 : tb f = true) (h0 : ∀ j, j < f → tb j = false) : ∃ r, passing tb n = (f : Int) :: r := by
  induction n with
  | zero => exact absurd hf (Nat.not_lt_zero _)
  | succ n ih =>
    rw [passing_succ]
    by_cases h : f < n
    · obtain ⟨r, e⟩ := ih h
      exact ⟨_, by rw [e]; rfl⟩
    · obtain rfl : f = n := by omega
      have e0 : passing tb f = [] := by
        unfold passing
        rw [List.filter_eq_nil_iff.mpr fun j hj => by rw [h0 j (List.mem_range.mp hj)]; decide]
        rfl
      rw [e0, h1]
      exact ⟨[], rfl⟩
section
variable {prog : Program} {w : World} {A : Around} {E : Value → Shared → Prop} {s s₁ : Shared} {env : Env}
theorem filt_block {iter ct : Expr} {x : Str} {px pe : Pos} {scope : Scope} {cl : List (Str × Addr)} {pos : Pos} {I : Addr} {fp : List Addr} {n : Nat} {St : Nat → Heap → Prop} {h₂ : Heap} (tb : Nat → Bool)
    {RR : Value → Addr → Result → Shared → Prop}
    (W : Walks prog w A I fp [I] n (fun i v => ∃ t, v = .int ((i : Nat) : Int) t) St) (hsz : n ≤ sizeLine) (hst : St 0 h₂) (hfp : ∀ b ∈ fp, b < h₂.objs.size) (hI : s₁.heap.get? I = none) (hk : ∀ b o, s₁.heap.get? b = some o → h₂.get? b = some o)
    (hcell : ∀ y ∈ scope.names, y.2 ≠ .cell) (hkind : scope.kind = .function) (hx : scope.names.lookup x = some .local)
    (hvar : ∀ C, (compEnvC scope cl C env).scope.kind = .function ∧ (compEnvC scope cl C env).kindOf x = some .local) (hdb : (x == ("__debug__" : Str)) = false)
    (el : ∀ i t s' C m₂ E', i < n → (∃ h tk, s' = { s₁ with heap := h, toks := tk }) → (∀ b o, s₁.heap.get? b = some o → s'.heap.get? b = some o) → s'.heap.Ns C m₂ → m₂ x = some (.int ((i : Nat) : Int) t) →
      wpAny (model prog w) A (isTrue ct (compEnvC scope cl C env) (eval ct (compEnvC scope cl C env))) (fun ok s'' => ok = tb i ∧ ∃ tk, s'' = { s' with toks := tk }) E' s')
    (hRR : ∀ D C m' ys h tk, (∀ b o, s₁.heap.get? b = some o → h.get? b = some o) → s₁.heap.get? D = none → s₁.heap.get? C = none → C ≠ D → h.Ns C m' → h.get? D = some (lst ys) → IntsAre ys (passing tb n) →
      RR (.ref D) C (.ok .next) { s₁ with heap := h, toks := tk }) {E₁ : Value → Shared → Prop} :
    wpAny (model prog w) A (newList []) (fun acc s₃ => wpAny (model prog w) A (newFunctionEnv scope env.globals cl [] env.qual none .none (some env)) (fun cenv s₄ =>
      codeAny (model prog w) A (.compStart (.ListComp (.Name x pe) [⟨.Name x px, iter, [ct], 0⟩] scope pos) 0 (.ref I) acc { cenv with scope := relabel scope env }) (RR acc cenv.locals) s₄) E₁ s₃) E₁ { s₁ with heap := h₂ } := by
  refine wpAny_newObj_type (wpAny_newFunctionEnv hcell (by intro y hy; simp at hy) (fun h₁ hns₁ hsb₁ => ?_) hkind)
  dsimp only at hns₁ hsb₁ ⊢
  generalize hH2 : h₂.push { cls := .type "list", dict := none, data := .seq ([] : List Value).toArray } = H2 at hns₁ hsb₁ ⊢
  have hC : H2.objs.size = h₂.objs.size + 1 := by rw [← hH2, Heap.size_push]
  have hDC : h₂.objs.size ≠ H2.objs.size := by rw [hC]; exact Nat.ne_of_lt (Nat.lt_succ_self _)
  have below : ∀ b, b < h₂.objs.size → b ≠ H2.objs.size ∧ b ≠ h₂.objs.size := fun b hb => ⟨by rw [hC]; exact Nat.ne_of_lt (Nat.lt_succ_of_lt hb), Nat.ne_of_lt hb⟩
  have hIf : I ∈ fp := W.sub I (List.mem_singleton.mpr rfl)
  have hIlt : I < h₂.objs.size := hfp I hIf
  have old : ∀ b o, h₂.get? b = some o → h₁.get? b = some o := fun b o e => hsb₁.extBut b o (below b (Heap.lt_size e)).1 (Heap.get?_push_of_some _ (hH2 ▸ Heap.get?_push_of_some _ e))
  have hacc : h₁.get? h₂.objs.size = some (lst []) := hsb₁.extBut _ _ hDC (Heap.get?_push_of_some _ (hH2 ▸ Heap.get?_push_size _ rfl))
  have hst₁ : St 0 h₁ := W.frame _ _ _ hst fun b _ o e => old b o e
  have fresh : ∀ a, h₂.objs.size ≤ a → s₁.heap.get? a = none := fun a ha => by
    cases e : s₁.heap.get? a with
    | none => rfl
    | some o' => exact absurd (Heap.lt_size (hk _ _ e)) (Nat.not_lt.mpr ha)
  have hD₀ : s₁.heap.get? h₂.objs.size = none := fresh _ (Nat.le_refl _)
  have hC₀ : s₁.heap.get? H2.objs.size = none := fresh _ (by rw [hC]; exact Nat.le_succ _)
  have hCI : I ≠ H2.objs.size := (below I hIlt).1
  have hDI : I ≠ h₂.objs.size := (below I hIlt).2
  have keep1 : ∀ {h h' : Heap} {c : Addr}, (∀ b o, s₁.heap.get? b = some o → h.get? b = some o) → s₁.heap.get? c = none → (∀ b o, b ≠ c → h.get? b = some o → h'.get? b = some o) → (∀ b o, s₁.heap.get? b = some o → h'.get? b = some o) := fun {h h' c} T hc k b o e =>
    k b o (fun q => by rw [q, hc] at e; cases e) (T b o e)
  have loop : ∀ s₃ : Shared, s₃ = { s₁ with heap := h₁, toks := s₁.toks + ([] : List (Str × Value)).length } →
      codeAny (model prog w) A (.compLoop (.ListComp (.Name x pe) [⟨.Name x px, iter, [ct], 0⟩] scope pos) 0 (.ref I) (.ref h₂.objs.size) (compEnvC scope cl H2.objs.size env))
        (RR (.ref h₂.objs.size) H2.objs.size) s₃ := by
    rintro s₃ rfl
    refine codeAny_compLoop_tests
      (fun k s' => ∃ h tk i ys m', s' = { s₁ with heap := h, toks := tk } ∧ i ≤ n ∧ k = n + 1 - i ∧ St i h ∧ (∀ b o, s₁.heap.get? b = some o → h.get? b = some o) ∧ h.Ns H2.objs.size m' ∧ h.get? h₂.objs.size = some (lst ys) ∧ IntsAre ys (passing tb i) ∧ ys.length ≤ i) ?_ (n + 1)
      ⟨h₁, _, 0, [], _, rfl, Nat.zero_le _, rfl, hst₁, fun b o e => old b o (hk b o e), hns₁, hacc, IntsAre.nil, Nat.le_refl _⟩
    rintro k s' ⟨h, tk, i, ys, m', rfl, hi, rfl, hst', T', hn', hD', hZ', hyl⟩
    by_cases hlt : i < n
    · refine W.item i _ _ _ hlt hst' fun v ha tka hPv hsta hka => ?_
      obtain ⟨t, rfl⟩ := hPv
      have hka' : ∀ b o, b ≠ I → h.get? b = some o → ha.get? b = some o := fun b o hb e => hka b o (by simpa using hb) e
      refine wpAny_assign_Name (wpAny_storeName_local (lookup_relabel_local hx) (hn'.at' fun o e => hka' _ o (Ne.symm hCI) e) (fun hb hnb hsb => ?_) (by simp [compEnvC, relabel, hkind]))
      have hsb' : ∀ b o, b ≠ H2.objs.size → ha.get? b = some o → hb.get? b = some o := fun b o q e => hsb.extBut b o q e
      have Tb : ∀ b o, s₁.heap.get? b = some o → hb.get? b = some o := keep1 (keep1 T' hI hka') hC₀ hsb'
      have hstb : St (i + 1) hb := W.frame _ _ _ hsta fun b hbf o e => hsb' b o (below b (hfp b hbf)).1 e
      have hDb : hb.get? h₂.objs.size = some (lst ys) := hsb' _ _ hDC (hka' _ _ (Ne.symm hDI) hD')
      refine wpAny_tests_one (wpAny_mono (el i t _ H2.objs.size _ _ hlt ⟨hb, _, rfl⟩ Tb hnb (by simp)) (fun ok s₄ h₄ => ?_) fun _ _ e => e)
      obtain ⟨hok, tkc, rfl⟩ := h₄
      by_cases htb : tb i = true
      · rw [hok, htb]
        simp only [if_true]
        refine ldVarK (scope := scope) (cl := cl) (C := H2.objs.size) (env := env) hnb (v := .int ((i : Nat) : Int) t) (by simp) ?_ (hvar _).1 (hvar _).2 hdb
        refine append_at (hsz := by show ys.toArray.size ≤ sizeLine; rw [List.size_toArray]; omega) hDb fun hd hsd hDd => ?_
        have hsd' : ∀ b o, b ≠ h₂.objs.size → hb.get? b = some o → hd.get? b = some o := fun b o q e => hsd.extBut b o q e
        refine ⟨n + 1 - (i + 1), by omega, hd, _, i + 1, ys ++ [.int ((i : Nat) : Int) t], _, rfl, hlt, rfl, W.frame _ _ _ hstb fun b hbf o e => hsd' b o (below b (hfp b hbf)).2 e, keep1 Tb hD₀ hsd',
          Heap.Ns.sameBut hnb hsd (Ne.symm hDC), hDd.trans (congrArg some (lst_snoc ys _)), ?_, by simp; omega⟩
        rw [passing_succ, htb]
        exact ints_snoc hZ'
      · have htb' : tb i = false := by simpa using htb
        rw [hok, htb']
        simp only [Bool.false_eq_true, if_false]
        exact ⟨n + 1 - (i + 1), by omega, hb, tkc, i + 1, ys, _, rfl, hlt, rfl, hstb, Tb, hnb, hDb, by rw [passing_succ, htb']; simpa using hZ', by omega⟩
    · obtain rfl : i = n := Nat.le_antisymm hi (Nat.not_lt.mp hlt)
      refine W.done _ _ _ hst' fun ha tka hka => ?_
      have hka' : ∀ b o, b ≠ I → h.get? b = some o → ha.get? b = some o := fun b o hb e => hka b o (by simpa using hb) e
      exact hRR _ _ _ ys ha tka (keep1 T' hI hka') hD₀ hC₀ (Ne.symm hDC) (hn'.at' fun o e => hka' _ o (Ne.symm hCI) e) (hka' _ _ (Ne.symm hDI) hD') hZ'
  exact codeAny_compStart_list (loop _ rfl) (W.self 0 _ _ _ hst₁ (loop _ rfl))
/-- what a filtered range wants -/
def FiltIt (prog : Program) (w : World) (A : Around) (env : Env) (ct : Expr) (x : Str) (scope : Scope) (cl : List (Str × Addr)) (tb : Nat → Bool) (n : Nat) (Q : Value → Shared → Prop) (xv : Value) (s₁ : Shared) : Prop :=
  ∃ r b t u v, xv = .ref r ∧ IsRange s₁.heap r 0 b 1 t u v ∧ Builtin.Range.small 0 b 1 = true ∧ Builtin.Range.rangeSize 0 b 1 = ((n : Nat) : Int) ∧ n ≤ sizeLine ∧
      (∀ i t s' C m₂ E', i < n → (∃ h tk, s' = { s₁ with heap := h, toks := tk }) → (∀ b o, s₁.heap.get? b = some o → s'.heap.get? b = some o) → s'.heap.Ns C m₂ → m₂ x = some (.int ((i : Nat) : Int) t) →
        wpAny (model prog w) A (isTrue ct (compEnvC scope cl C env) (eval ct (compEnvC scope cl C env))) (fun ok s'' => Hold (ok = tb i ∧ ∃ tk, s'' = { s' with toks := tk })) E' s') ∧
      (∀ D ys h tk, (∀ b o, s₁.heap.get? b = some o → h.get? b = some o) → s₁.heap.get? D = none → h.get? D = some (lst ys) → IntsAre ys (passing tb n) → Q (.ref D) { s₁ with heap := h, toks := tk })
theorem filt_rule {iter ct : Expr} {x : Str} {px pe : Pos} {scope : Scope} {cl : List (Str × Addr)} {pos : Pos} {Q : Value → Shared → Prop} {n : Nat} (tb : Nat → Bool)
    (hclos : closureFor scope env = pure cl) (hcell : ∀ y ∈ scope.names, y.2 ≠ .cell) (hkind : scope.kind = .function)
    (hnames : ∀ y ∈ scope.names, y.2 = .local → scope.names.lookup y.1 = some .local) (hx : scope.names.lookup x = some .local)
    (hvar : ∀ C, (compEnvC scope cl C env).scope.kind = .function ∧ (compEnvC scope cl C env).kindOf x = some .local) (hdb : (x == ("__debug__" : Str)) = false) (hA : A.handled = none)
    (h : wpAny (model prog w) A (eval iter env) (FiltIt prog w A env ct x scope cl tb n Q) E s)
    (hs : ∀ x, foldedSetIterable iter env x = pure x := by intro _; rfl) :
    wpAny (model prog w) A (eval (.ListComp (.Name x pe) [⟨.Name x px, iter, [ct], 0⟩] scope pos) env) Q E s := by
  rw [eval_ListComp]
  refine wpAny_comprehension_free (use := none) rfl hs hclos hkind hnames (wpAny_mono h (fun xv s₁ h₁ => ?_) fun _ _ e => e)
  obtain ⟨r, b, t, u, v, rfl, hr, hsm, hn, hsz, el, fin⟩ := h₁
  have nf : s₁.heap.get? s₁.heap.objs.size = none := Heap.get?_none_of_le (Nat.le_refl _)
  refine wpAny_pyIter_range hr hsm ?_
  have W0 := LCg.range_walks (prog := prog) (w := w) (A := A) (I := s₁.heap.objs.size) hA 0 n
  have W : Walks prog w A s₁.heap.objs.size [s₁.heap.objs.size] [s₁.heap.objs.size] n (fun i v => ∃ t, v = .int ((i : Nat) : Int) t) (fun i h => IsRangeIter h s₁.heap.objs.size (0 + (i : Nat) * 1) ((n : Int) - (i : Nat)) 1) :=
    { sub := W0.sub, frame := W0.frame, done := W0.done, self := W0.self, item := fun i s Q E hi st hQ => W0.item i s Q E hi st fun v h' tk hP => hQ v h' tk (by simpa using hP) }
  refine filt_block tb W hsz (by show IsRangeIter _ _ _ _ _; rw [hn]; simpa using Heap.get?_push_size _ rfl) (fun b hb => by rw [List.mem_singleton.mp hb, Heap.size_push]; exact Nat.lt_succ_self _) nf (fun b o e => Heap.get?_push_of_some _ e) hcell hkind hx hvar hdb el ?_
  intro D C m' ys h tk T hD hC hCD hnC hl hz
  exact ⟨m', hnC, fun h'' hs'' => fin D ys h'' tk (fun b o e => hs''.extBut b o (fun q => by rw [q, hC] at e; cases e) (T b o e)) hD (hs''.extBut _ _ (Ne.symm hCD) hl) hz⟩
end
end Mine
end
section
open PySem PySem.W PyProof.Rows PySem.Calls PySem.Spec
namespace Mine
section
variable {prog : Program} {w : World} {A : Around} {E : Value → Shared → Prop} {s : Shared} {env : Env} {h₀ : Heap} {L : Addr}
/-- a turn that puts one more row -/
def RowPost (h₀ : Heap) (L R : Addr) (ms : List (Str × Value)) (keep : List (Addr × Obj)) (Z : Nat → Value → List (Addr × Obj) → Prop) (i : Nat) (ys : Array Value) (s : Shared) (f : Flow) (s' : Shared) : Prop :=
  f = .next ∧ ∃ h tk m' y os k, s' = { s with heap := h, toks := tk } ∧ Fr h₀ L h m' ∧ (∀ p ∈ ms, m' p.1 = some p.2) ∧ News h₀ L h ((R, listOf (ys.push y) k) :: (keep ++ os)) ∧ (∀ q ∈ os, q.1 ≠ R ∧ ∀ p ∈ keep, p.1 ≠ q.1) ∧ Z i y os
theorem rowPost_of {R : Addr} {ms : List (Str × Value)} {keep : List (Addr × Obj)} {Z : Nat → Value → List (Addr × Obj) → Prop} {i : Nat} {ys : Array Value} {h : Heap} {tk : Nat} {m' : Str → Option Value} {a b : Addr × Obj} {y : Value} {k : Nat}
    (F : Fr h₀ L h m') (hms : ∀ p ∈ ms, m' p.1 = some p.2) (N : News h₀ L h (a :: b :: (R, listOf (ys.push y) k) :: keep)) (ha : a.1 ≠ R ∧ ∀ p ∈ keep, p.1 ≠ a.1) (hb : b.1 ≠ R ∧ ∀ p ∈ keep, p.1 ≠ b.1) (hz : Z i y [a, b]) :
    RowPost h₀ L R ms keep Z i ys s .next { s with heap := h, toks := tk } := by
  refine ⟨rfl, h, tk, m', y, [a, b], k, rfl, F, hms, fun p hp => N p ?_, fun q hq => ?_, hz⟩
  · simp only [List.mem_cons, List.mem_append, List.not_mem_nil, or_false] at hp ⊢
    rcases hp with h | h | h | h
    · exact .inr (.inr (.inl h))
    · exact .inr (.inr (.inr h))
    · exact .inl h
    · exact .inr (.inl h)
  · simp only [List.mem_cons, List.not_mem_nil, or_false] at hq
    rcases hq with rfl | rfl
    · exact ha
    · exact hb
/-- the range a loop goes over -/
def RangeIt (h₀ : Heap) (L : Addr) (m : Str → Option Value) (n : Nat) (news : List (Addr × Obj)) (s : Shared) (xv : Value) (s₁ : Shared) : Prop :=
  ∃ r b t u v h tk, xv = .ref r ∧ s₁ = { s with heap := h, toks := tk } ∧ IsRange h r 0 b 1 t u v ∧ Builtin.Range.small 0 b 1 = true ∧ Builtin.Range.rangeSize 0 b 1 = ((n : Nat) : Int) ∧ Fr h₀ L h m ∧ News h₀ L h news
theorem for_rows {x : Str} {px pos : Pos} {iter : Expr} {body : List Stmt} {R : Addr} {n : Nat} {m : Str → Option Value} {keep : List (Addr × Obj)} {Q : Flow → Shared → Prop} (mf : Addr → List (Str × Value)) (Z : Nat → Value → List (Addr × Obj) → Prop)
    (hF : Fr h₀ L s.heap m) (hN : News h₀ L s.heap ((R, listOf #[] 0) :: keep)) (hL : env.locals = L) (hh : A.handled = none) (hx : env.kindOf x = some .local) (hp : (env.scope.kind == .class || (env.scope.kind == .module && env.locals != env.globals)) = false)
    (hms : ∀ p ∈ mf R, m p.1 = some p.2)
    (hit : wpAny (model prog w) A (eval iter env) (RangeIt h₀ L m n ((R, listOf #[] 0) :: keep) s) E s)
    (turn : ∀ i t (m₁ : Str → Option Value) ys k rest h tk, i < n → (∀ p ∈ mf R, m₁ p.1 = some p.2) → ys.size = i → (∀ p ∈ rest, p.1 ≠ R) → Fr h₀ L h (fun y => if y = x then some (.int ((i : Nat) : Int) t) else m₁ y) → News h₀ L h ((R, listOf ys k) :: (keep ++ rest)) →
      wpAny (model prog w) A (execs body env) (RowPost h₀ L R (mf R) (keep ++ rest) Z i ys { s with heap := h, toks := tk }) E { s with heap := h, toks := tk })
    (done : ∀ m' ys oss k h tk, Fr h₀ L h m' → (∀ p ∈ mf R, m' p.1 = some p.2) → News h₀ L h ((R, listOf ys k) :: (keep ++ oss.flatten)) → (∀ q ∈ oss.flatten, q.1 ≠ R) → AllZ n Z ys.toList oss → Q .next { s with heap := h, toks := tk })
    (hs : ∀ x, foldedSetIterable iter env x = pure x := by intro _; rfl)
    (hE : PassesOwn (model prog w) A env E := by passes_own) :
    wpAny (model prog w) A (exec (.For (.Name x px) iter body [] pos) env) Q E s := by
  have _ := hF
  have _ := hN
  subst hL
  refine For_invV h₀ hx hp (wpAny_mono hit (fun xv s₁ h₁ => ?_) fun _ _ e => e) hs hE
  obtain ⟨r, b, t, u, v, h, tk, rfl, rfl, hr, hsm, hn, F, N⟩ := h₁
  refine wpAny_pyIter_range hr hsm ?_
  dsimp only
  have nf : h.get? h.objs.size = none := Heap.get?_none_of_le (Nat.le_refl _)
  have W0 := LCg.range_walks (prog := prog) (w := w) (A := A) (I := h.objs.size) hh 0 n
  have up : ∀ b o, h.get? b = some o → (h.push _).get? b = some o := fun b o e => Heap.get?_push_of_some { cls := .type "range_iterator", data := .fields #[.int 0 0, .int (Builtin.Range.rangeSize 0 b 1) 0, .int 1 0] } e
  have neI : ∀ q, (∃ o, h.get? q = some o) → q ≠ h.objs.size := fun q ⟨o, e⟩ z => by rw [z, nf] at e; cases e
  have nh : h₀.get? h.objs.size = none := next_is_new F
  refine ⟨h.objs.size, [h.objs.size], [h.objs.size], n, _, _, m, (R, listOf #[] 0) :: keep,
    (fun i m₁ nx => (∀ p ∈ mf R, m₁ p.1 = some p.2) ∧ ∃ ys k oss, nx = (R, listOf ys k) :: (keep ++ oss.flatten) ∧ AllZ i Z ys.toList oss ∧ (∀ q ∈ oss.flatten, q.1 ≠ R)), rfl, W0, ?_, ?_, ?_, (by show IsRangeIter _ _ _ _ _; rw [hn]; simpa using Heap.get?_push_size _ rfl), F.push _, N.grown fun b o e => Heap.get?_push_of_some _ e, ⟨hms, #[], 0, [], by simp, AllZ.nil, fun q hq => by simp at hq⟩, ?_, ?_⟩
  · intro hm
    obtain ⟨o, _, _, e, _⟩ := F.ns
    exact neI _ ⟨o, e⟩ (List.mem_singleton.mp hm)
  · intro b hb
    rw [List.mem_singleton.mp hb]; exact nh
  · intro p hp hm
    exact neI _ ⟨_, (N p hp).1⟩ (List.mem_singleton.mp hm)
  · rintro i v m₁ nx s₁ own ⟨h', tk', rfl⟩ hi hPv ⟨hms1, ys, k, oss, rfl, hz, hq⟩ hnw hof hown hall hst F₁ N₁
    obtain ⟨t', rfl⟩ := hPv
    dsimp only at hown hall hst F₁ N₁ ⊢
    rw [Int.zero_add] at F₁
    have stI : h'.get? h.objs.size = some _ := hst
    have ownR : ∀ p ∈ own, p.1 ≠ R := fun p hp z => hnw (R, listOf ys k) (.head _) (by rw [← z]; exact hof p hp)
    have N₂ : News h₀ env.locals h' ((R, listOf ys k) :: (keep ++ (own ++ oss.flatten))) := fun p hp => N₁ p (by
      simp only [List.mem_cons, List.mem_append] at hp ⊢
      rcases hp with h | h | h | h
      · exact .inr (.inl h)
      · exact .inr (.inr (.inl h))
      · exact .inl h
      · exact .inr (.inr (.inr h)))
    refine wpAny_mono (turn i t' m₁ ys k (own ++ oss.flatten) h' tk' hi hms1 (by rw [← hz.len, Array.length_toList]) (fun p hp => ?_) F₁ N₂) (fun f s' hf => ?_) fun _ _ e => e
    · rcases List.mem_append.mp hp with h | h
      · exact ownR p h
      · exact hq p h
    · obtain ⟨rfl, h3, tk3, m3, y, os, k3, rfl, F3, hms3, N3, hos, hZ⟩ := hf
      have neR : ∀ q ∈ os, q.1 ≠ R := fun q hq' => (hos q hq').1
      have inI := hall h.objs.size (.head _) nh _ stI
      have neI' : ∀ q ∈ os, q.1 ≠ h.objs.size := fun q hq' z => (hos q hq').2 _ (List.mem_append_right _ (List.mem_append_left _ inI)) z.symm
      refine ⟨rfl, h3, tk3, m3, (R, listOf (ys.push y) k3) :: (keep ++ (oss ++ [os]).flatten), rfl, F3, fun p hp => N3 p ?_, fun p hp => ?_, hms3, ys.push y, k3, oss ++ [os], rfl, ?_, fun q hq' => ?_⟩
      · simp only [List.flatten_append, List.flatten_cons, List.flatten_nil, List.append_nil, List.mem_cons, List.mem_append] at hp ⊢
        rcases hp with h | h | h | h | h
        · exact .inr (.inl (.inr (.inl h)))
        · exact .inl h
        · exact .inr (.inl (.inl h))
        · exact .inr (.inl (.inr (.inr h)))
        · exact .inr (.inr h)
      · rcases List.mem_cons.mp hp with rfl | hp
        · exact hnw (R, listOf ys k) (.head _)
        · rcases List.mem_append.mp hp with hp | hp
          · exact hnw p (.tail _ (List.mem_append_left _ hp))
          · simp only [List.flatten_append, List.flatten_cons, List.flatten_nil, List.append_nil, List.mem_append] at hp
            rcases hp with hp | hp
            · exact hnw p (.tail _ (List.mem_append_right _ hp))
            · intro hm
              exact neI' p hp (List.mem_singleton.mp hm)
      · rw [Array.toList_push]
        exact hz.snoc hZ
      · simp only [List.flatten_append, List.flatten_cons, List.flatten_nil, List.append_nil, List.mem_append] at hq'
        rcases hq' with h | h
        · exact hq q h
        · exact neR q h
  · rintro h' tk' m' nx F' N' _ ⟨hms', ys, k, oss, rfl, hz, hq⟩
    exact done m' ys oss k h' tk' F' hms' N' hq hz
end
end Mine
end
section
open PySem PySem.W PyProof.Rows PySem.Calls PySem.Spec
namespace Mine
theorem head_new {h₀ h : Heap} {L r : Addr} {m : Str → Option Value} {o : Obj} {news : List (Addr × Obj)} {g : Heap} (F : Fr h₀ L g m) (N : News h₀ L h news) (ho : h.get? r = some o) (hr : g.get? r = none) : News h₀ L h ((r, o) :: news) := fun q hq => by
  rcases List.mem_cons.mp hq with rfl | hq
  · refine ⟨ho, fun z => ?_, ?_⟩
    · obtain ⟨o', _, _, e, _⟩ := F.ns
      have z' : r = L := z
      rw [z', e] at hr; cases hr
    · cases q : h₀.get? r with
      | none => rfl
      | some o' => rw [F.keep _ _ q] at hr; cases hr
  · exact N q hq
theorem range_all : ∀ n : Fin 64, Builtin.Range.small 0 (n.val : Int) 1 = true ∧ Builtin.Range.rangeSize 0 (n.val : Int) 1 = (n.val : Int) := by decide +kernel
theorem range_ok {n : Nat} (h : n < 64) : Builtin.Range.small 0 (n : Int) 1 = true ∧ Builtin.Range.rangeSize 0 (n : Int) 1 = (n : Int) := range_all ⟨n, h⟩
theorem ints_head {ys : List Value} {f : Int} {r : List Int} (h : IntsAre ys (f :: r)) : ∃ t us, ys = .int f t :: us := by
  cases h with
  | cons n t h' => exact ⟨t, _, rfl⟩
theorem ints_get {vs : List Value} {ns : List Int} (h : IntsAre vs ns) : ∀ (i : Nat) (n : Int), ns[i]? = some n → ∃ t, vs[i]? = some (.int n t) := by
  induction h with
  | nil => intro i n e; simp at e
  | cons m u _ ih =>
    intro i n e
    cases i with
    | zero => exact ⟨u, by have : m = n := by simpa using e
                           rw [this]; rfl⟩
    | succ i => exact ih i n (by simpa using e)
theorem item_neg {prog : Program} {w : World} {A : Around} {E : Value → Shared → Prop} {s : Shared} {value slice : PySem.Expr} {l : Addr} {its : Array Value} {n : Nat} {k : Int} {u : Tok} {v : Value} {Q : Value → Shared → Prop}
    (hl : s.heap.get? l = some (listOf its n)) (h0 : k < 0) (h1 : -(its.size : Int) ≤ k) (hlo : -(2 ^ 63) ≤ k) (hx : its[(k + its.size).toNat]? = some v) (h : Q v s)
    (hs : subscripted slice false (.ref l) (.int k u) = operate [.ref l, .int k u] (getItem (.ref l) (.int k u))) :
    wpAny (model prog w) A (subscriptTail value slice (.ref l) (.int k u)) Q E s :=
  have hl' : s.heap.IsList l its := ⟨_, hl, rfl, n, rfl⟩
  tail_any hl'.typeIs slot_list_getitem.lookup (wpAny_getItem_list_neg hl' h0 h1 hlo hx h) hs
/-- what the law tells: lengths and numbers -/
def lensT (ds : List Int) (fr en : Nat) (k : Nat) : Int := ((octs ds).length : Int) - ((min k fr : Nat) : Int) - ((min (k - min k fr) en : Nat) : Int)
def numsT (ds : List Int) (fr en : Nat) (k : Nat) : List Int := List.take (ds.length - min (k - min k fr) en - min k fr) (ds.drop (min k fr))
theorem numsT_eq {ds : List Int} {fr en k : Nat} (_h : min (k - min k fr) en ≤ ds.length) :
    List.take (min ((ds.length : Int) - ((min (k - min k fr) en : Nat) : Int)).toNat ds.length - (((min k fr : Nat) : Int)).toNat) (List.drop (((min k fr : Nat) : Int)).toNat ds) = numsT ds fr en k := by
  unfold numsT
  congr 1
  omega
theorem allLt_ne {d : Addr} : ∀ {l : List (Addr × Obj)}, AllLt d l → ∀ p ∈ l, p.1 ≠ d
  | [], _, _, h => nomatch h
  | q :: l, a, p, h => by
    rcases List.mem_cons.mp h with rfl | h
    · exact Nat.ne_of_lt a.1
    · exact allLt_ne a.2 p h
theorem min_eq {prog : Program} {w : World} {A : Around} {E : Value → Shared → Prop} {s : Shared} {Q : Value → Shared → Prop} {a b : Int} {t u : Tok} (k : Int) {h₀ : Heap} {L : Addr} {m : Str → Option Value} {news : List (Addr × Obj)} (hh : A.handled = none) (F : Fr h₀ L s.heap m) (N : News h₀ L s.heap news) (e : min a b = k)
    (h : ∀ t' h' tk, Fr h₀ L h' m → News h₀ L h' news → Q (.int k t') { s with heap := h', toks := tk }) : wpAny (model prog w) A (call (.builtin "min") [.int a t, .int b u]) Q E s := by
  refine PySem.Flt.min_two_num hh (.int _ _) (.int _ _) fun h' tk kp => ?_
  by_cases hba : b < a
  · rw [show PySem.Flt.ltV (.int b u) (.int a t) = true from decide_eq_true hba]
    have : b = k := by omega
    subst this
    exact h u h' tk (F.keeps kp) (N.grown kp)
  · rw [show PySem.Flt.ltV (.int b u) (.int a t) = false from decide_eq_false hba]
    have : a = k := by omega
    subst this
    exact h t h' tk (F.keeps kp) (N.grown kp)
section
local macro_rules | `(tactic| walk_at "call builtin:min") => `(tactic| refine hold ?_)
local macro_rules | `(tactic| walk_at "call builtin:list.append") => `(tactic| refine hold ?_)
local macro_rules | `(tactic| walk_at "newTuple") => `(tactic| refine hold ?_)
local macro_rules | `(tactic| kmk_nums) => `(tactic| with_reducible first | exact kmk_from (by l_ints) (by omega) | exact kmk_upto (by l_ints) (by omega) | exact kmk_run (by l_ints) (by omega) (by omega))
local macro_rules | `(tactic| walk_at "call ref") => `(tactic| refine hold ?_)
local macro_rules | `(tactic| walk_at "eval ListComp") => `(tactic| refine hold ?_)
local macro_rules | `(tactic| walk_at "exec For Name Call cons nil") => `(tactic| refine hold ?_)
local macro_rules | `(tactic| walk_at "eval Name") => `(tactic| ((with_reducible show wpAny _ _ (eval (Expr.Name _ _) (compEnvC _ _ _ _)) _ _ _); first
  | (refine' el_var ?n ?x ?_; (case n => assumption); (case x => assumption))
  | (k_dflt (refine' el_cell ?c ?o ?d ?_; (case c => exact rfl); (case o => assumption); (case d => assumption)))
  | (k_dflt (refine' el_def ?X ?T ?e ?_; (case X => assumption); (case T => assumption); (case e => k_is)))
  | (k_dflt (refine' el_built ?X ?T ?e ?v ?n ?_; (case X => assumption); (case T => assumption); (case e => k_is); (case v => boot_by_name); (case n => decide)))))
local macro_rules | `(tactic| walk_at "subscriptTail") => `(tactic| ((with_reducible show wpAny _ _ (subscriptTail _ _ (Value.ref _) (Value.int _ _)) _ _ _); refine hold ?_))
set_option maxHeartbeats 4000000 in
theorem told_call {w : World} {dp un : Nat} {gd : Option (List Code)} {frs : Option (List Env)} {s : Shared} {mean : ExcName → Option Value} {mg mb : Str → Option Value} {l : Addr} {vs : List Value} {ds : List Int} {fr en : Nat} {c1 c2 : Int}
    {Q E : Value → Shared → Prop} :
    (hd.heap_39 w.params).In s.heap → Top hd.view_39 (looseW hd.view_39 []) mean mg mb s.heap → dp + 1 < recursionLimit → un + 8 < cLine →
    s.heap.IsList l vs.toArray → IntsAre vs ds → ds.length ≤ 20 → (∀ n ∈ ds, 0 ≤ n ∧ n < 4096) →
    (∀ j, j < fr → ds[j]? = some 32) → ds[fr]? = some c1 → c1 ≠ 32 →
    (∀ j, j < en → (octs ds)[(octs ds).length - 1 - j]? = some 32) → (octs ds)[(octs ds).length - 1 - en]? = some c2 → en < (octs ds).length → c2 ≠ 32 → fr + en ≤ ds.length →
    (∀ D (ys : Array Value) k oss h' tk', (∀ b o, s.heap.get? b = some o → h'.get? b = some o) → s.heap.get? D = none → h'.get? D = some (listOf ys k) → AllZ 6 (RowZ (lensT ds fr en) (numsT ds fr en)) ys.toList oss → (∀ q ∈ oss.flatten, h'.get? q.1 = some q.2 ∧ s.heap.get? q.1 = none ∧ q.1 ≠ D) → Q (.ref D) { s with heap := h', toks := tk' }) →
    wpAny (model Challenge.rw_pe0017_01.row.prog w) { handled := none, depth := dp, frames := frs, guards := gd, units := un } (call (.ref 55) [.ref l]) Q E s := by
  k_fill
  w_top off
  intro X T hd hu hl hI hlen hb hf1 hf2 hf3 he1 he2 he4 he3 hfe ret
  w_strict (
    refine wpAny_call ?_
    k_dflt (refine' enterC ?k3 ?k4 ?k6 ?k7 ?k8 ?k9 ?kB ?kD ?_ ?c2 ?c3 ?c4; (case k3 => exact X); (case k4 => exact T); (case k6 => k_is); (case k7 => k_is); (case k8 => ktr_room); (case k9 => exact BindsTo.of_eq rfl); (case kB => exact rfl); (case kD => decide +kernel); (case c2 => exact rfl); (case c3 => exact rfl); (case c4 => exact rfl); k_whole; intro L' h' tk' cells' F' N' Y'; k_cells Y'; (try simp only [List.cons_append, List.nil_append] at N'); (try dsimp only); (try k_fold))
    k_steps
    refine Hold.out ?_
    have hlen2 := octs_len2 ds
    refine octets_call (X.keeps F'.keep) (T.keeps F'.keep) (by ktr_room) (by ktr_units) (stays_list F'.keep hl) hI hlen hb ?_
    intro r ws k h1 tk1 hk1 hr1 hobj1 hI1
    dsimp only at hk1 hr1
    have F2 := F'.keeps hk1
    have N2 := head_new F' (N'.grown hk1) hobj1 hr1
    have hr2 : @Ne Nat r (L' + 1 + 1) := fun z => by
      have := (N' _ (.head _)).1
      rw [← z] at this
      rw [hr1] at this; cases this
    have hr3 : @Ne Nat r (L' + 1) := fun z => by
      have := (N' _ (.tail _ (.head _))).1
      rw [← z] at this
      rw [hr1] at this; cases this
    clear F' N'
    k_steps
    refine Hold.out ?_
    k_dflt (refine' filt_rule (n := ds.length) (fun j => decide (ds[j]?.getD 0 ≠ 32)) ?g1 ?g2 ?g3 ?g4 ?g5 ?g7 ?g8 rfl ?_ ?g6; (case g1 => exact rfl); (case g2 => decide); (case g3 => exact rfl); (case g4 => decide); (case g5 => exact rfl); (case g6 => intro _; rfl); (case g7 => exact fun _ => ⟨rfl, rfl⟩); (case g8 => decide))
    k_steps
    (with_reducible rename IsRange _ _ _ _ _ _ _ _ => hR)
    (with_reducible rename Fr _ _ _ _ => F3)
    (with_reducible rename News _ _ _ _ => N3)
    refine ⟨_, _, _, _, _, rfl, hR, (range_ok (by omega)).1, (range_ok (by omega)).2, by show ds.length ≤ 2 ^ 24; omega, ?_, ?_⟩
    · intro i t s' C m₂ E' hi hs' k5 hN hx
      obtain ⟨g1, tk4, rfl⟩ := hs'
      dsimp only at k5 hN
      k_steps
      refine Hold.out ⟨?_, _, rfl⟩
      show (ds.getD i 0 != 32) = _
      rw [List.getD_eq_getElem?_getD]
      simp [bne, BEq.beq]
    · intro D1 ys h2 tk2 k2 hD1 hl1 hI2
      dsimp only at k2 hD1
      have hfl : fr < ds.length := by
        rcases Nat.lt_or_ge fr ds.length with h | h
        · exact h
        · rw [List.getElem?_eq_none h] at hf2; cases hf2
      obtain ⟨pr, hpr⟩ := passing_first (tb := fun j => decide (ds[j]?.getD 0 ≠ 32)) hfl (by rw [hf2]; exact decide_eq_true hf3) (fun j hj => by rw [hf1 j hj]; rfl)
      rw [hpr] at hI2
      obtain ⟨tf, us, rfl⟩ := ints_head hI2
      have F4 := F3.keeps k2
      have N4 := N3.grown k2
      clear F3 N3 hR
      k_steps
      refine Hold.out ?_
      refine item_el hl1 (by decide) (by decide) rfl ?_ (by with_unfolding_all rfl)
      k_steps
      refine Hold.out ?_
      k_dflt (refine' filt_rule (n := (octs ds).length) (fun j => decide ((octs ds)[(octs ds).length - 1 - j]?.getD 0 ≠ 32)) ?g1 ?g2 ?g3 ?g4 ?g5 ?g7 ?g8 rfl ?_ ?g6; (case g1 => exact rfl); (case g2 => decide); (case g3 => exact rfl); (case g4 => decide); (case g5 => exact rfl); (case g6 => intro _; rfl); (case g7 => exact fun _ => ⟨rfl, rfl⟩); (case g8 => decide))
      have hwl : ws.size = (octs ds).length := by rw [← ints_len hI1, Array.length_toList]
      k_steps
      (with_reducible rename IsRange _ _ _ _ _ _ _ _ => hR)
      (with_reducible rename Fr _ _ _ _ => F3)
      (with_reducible rename News _ _ _ _ => N3)
      refine ⟨_, _, _, _, _, rfl, hR, (range_ok (by omega)).1, (range_ok (by omega)).2, by show (octs ds).length ≤ 2 ^ 24; omega, ?_, ?_⟩
      · intro i t s' C m₂ E' hi hs' k5 hN hx
        obtain ⟨g1, tk4, rfl⟩ := hs'
        dsimp only at k5 hN
        obtain ⟨c, hc⟩ : ∃ c, (octs ds)[(octs ds).length - 1 - i]? = some c := ⟨_, List.getElem?_eq_getElem (by omega)⟩
        obtain ⟨t', hct⟩ := ints_get hI1 _ _ hc
        k_steps
        refine Hold.out ?_
        refine item_neg (v := .int c t') (k5 _ _ (N3 _ (.head _)).1) (by omega) (by omega) (by omega) (by rw [show (-1 - (i : Int) + (ws.size : Int)).toNat = (octs ds).length - 1 - i by omega]; simpa using hct) ?_ (by with_unfolding_all rfl)
        k_steps
        refine Hold.out ⟨?_, _, rfl⟩
        rw [hc]
        simp [bne, BEq.beq]
      · intro D2 ys2 h3 tk3 k3 hD2 hl2 hI3
        dsimp only at k3 hD2
        obtain ⟨pr2, hpr2⟩ := passing_first (tb := fun j => decide ((octs ds)[(octs ds).length - 1 - j]?.getD 0 ≠ 32)) he4 (by rw [he2]; exact decide_eq_true he3) (fun j hj => by rw [he1 j hj]; rfl)
        rw [hpr2] at hI3
        obtain ⟨te, us2, rfl⟩ := ints_head hI3
        have F5 := F3.keeps k3
        have N5 := N3.grown k3
        clear F3 N3 hR
        k_steps
        refine Hold.out ?_
        refine item_el hl2 (by decide) (by decide) rfl ?_ (by with_unfolding_all rfl)
        k_steps
        refine Hold.out ?_
        (with_reducible rename Fr _ _ _ _ => F6)
        (with_reducible rename News _ _ _ _ => N6)
        refine for_rows (n := 6) (fun R => [(Str.ofString "rows", .ref R), (Str.ofString "front", .int ((fr : Nat) : Int) tf), (Str.ofString "end", .int ((en : Nat) : Int) te)]) (RowZ (lensT ds fr en) (numsT ds fr en)) F6 N6 rfl rfl rfl rfl ?_ ?_ ?_ ?_ (by intro _; rfl) (by passes_own)
        · intro p hp
          simp only [List.mem_cons, List.not_mem_nil, or_false] at hp
          rcases hp with rfl | rfl | rfl
          · exact rfl
          · exact rfl
          · exact rfl
        · k_steps
          (with_reducible rename IsRange _ _ _ _ _ _ _ _ => hR)
          exact ⟨_, _, _, _, _, _, _, rfl, rfl, hR, by decide, by decide, by k_asm, by k_asm⟩
        · intro i t m₁ ys6 k6 rest h6 tk6 hi6 hms1 hys hrest F7 N7
          have e1 := hms1 _ (.head _)
          have e2 := hms1 _ (.tail _ (.head _))
          have e3 := hms1 _ (.tail _ (.tail _ (.head _)))
          dsimp only at e1 e2 e3
          rw [map_at e1, map_at e2, map_at e3] at F7
          simp only [List.cons_append, List.nil_append] at N7
          clear F6 N6
          k_steps
          refine Hold.out ?_
          refine min_eq ((min i fr : Nat) : Int) rfl (by k_asm) (by k_asm) (by omega) ?_
          intro t8 h8 tk8 F8 N8
          k_steps
          refine Hold.out ?_
          refine min_eq ((min (i - min i fr) en : Nat) : Int) rfl (by k_asm) (by k_asm) (by omega) ?_
          intro t9 h9 tk9 F9 N9
          k_steps
          refine Hold.out ?_
          (with_reducible rename IntsAre _ (List.take _ _) => hI10)
          rw [numsT_eq (by omega)] at hI10
          (with_reducible rename Fr _ _ _ _ => F10)
          (with_reducible rename News _ _ _ _ => N10)
          (with_reducible rename @LT.lt Nat _ _ _ ∧ _ ∧ _ ∧ _ ∧ AllLt _ rest => l10)
          have hlt := fun q hq => Heap.lt_size (N10 q hq).1
          refine newTuple_N F10 N10 (fun h11 F11 N11 => ?_) (by show 2 ≤ 2 ^ 24; decide)
          k_steps
          refine Hold.out ?_
          refine append_K (by k_asm) (by k_asm) (Upd.tail (Ne.symm (Nat.ne_of_lt (hlt _ (.tail _ (.head _))))) (Upd.tail (by k_ne) (Upd.head ?_))) ?_ (by show ys6.size ≤ 2 ^ 24; omega)
          · intro p hp
            simp only [List.mem_cons] at hp
            rcases hp with rfl | rfl | rfl | hp
            · k_ne
            · k_ne
            · k_ne
            · exact hrest p hp
          intro h12 F12 N12
          k_steps
          refine rowPost_of F12 (fun p hp => ?_) N12 ?_ ?_ ⟨_, _, _, _, _, _, rfl, rfl, hI10⟩
          · simp only [List.mem_cons, List.not_mem_nil, or_false] at hp
            rcases hp with rfl | rfl | rfl
            · exact rfl
            · exact rfl
            · exact rfl
          · refine ⟨Ne.symm (Nat.ne_of_lt (hlt _ (.tail _ (.head _)))), fun p hp => Nat.ne_of_lt (hlt p (.tail _ (.tail _ hp)))⟩
          · refine ⟨by k_ne, fun p hp => ?_⟩
            simp only [List.mem_cons] at hp
            rcases hp with rfl | rfl | rfl | hp
            · k_ne
            · k_ne
            · k_ne
            · exact allLt_ne l10.2.2.2.2 p hp
        · intro m7 ys7 oss7 k7 h7 tk7 F7 hms7 N7 hq7 hz7
          have e1 := hms7 _ (.head _)
          dsimp only at e1
          rw [map_at e1] at F7
          clear F6 N6
          k_steps
          exact ret _ ys7 k7 oss7 _ _ F7.keep (N7 _ (.head _)).2.2 (N7 _ (.head _)).1 hz7 fun q hq => ⟨(N7 q (.tail _ (List.mem_append_right _ hq))).1, (N7 q (.tail _ (List.mem_append_right _ hq))).2.2, hq7 q hq⟩)
end
end Mine
end
section
open PySem PySem.W PyProof.Rows PySem.Calls PySem.Spec PySem.SeqAt
namespace Mine
/-- a row as data -/
def rowD (lens : Nat → Int) (nums : Nat → List Int) (k : Nat) : PyData := .tuple [.int (lens k), .list ((nums k).map PyData.int)]
theorem reads_row {h : Heap} {lens : Nat → Int} {nums : Nat → List Int} {k : Nat} {v : Value} {os : List (Addr × Obj)} (z : RowZ lens nums k v os) (ho : ∀ q ∈ os, h.get? q.1 = some q.2) : ∃ as, Reads h v (rowD lens nums k) as := by
  obtain ⟨t, l, tk, ws, n, n2, rfl, rfl, hI⟩ := z
  have h1 := ho _ (.head _)
  have h2 := ho _ (.tail _ (.head _))
  exact ⟨_, Reads.tuple h1 rfl rfl (.cons (.int _ _) (.cons (Reads.list h2 rfl rfl (readsAll_of_ints hI)) .nil))⟩
theorem readsAll_of {h : Heap} : ∀ {ys : List Value} {xs : List PyData}, ys.length = xs.length → (∀ (i : Nat) v x, ys[i]? = some v → xs[i]? = some x → ∃ as, Reads h v x as) → ∃ as, ReadsAll h ys xs as
  | [], [], _, _ => ⟨_, .nil⟩
  | [], _ :: _, e, _ => by simp at e
  | _ :: _, [], e, _ => by simp at e
  | y :: ys, x :: xs, e, f => by
    obtain ⟨as, r⟩ := f 0 y x rfl rfl
    obtain ⟨bs, q⟩ := readsAll_of (ys := ys) (xs := xs) (by simpa using e) fun i v z hv hz => f (i + 1) v z (by simpa using hv) (by simpa using hz)
    exact ⟨_, .cons r q⟩
theorem reads_rows {h : Heap} {lens : Nat → Int} {nums : Nat → List Int} {n k : Nat} {D : Addr} {ys : Array Value} {oss : List (List (Addr × Obj))} (hD : h.get? D = some (listOf ys k)) (z : AllZ n (RowZ lens nums) ys.toList oss) (ho : ∀ q ∈ oss.flatten, h.get? q.1 = some q.2) :
    ∃ as, Reads h (.ref D) (.list ((List.range n).map (rowD lens nums))) as := by
  obtain ⟨as, r⟩ := readsAll_of (h := h) (ys := ys.toList) (xs := (List.range n).map (rowD lens nums)) (by rw [z.len]; simp) (fun i v x hv hx => by
    have hi : i < n := by
      have := (List.getElem?_eq_some_iff.mp hv).1
      rw [z.len] at this; exact this
    obtain ⟨y, os, hy, hos, hz⟩ := z.at_ i hi
    rw [hy] at hv; cases hv
    have ex : x = rowD lens nums i := by
      rw [List.getElem?_map, List.getElem?_range hi] at hx
      exact (Option.some.inj hx).symm
    subst ex
    exact reads_row hz fun q hq => ho q (List.mem_flatten.mpr ⟨os, List.mem_of_getElem? hos, hq⟩))
  exact ⟨_, Reads.list hD rfl rfl r⟩
theorem rows_lay (lens : Nat → Int) (nums : Nat → List Int) : ∀ ks : List Nat, PyData.canLayAll0 (ks.map (rowD lens nums)) = true
  | [] => by simp [PyData.canLayAll0]
  | k :: r => by simp [PyData.canLayAll0, rowD, PyData.canLay0, canLayAll0_ints, rows_lay lens nums r]
theorem rows_deep (lens : Nat → Int) (nums : Nat → List Int) : ∀ ks : List Nat, PyData.depthAll (ks.map (rowD lens nums)) ≤ 3
  | [] => by simp [PyData.depthAll]
  | k :: r => by
    have := rows_deep lens nums r
    have := PySem.W.depthAll_ints (nums k)
    simp only [List.map_cons, PyData.depthAll, rowD, PyData.depth]
    omega
theorem rows_shaped (lens : Nat → Int) (nums : Nat → List Int) (ks : List Nat) : shaped (.list (ks.map (rowD lens nums))) = true := by
  have h1 := rows_deep lens nums ks
  have h2 : PyData.depth (.list (ks.map (rowD lens nums))) ≤ 64 := by simp only [PyData.depth]; omega
  show (PyData.canLay0 (.list (ks.map (rowD lens nums))) && decide (PyData.depth (.list (ks.map (rowD lens nums))) ≤ 64)) = true
  rw [Bool.and_eq_true]
  exact ⟨by simp only [PyData.canLay0]; exact rows_lay lens nums ks, decide_eq_true h2⟩
theorem rows_mix (lens : Nat → Int) (nums : Nat → List Int) : ∀ ks : List Nat, noMixAll (ks.map (rowD lens nums)) (ks.map (rowD lens nums)) = true
  | [] => by simp [noMixAll]
  | k :: r => by simp [noMixAll, rowD, noMix, noMix_ints, rows_mix lens nums r]
section
variable {prog : Program} {w : World} {A : Around} {E : Value → Shared → Prop} {s : Shared}
theorem eq_rows {lens : Nat → Int} {nums : Nat → List Int} {n k k' : Nat} {D D' : Addr} {ys ys' : Array Value} {oss oss' : List (List (Addr × Obj))} {Q : Value → Shared → Prop}
    (hD : s.heap.get? D = some (listOf ys k)) (z : AllZ n (RowZ lens nums) ys.toList oss) (ho : ∀ q ∈ oss.flatten, s.heap.get? q.1 = some q.2)
    (hD' : s.heap.get? D' = some (listOf ys' k')) (z' : AllZ n (RowZ lens nums) ys'.toList oss') (ho' : ∀ q ∈ oss'.flatten, s.heap.get? q.1 = some q.2)
    (hu : A.units + 64 < cLine) (h : Q (.bool true) s) : wpAny (model prog w) A (compareOp .Eq (.ref D) (.ref D')) Q E s := by
  obtain ⟨as, r⟩ := reads_rows hD z ho
  obtain ⟨bs, q⟩ := reads_rows hD' z' ho'
  refine eq_dataH_same r q (rows_shaped _ _ _) (rows_shaped _ _ _) hu (by simp only [noMix]; exact rows_mix _ _ _) ?_
  rw [PySem.Spec.same_self]
  exact h
end
end Mine
end
section
open PySem PySem.W PyProof.Rows PySem.Calls PySem.Spec
namespace Mine
/-- all that the walks want to know of the drawn numbers -/
structure Plan (ds : List Int) (fr en : Nat) (c1 c2 : Int) : Prop where
  len : ds.length ≤ 20
  bnd : ∀ n ∈ ds, 0 ≤ n ∧ n < 4096
  f1 : ∀ j, j < fr → ds[j]? = some 32
  f2 : ds[fr]? = some c1
  f3 : c1 ≠ 32
  e1 : ∀ j, j < en → (octs ds)[(octs ds).length - 1 - j]? = some 32
  e2 : (octs ds)[(octs ds).length - 1 - en]? = some c2
  e3 : en < (octs ds).length
  e4 : c2 ≠ 32
  fe : fr + en ≤ ds.length
  cut : ∀ k i r, k < 6 → StripR (octs ds) k i r → Cut (((octs ds).drop i).take ((octs ds).length - r - i)) (numsT ds fr en k) ∧ (((((octs ds).drop i).take ((octs ds).length - r - i)).length : Nat) : Int) = lensT ds fr en k
theorem first_ne : ∀ l : List Int, (∃ x ∈ l, x ≠ 32) → ∃ (f : Nat) (c : Int), (∀ j, j < f → l[j]? = some 32) ∧ l[f]? = some c ∧ c ≠ 32
  | [], h => by obtain ⟨_, h, _⟩ := h; cases h
  | a :: l, h => by
    by_cases ha : a = 32
    · subst ha
      have h' : ∃ x ∈ l, x ≠ 32 := by
        obtain ⟨x, hx, ne⟩ := h
        rcases List.mem_cons.mp hx with e | e
        · exact absurd e ne
        · exact ⟨x, e, ne⟩
      obtain ⟨f, c, h1, h2, h3⟩ := first_ne l h'
      refine ⟨f + 1, c, fun j hj => ?_, by simpa using h2, h3⟩
      cases j with
      | zero => rfl
      | succ j => simpa using h1 j (by omega)
    · exact ⟨0, a, fun j hj => absurd hj (Nat.not_lt_zero _), rfl, ha⟩
/-- the blanks at the front are numbers of their own -/
theorem front_drop : ∀ (i : Nat) (ds : List Int), (∀ j, j < i → ds[j]? = some 32) → (octs ds).drop i = octs (ds.drop i)
  | 0, ds, _ => by simp
  | i + 1, [], h => by have := h 0 (by omega); simp at this
  | i + 1, d :: ds, h => by
    have e : d = 32 := by simpa using h 0 (by omega)
    subst e
    rw [octs_cons, octs1_lo (by decide)]
    show (octs ds).drop i = octs (ds.drop i)
    exact front_drop i ds fun j hj => by simpa using h (j + 1) (by omega)
theorem front_at (f : Nat) (ds : List Int) (h : ∀ j, j < f → ds[j]? = some 32) : ∀ j, j < f → (octs ds)[j]? = some 32 := by
  intro j hj
  have e := front_drop j ds fun p hp => h p (by omega)
  have e2 : (octs ds)[j]? = ((octs ds).drop j)[0]? := by simp
  have e3 : ds.drop j = 32 :: ds.drop (j + 1) := by
    have := h j hj
    obtain ⟨hl, hv⟩ := List.getElem?_eq_some_iff.mp this
    rw [List.drop_eq_getElem_cons hl, hv]
  rw [e2, e, e3, octs_cons, octs1_lo (by decide)]
  rfl
theorem front_stop {f : Nat} {ds : List Int} {c : Int} (h : ∀ j, j < f → ds[j]? = some 32) (hc : ds[f]? = some c) (hb : 0 ≤ c ∧ c < 4096) (ne : c ≠ 32) : ∃ c', (octs ds)[f]? = some c' ∧ c' ≠ 32 := by
  have e := front_drop f ds h
  have e2 : (octs ds)[f]? = ((octs ds).drop f)[0]? := by simp
  have e3 : ds.drop f = c :: ds.drop (f + 1) := by
    obtain ⟨hl, hv⟩ := List.getElem?_eq_some_iff.mp hc
    rw [List.drop_eq_getElem_cons hl, hv]
  by_cases h64 : c < 64
  · refine ⟨c, ?_, ne⟩
    rw [e2, e, e3, octs_cons, octs1_lo h64]
    rfl
  · have := fdiv64 (by omega) hb.2
    refine ⟨64 + c.fdiv 64, ?_, by omega⟩
    rw [e2, e, e3, octs_cons, octs1_hi h64]
    rfl
theorem last_at (a b : List Int) (j : Nat) (h : j < b.length) : (a ++ b)[(a ++ b).length - 1 - j]? = b[b.length - 1 - j]? := by
  rw [List.length_append, List.getElem?_append_right (by omega)]
  congr 1
  omega
theorem back_at (a b : List Int) (j : Nat) (h : j < a.length) : (a ++ b)[(a ++ b).length - 1 - (j + b.length)]? = a[a.length - 1 - j]? := by
  rw [List.length_append, List.getElem?_append_left (by omega)]
  congr 1
  omega
/-- each blank at the end costs one number -/
theorem back_cut : ∀ (n : Nat) (ds : List Int) (r : Nat), ds.length = n → (∀ x ∈ ds, 0 ≤ x ∧ x < 4096) → r ≤ (octs ds).length → (∀ j, j < r → (octs ds)[(octs ds).length - 1 - j]? = some 32) →
    r ≤ ds.length ∧ ∃ tl, (octs ds).take ((octs ds).length - r) = octs (ds.take (ds.length - r)) ++ tl ∧ (tl = [] ∨ ∃ c, tl = [c] ∧ 64 ≤ c ∧ c < 128) := by
  intro n
  induction n with
  | zero =>
    intro ds r hn _ hr _
    have e : ds = [] := List.eq_nil_of_length_eq_zero hn
    subst e
    rw [octs_nil] at hr
    have : r = 0 := by simpa using hr
    subst this
    exact ⟨Nat.le_refl _, [], rfl, .inl rfl⟩
  | succ n ih =>
    intro ds r hn hb hr h
    cases r with
    | zero => exact ⟨Nat.zero_le _, [], by simp, .inl rfl⟩
    | succ r =>
      obtain ⟨xs, d, rfl⟩ : ∃ xs d, ds = xs ++ [d] := by
        rcases List.eq_nil_or_concat ds with e | ⟨xs, d, e⟩
        · subst e; simp at hn
        · exact ⟨xs, d, by simpa using e⟩
      have hd := hb d (List.mem_append_right _ (.head _))
      have hx : xs.length = n := by simpa using hn
      rw [octs_snoc] at hr h ⊢
      by_cases h64 : d < 64
      · rw [octs1_lo h64] at hr h ⊢
        have h0 := h 0 (by omega)
        rw [last_at _ _ 0 (by simp)] at h0
        have e : d = 32 := by simpa using h0
        subst e
        rw [List.length_append, List.length_singleton] at hr
        obtain ⟨g1, tl, g2, g3⟩ := ih xs r hx (fun x hx => hb x (List.mem_append_left _ hx)) (by omega) (fun j hj => by
          have := h (j + 1) (by omega)
          rw [← back_at (octs xs) [32] j (by omega)]
          exact this)
        refine ⟨by rw [List.length_append, List.length_singleton]; omega, tl, ?_, g3⟩
        rw [List.length_append, List.length_append, List.length_singleton, List.take_append_of_le_length (by omega), List.take_append_of_le_length (by omega), show (octs xs).length + 1 - (r + 1) = (octs xs).length - r by omega, show xs.length + 1 - (r + 1) = xs.length - r by omega]
        exact g2
      · have hq := fdiv64 (by omega) hd.2
        rw [octs1_hi h64] at hr h ⊢
        cases r with
        | zero =>
          refine ⟨by rw [List.length_append, List.length_singleton]; omega, [64 + d.fdiv 64], ?_, .inr ⟨_, rfl, hq.1, hq.2.1⟩⟩
          have e1 : (octs xs ++ [64 + d.fdiv 64, d.fmod 64]).length - (0 + 1) = (octs xs ++ [64 + d.fdiv 64]).length := by simp
          have e2 : octs xs ++ [64 + d.fdiv 64, d.fmod 64] = (octs xs ++ [64 + d.fdiv 64]) ++ [d.fmod 64] := by simp
          rw [e1, e2, List.take_left']
          · simp
          · rfl
        | succ r =>
          have h1 := h 1 (by omega)
          rw [last_at _ _ 1 (by simp)] at h1
          have e : 64 + d.fdiv 64 = 32 := by simpa using h1
          omega
theorem strip_counts {cs : List Int} {k i r f e : Nat} {c1 c2 : Int} (S : StripR cs k i r) (f1 : ∀ j, j < f → cs[j]? = some 32) (f2 : cs[f]? = some c1) (f3 : c1 ≠ 32)
    (e1 : ∀ j, j < e → cs[cs.length - 1 - j]? = some 32) (e2 : cs[cs.length - 1 - e]? = some c2) (e3 : c2 ≠ 32) : i = min k f ∧ r = min (k - min k f) e := by
  have a : i ≤ f := by
    rcases Nat.lt_or_ge f i with h | h
    · have := S.front f h
      rw [f2] at this
      exact absurd (Option.some.inj this) f3
    · exact h
  have b : i = k ∨ f ≤ i := by
    rcases S.stop1 with h | ⟨c, h1, h2⟩
    · exact .inl h
    · refine .inr ?_
      rcases Nat.lt_or_ge i f with h | h
      · rw [f1 i h] at h1
        exact absurd (Option.some.inj h1).symm h2
      · exact h
  have a' : r ≤ e := by
    rcases Nat.lt_or_ge e r with h | h
    · have := S.back e h
      rw [e2] at this
      exact absurd (Option.some.inj this) e3
    · exact h
  have b' : i + r = k ∨ e ≤ r := by
    rcases S.stop2 with h | ⟨c, h1, h2⟩
    · exact .inl h
    · refine .inr ?_
      rcases Nat.lt_or_ge r e with h | h
      · rw [e1 r h] at h1
        exact absurd (Option.some.inj h1).symm h2
      · exact h
  have := S.sum
  omega
theorem plan_made {ds : List Int} (len : ds.length ≤ 20) (bnd : ∀ n ∈ ds, 0 ≤ n ∧ n < 4096) (hne : ∃ x ∈ ds, x ≠ 32) : ∃ fr en c1 c2, Plan ds fr en c1 c2 := by
  obtain ⟨fr, c1, f1, f2, f3⟩ := first_ne ds hne
  have hfl : fr < ds.length := (List.getElem?_eq_some_iff.mp f2).1
  have g1 := front_at fr ds f1
  obtain ⟨c1', g2, g3⟩ := front_stop f1 f2 (bnd c1 (List.mem_of_getElem? f2)) f3
  obtain ⟨en, c2, e1, e2, e4⟩ := first_ne (octs ds).reverse ⟨c1', List.mem_reverse.mpr (List.mem_of_getElem? g2), g3⟩
  have e3 : en < (octs ds).length := by
    have := (List.getElem?_eq_some_iff.mp e2).1
    rwa [List.length_reverse] at this
  have e1' : ∀ j, j < en → (octs ds)[(octs ds).length - 1 - j]? = some 32 := fun j hj => by
    have := e1 j hj
    rwa [List.getElem?_reverse (by omega)] at this
  have e2' : (octs ds)[(octs ds).length - 1 - en]? = some c2 := by rwa [List.getElem?_reverse e3] at e2
  have hfo : fr < (octs ds).length := (List.getElem?_eq_some_iff.mp g2).1
  have hfe : fr + en < (octs ds).length := by
    rcases Nat.lt_or_ge (fr + en) (octs ds).length with h | h
    · exact h
    · have := e1' ((octs ds).length - 1 - fr) (by omega)
      rw [show (octs ds).length - 1 - ((octs ds).length - 1 - fr) = fr by omega, g2] at this
      exact absurd (Option.some.inj this) g3
  have key : ∀ i r, i ≤ fr → r ≤ en → r ≤ (ds.drop i).length ∧ ∃ tl, ((octs ds).drop i).take ((octs ds).length - r - i) = octs ((ds.drop i).take ((ds.drop i).length - r)) ++ tl ∧ (tl = [] ∨ ∃ c, tl = [c] ∧ 64 ≤ c ∧ c < 128) := fun i r hi hr => by
    have ed := front_drop i ds fun j hj => f1 j (by omega)
    have el : (octs (ds.drop i)).length = (octs ds).length - i := by rw [← ed, List.length_drop]
    obtain ⟨k1, tl, k2, k3⟩ := back_cut _ (ds.drop i) r rfl (fun x hx => bnd x (List.mem_of_mem_drop hx)) (by omega) (fun j hj => by
      rw [el, ← ed, List.getElem?_drop, show i + ((octs ds).length - i - 1 - j) = (octs ds).length - 1 - j by omega]
      exact e1' j (by omega))
    refine ⟨k1, tl, ?_, k3⟩
    rw [ed, ← k2, el, show (octs ds).length - r - i = (octs ds).length - i - r by omega]
  refine ⟨fr, en, c1, c2, len, bnd, f1, f2, f3, e1', e2', e3, e4, ?_, fun k i r hk S => ?_⟩
  · have := (key fr en (Nat.le_refl _) (Nat.le_refl _)).1
    rw [List.length_drop] at this
    omega
  · obtain ⟨hi, hr⟩ := strip_counts S g1 g2 g3 e1' e2' e4
    have room := S.room
    obtain ⟨k1, tl, k2, k3⟩ := key i r (by omega) (by omega)
    rw [List.length_drop] at k1 k2
    have en' : (ds.drop i).take (ds.length - i - r) = numsT ds fr en k := by
      unfold numsT
      rw [← hr, ← hi, show ds.length - i - r = ds.length - r - i by omega]
    constructor
    · refine ⟨tl, by rw [k2, en'], fun n hn => ?_, k3⟩
      rw [← en'] at hn
      exact bnd n (List.mem_of_mem_drop (List.mem_of_mem_take hn))
    · rw [List.length_take, List.length_drop]
      unfold lensT
      rw [← hr, ← hi]
      omega
theorem pick_bound (x : Int) : 0 ≤ pick x ∧ pick x < 4096 := by
  have h0 : 0 ≤ x.fmod 6 := Int.fmod_nonneg_of_pos _ (by decide)
  have h1 : x.fmod 6 < 6 := Int.fmod_lt_of_pos _ (by decide)
  have h2 : 0 ≤ (x.fdiv 6).fmod 4096 := Int.fmod_nonneg_of_pos _ (by decide)
  have h3 : (x.fdiv 6).fmod 4096 < 4096 := Int.fmod_lt_of_pos _ (by decide)
  unfold pick
  have : (x.fmod 6).toNat < 6 := by omega
  match (x.fmod 6).toNat, this with
  | 0, _ => show (0 : Int) ≤ 32 ∧ (32 : Int) < 4096; decide
  | 1, _ => show (0 : Int) ≤ 32 ∧ (32 : Int) < 4096; decide
  | 2, _ => show (0 : Int) ≤ 96 ∧ (96 : Int) < 4096; decide
  | 3, _ => show (0 : Int) ≤ 2080 ∧ (2080 : Int) < 4096; decide
  | 4, _ => exact ⟨h2, h3⟩
  | 5, _ => show (0 : Int) ≤ 5 ∧ (5 : Int) < 4096; decide
theorem drawn_plan (ns : List Int) : ∃ fr en c1 c2, Plan (drawnOf ns) fr en c1 c2 := by
  refine plan_made ?_ ?_ ?_
  · have := srcOf_len ns
    simp only [drawnOf, List.length_map]
    omega
  · intro n hn
    obtain ⟨x, _, rfl⟩ := List.mem_map.mp hn
    exact pick_bound x
  · refine ⟨pick 5, List.mem_map.mpr ⟨5, ?_, rfl⟩, by decide⟩
    simp [srcOf]
end Mine
end
section
open PySem PySem.W PyProof.Rows PySem.Calls PySem.Spec
namespace Mine
theorem plan_of {vs : List Value} {ns : List Int} (h : IntsAre vs (drawnOf ns)) : ∃ ds fr en c1 c2, IntsAre vs ds ∧ Plan ds fr en c1 c2 := by
  obtain ⟨fr, en, c1, c2, p⟩ := drawn_plan ns
  exact ⟨_, fr, en, c1, c2, h, p⟩
section
local macro_rules | `(tactic| walk_at "call ref") => `(tactic| refine hold ?_)
local macro_rules | `(tactic| walk_at "compareOp Eq ref ref") => `(tactic| refine hold ?_)
set_option maxHeartbeats 8000000 in
theorem law_walks : PySem.Challenge.rw_pe0017_01.Holds := hd (by w_top off; w_strict (
  k_go0
  (all_goals try k_fold)
  k_steps
  refine Hold.out ?_
  (with_reducible rename PyData.layable0 (PyData.list (List.map PyData.int _)) = true => hlay)
  (with_reducible rename Heap.IsList _ _ _ => hL)
  (with_reducible rename IntsAre _ _ => hI)
  (with_reducible rename Fr _ _ _ _ => F1)
  (with_reducible rename Top _ _ _ _ _ _ => T1)
  (with_reducible rename Below _ _ _ _ => B1)
  (with_reducible rename Frag.In _ _ => X1)
  (with_reducible rename News _ _ _ _ => N1)
  refine drawn_call (X1.keeps F1.keep) (T1.keeps F1.keep) (by ktr_room) (by ktr_units) (stays_list F1.keep hL) hI (by omega) hlay ?_
  intro r ws k h2 tk2 hk2 hr2 ho2 hI2
  dsimp only at hk2 hr2 ho2
  obtain ⟨ds, fr, en, c1, c2, hI3, P⟩ := plan_of hI2
  have F2 := F1.keeps hk2
  have N2 := head_new F1 (N1.grown hk2) ho2 hr2
  clear F1 N1 hI2
  k_steps
  refine Hold.out ?_
  (with_reducible rename Fr _ _ _ _ => F3)
  (with_reducible rename News _ _ _ _ => N3)
  have hr3 := (N3 _ (.head _)).1
  have hl3 : Heap.IsList _ _ _ := ⟨_, hr3, rfl, _, rfl⟩
  have B2 : Below callerA _ [] _ := B1
  refine run_call (outer := []) (vs := ws.toList) (lens := lensT ds fr en) (nums := numsT ds fr en) B1 F3 X1 T1 (fun _ h => nomatch h) rfl rfl (by ktr_room) (by ktr_units) (by simpa using hl3) hI3 P.len P.bnd ⟨_, _, P.e2, P.e4⟩ P.cut ?_
  intro D ys oss h4 tk4 U4 hD4 hD4' hz4 hq4
  obtain ⟨h05, V5, F5, N5, B5, X5, T5, _⟩ := turned B1 (by exact F3) (by exact N3) X1 T1 (fun _ h => nomatch h) U4
  dsimp only at U4 hD4 hq4
  clear F3 N3
  k_steps
  refine Hold.out ?_
  have hr5 := (N5 _ (.head _)).1
  have hl5 : Heap.IsList _ _ _ := ⟨_, hr5, rfl, _, rfl⟩
  refine told_call (vs := ws.toList) (X5.keeps F5.keep) (T5.keeps F5.keep) (by ktr_room) (by ktr_units) (by simpa using hl5) hI3 P.len P.bnd P.f1 P.f2 P.f3 P.e1 P.e2 P.e3 P.e4 P.fe ?_
  intro D6 ys6 k6 oss6 h6 tk6 hk6 hD6 hD6' hz6 hq6
  dsimp only at hk6 hD6 hq6
  have F6 := F5.keeps hk6
  have N6 := N5.grown hk6
  clear F5 N5
  k_steps
  refine Hold.out ?_
  have F7 : Fr _ _ h6 _ := ⟨F6.ns, fun b o e => F6.keep b o (V5.other b o e (fun h => nomatch h)), V5.size ▸ F6.above⟩
  refine eq_rows (ys := ys.toArray) (hk6 _ _ hD4') (by simpa using hz4) (fun q hq => ?_) hD6' hz6 (fun q hq => (hq6 q hq).1) (by ktr_units) ?_
  · obtain ⟨os, hos, hq⟩ := List.mem_flatten.mp hq
    exact hk6 _ _ (hq4 os hos q hq).1
  k_end
  kc_close))
end
end Mine
end
theorem PySem.Challenge.cw_pe0017_01_holds : PySem.Challenge.rw_pe0017_01.Holds := by
  exact Mine.law_walks
