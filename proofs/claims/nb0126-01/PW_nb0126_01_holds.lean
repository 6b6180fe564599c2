import PyProof.Rows.All
import Wide.All
import OpenK.AllK
import Wide.FinOn
import Lean
import PySem.Challenge.RW_nb0126_01
open PySem PySem.W PyProof.Rows
set_option Elab.async false
namespace Mine
set_option maxRecDepth 100000 in
set_option maxHeartbeats 8000000 in
open_top hd for PySem.Challenge.rw_nb0126_01
end Mine
open PySem.Spec PySem.Calls
set_option maxRecDepth 100000
namespace Mine
noncomputable abbrev LS : List Str := looseW Mine.hd.view_39 [Str.ofString "insort_right", Str.ofString "bisect_right", Str.ofString "insort_left", Str.ofString "bisect_left"]

/-- a contract of a call: what the ledger must hold, what comes back -/
def Ct (nd : Nat) (w : World) (mean : ExcName → Option Value) (mg mb : Str → Option Value) (f : Addr) (vs : List Value) (kw : List (Str × Value)) (pre : List (Addr × Obj) → Prop)
    (post : List (Addr × Obj) → Value → List (Addr × Obj) → Prop) : Prop :=
  ∀ (dp un : Nat) (gd : Option (List Code)) (cn : Str) (cs : Scope) (a : Addr) (ccd : Value) (cl : List (Str × Addr)) (outer : List Env) (A₀ : Around) (base h₀ : Heap) (L : Addr) (m : Str → Option Value) (news : List (Addr × Obj)) (s : Shared)
    (Q E : Value → Shared → Prop),
    Below A₀ base outer h₀ → Fr h₀ L s.heap m → (Mine.hd.heap_39 w.params).In h₀ → News h₀ L s.heap news → Top Mine.hd.view_39 LS mean mg mb h₀ → cs.kind = .function → pre news → dp + nd < recursionLimit → un + 8 * nd + 100 < cLine →
    (∀ r news' h' tk', Fr h₀ L h' m → News h₀ L h' news' → post news r news' → Q r { s with heap := h', toks := tk' }) →
    wpAny (model PySem.Challenge.rw_nb0126_01.row.prog w) (ktrTop dp un gd cn cs L a ccd cl outer) (call (.ref f) vs kw) Q E s

theorem fdivE (n k : Int) (h : 0 ≤ k) : n.fdiv k = n / k := Int.fdiv_eq_ediv_of_nonneg n h
theorem fmodE (n k : Int) (h : 0 ≤ k) : n.fmod k = n % k := Int.fmod_eq_emod_of_nonneg n h

/-- the octets of a number, the highest first -/
def octs (n : Int) : List Int :=
  if n < 64 then [n % 64] else if n < 4096 then [64 + n / 64 % 64, n % 64] else [64 + n / 64 / 64 % 64, 64 + n / 64 % 64, n % 64]
end Mine
namespace Mine
section
local macro_rules | `(tactic| walk_at "exec While Compare cons nil") => `(tactic| (k_here; k_dflt (refine whl_start 100 ?_)))
local macro_rules | `(tactic| walk_at "WhlIf") => `(tactic| (first | (refine WhlIf.yes (by simp only [fdivE _ _ (by decide : (0:Int) ≤ 64), decide_eq_true_eq]; omega) ?_) | (refine WhlIf.no (by simp only [fdivE _ _ (by decide : (0:Int) ≤ 64), decide_eq_false_iff_not]; omega) ?_)))
set_option maxHeartbeats 8000000 in
theorem octets_ct {w : World} {mean : ExcName → Option Value} {mg mb : Str → Option Value} {n : Int} {t : Tok} (h0 : 0 ≤ n) (h1 : n < 262144) :
    Ct 3 w mean mg mb 64 [.int n t] [] (fun _ => True) (fun news r news' => ∃ a vs k, r = .ref a ∧ IntsAre vs (octs n) ∧ (∀ p ∈ news, p.1 < a) ∧ news' = (a, W.listOf vs.toArray k) :: news) := by
  w_on
  unfold Ct
  k_fill
  intro dp un gd cn cs a ccd cl outer A₀ base h₀ L m news s Q E B F X N T hk hpre hd hu hret
  by_cases hn1 : n < 64
  · refine wpAny_call ?_
    k_dflt ktr_enter
    k_steps
    refine hret _ _ _ _ (by assumption) (by assumption) ⟨_, [_], _, rfl, ?_, by assumption, rfl⟩
    unfold octs
    rw [if_pos hn1, ← fmodE _ _ (by decide)]
    exact .cons _ _ .nil
  · by_cases hn2 : n < 4096
    · refine wpAny_call ?_
      k_dflt ktr_enter
      k_steps
      refine hret _ ((_, W.listOf (List.toArray [_, _]) _) :: news) _ _ (by assumption) (cb_drop (by assumption) (List.forall_mem_cons.mpr ⟨List.Mem.head _, fun p hp => .tail _ (.tail _ (.tail _ hp))⟩)) ⟨_, [_, _], _, rfl, ?_, ktn_ltOf (And.right (And.right (by assumption))), rfl⟩
      unfold octs
      rw [if_neg hn1, if_pos hn2, ← fmodE n _ (by decide), ← fdivE n _ (by decide), ← fmodE (n.fdiv 64) _ (by decide)]
      exact .cons _ _ (.cons _ _ .nil)
    · refine wpAny_call ?_
      k_dflt ktr_enter
      k_steps
      refine hret _ ((_, W.listOf (List.toArray [_, _, _]) _) :: news) _ _ (by assumption) (cb_drop (by assumption) (List.forall_mem_cons.mpr ⟨List.Mem.head _, fun p hp => .tail _ (.tail _ (.tail _ (.tail _ (.tail _ hp))))⟩)) ⟨_, [_, _, _], _, rfl, ?_, ktn_ltOf (And.right (And.right (And.right (And.right (by assumption))))), rfl⟩
      unfold octs
      rw [if_neg hn1, if_neg hn2, ← fmodE n _ (by decide), ← fdivE n _ (by decide), ← fmodE (n.fdiv 64) _ (by decide), ← fdivE (n.fdiv 64) _ (by decide), ← fmodE ((n.fdiv 64).fdiv 64) _ (by decide)]
      exact .cons _ _ (.cons _ _ (.cons _ _ .nil))
end
end Mine
namespace Mine
/-- a list's iterator at place i -/
def LiO (o : Obj) (l : Addr) (i : Nat) : Prop := o.cls = .type "list_iterator" ∧ o.data = .fields #[.ref l, .int i 0]
section
variable {prog : Program} {w : World} {A : Around} {E : Value → Shared → Prop} {s : Shared} {h₀ : Heap} {L l it : Addr} {m : Str → Option Value} {news : List (Addr × Obj)} {g : Obj → List (Addr × Obj)} {io : Obj} {its : Array Value} {k i : Nat} {x : Value}
theorem li_iter {Q : Value → Shared → Prop} (F : Fr h₀ L s.heap m) (N : News h₀ L s.heap news) (hp : (l, W.listOf its k) ∈ news)
    (h : ∀ (I : Addr) h' oI, Fr h₀ L h' m → News h₀ L h' ((I, oI) :: news) → (∀ p ∈ news, p.1 < I) → LiO oI l 0 → Q (.ref I) { s with heap := h' }) :
    wpAny (model prog w) A (call (.builtin "iter") [.ref l]) Q E s := by
  refine call_function_entry (by decide +kernel) (by decide +kernel) kdk_entry_iter (kdk_args_iter _) ?_
  unfold Builtin.«iter»
  refine wpAny_bind (m := someArgs "iter" 1 2 _) (wpAny_of_eq (a := [Value.ref l]) (by first | rfl | kernel_rfl!) ?_)
  show wpAny _ _ (pyIter (.ref l) >>= _) _ _ _
  refine wpAny_bind (wpAny_pyIter_list (items := its) ⟨_, (N _ hp).1, rfl, _, rfl⟩ ?_)
  exact wpAny_pure ⟨_, rfl, h _ _ _ (F.push _) (News.push F N _ rfl) (fun q hq => Heap.lt_size (N q hq).1) ⟨rfl, rfl⟩⟩
theorem li_special {Q : Option Value → Shared → Prop} (hit : s.heap.IsListIter it l i) (hl : s.heap.IsList l its) (hx : its[i]? = some x)
    (hQ : ∀ h', h'.IsListIter it l (i + 1) → Heap.SameBut it s.heap h' → Q (some x) { s with heap := h' }) :
    wpAny (model prog w) A (callSpecial? (.ref it) (Str.ofString "__next__")) Q E s := by
  obtain ⟨o, ho, hc, hd⟩ := id hit
  obtain ⟨ol, hol, _, nl, hdl⟩ := hl
  refine wpAny_callSpecial?_slot (name := Str.ofString "__next__") hit.typeIs slot_listiter_next
    (wpAny_call_entry slot_listiter_next hit.typeIs entry_listiter_next ?_ (args_listiter_next _))
  show wpAny _ _ (field (.ref it) 0 >>= _) _ _ s
  refine wpAny_bind (wpAny_field ho hd (x := .ref l) rfl ?_)
  show wpAny _ _ (if (Value.ref l == Value.none) = true then _ else _) _ _ s
  rw [if_neg (show ¬ ((Value.ref l == Value.none) = true) from Bool.false_ne_true)]
  show wpAny _ _ (field (.ref it) 1 >>= _) _ _ s
  refine wpAny_bind (wpAny_field ho hd (x := .int i 0) rfl ?_)
  show wpAny _ _ (seqItems? (.ref l) >>= _) _ _ s
  refine wpAny_bind (wpAny_seqItems hol hdl ?_)
  simp only [Int.toNat_natCast, hx]
  refine wpAny_bind (wpAny_setField ho hd (by simp) (wpAny_pure ⟨x, rfl, hQ _ ?_ (Heap.SameBut.update ..)⟩))
  exact ⟨_, Heap.get?_update_self _ ho (Obj.isFreed_of_fields (Obj.data_mapFields hd _)), (Obj.cls_mapFields ..).trans hc, by
    rw [Obj.data_mapFields hd]; simp [rawInt]⟩
theorem li_next {vs : List Value} {Q : Value → Shared → Prop} (F : Fr h₀ L s.heap m) (N : News h₀ L s.heap news) (U : UpdF it io news g) (hi : LiO io l i) (hp : (l, W.listOf vs.toArray k) ∈ news) (hx : vs[i]? = some x)
    (h : ∀ h' o', Fr h₀ L h' m → News h₀ L h' (g o') → LiO o' l (i + 1) → Q x { s with heap := h' }) :
    wpAny (model prog w) A (call (.builtin "next") [.ref it]) Q E s := by
  obtain ⟨pre, post, hl, hg, a, b⟩ := U.split
  have hmem : (it, io) ∈ news := by rw [hl]; exact List.mem_append_right _ (.head _)
  have hm := N (it, io) hmem
  have hit : s.heap.IsListIter it l i := ⟨_, hm.1, hi.1, hi.2⟩
  refine call_function_entry (by decide +kernel) (by decide +kernel) kdk_entry_next (kdk_args_next _) ?_
  unfold Builtin.«next»
  refine wpAny_bind (m := someArgs "next" 1 2 _) (wpAny_of_eq (a := [Value.ref it]) (by first | rfl | kernel_rfl!) ?_)
  dsimp only
  refine wpAny_bind (wpAny_specialOf (name := Str.ofString "__next__") hit.typeIs slot_listiter_next.lookup ?_)
  refine wpAny_ite_split (fun hab => absurd hab (by decide)) (fun _ => ?_)
  refine wpAny_bind (li_special (its := vs.toArray) hit ⟨_, (N _ hp).1, rfl, _, rfl⟩ (by simpa using hx) fun h' hit' hs => ?_)
  obtain ⟨o', ho', hc', hd'⟩ := hit'
  exact wpAny_pure ⟨_, rfl, h h' o' (F.change hs hm.2.1 hm.2.2) (hg o' ▸ (show News h₀ L s.heap (pre ++ (it, io) :: post) from hl ▸ N).setIn a b hs ho') ⟨hc', hd'⟩⟩
end

/-- an octet that goes on, and one that ends a row -/
def Cont (b : Int) : Prop := 64 ≤ b ∧ b < 128
def Last (b : Int) : Prop := (0 ≤ b ∧ b < 64) ∨ (128 ≤ b ∧ b < 192)
theorem and63 {x : Int} (h : 0 ≤ x) : Builtin.bitAnd x 63 = x % 64 := by
  rw [bitAnd_pp h (by decide)]
  have e : x.toNat &&& (63 : Int).toNat = x.toNat % 64 := Nat.and_two_pow_sub_one_eq_mod x.toNat 6
  rw [e]
  omega
theorem and64 {x : Int} (h : 0 ≤ x) (h2 : x < 192) : Builtin.bitAnd x 64 = x / 64 % 2 * 64 := by
  rw [bitAnd_pp h (by decide)]
  have e : ∀ y : Nat, y < 192 → y &&& 64 = y / 64 % 2 * 64 := by decide +kernel
  have e2 : x.toNat &&& (64 : Int).toNat = x.toNat / 64 % 2 * 64 := e x.toNat (by omega)
  rw [e2]
  omega
theorem or64 {a r : Int} (ha : 0 ≤ a) (h0 : 0 ≤ r) (h1 : r < 64) : Builtin.bitOr (a * 64) r = a * 64 + r := by
  rw [bitOr_and, bitAnd_pp (by omega) h0]
  have e : 2 ^ 6 * a.toNat + r.toNat = 2 ^ 6 * a.toNat ||| r.toNat := Nat.two_pow_add_eq_or_of_lt (by omega) a.toNat
  have e3 : (2 ^ 6 * a.toNat) &&& r.toNat = 0 := by
    apply Nat.eq_of_testBit_eq
    intro i
    rw [Nat.testBit_and, Nat.zero_testBit, Nat.testBit_two_pow_mul]
    by_cases hi : 6 ≤ i
    · have : r.toNat.testBit i = false := Nat.testBit_lt_two_pow (Nat.lt_of_lt_of_le (by omega : r.toNat < 2 ^ 6) (Nat.pow_le_pow_right (by decide) hi))
      simp [this]
    · simp [hi]
  have e4 : (a * 64).toNat = 2 ^ 6 * a.toNat := by omega
  rw [e4, e3]
  omega
theorem t_yes {b : Int} (h : Cont b) : (Builtin.bitAnd b 64 != 0) = true := by
  unfold Cont at h
  rw [and64 (by omega) (by omega), bne_iff_ne]
  omega
theorem t_no {b : Int} (h : Last b) : (Builtin.bitAnd b 64 != 0) = false := by
  unfold Last at h
  rw [and64 (by omega) (by omega), bne_eq_false_iff_eq]
  omega
theorem Cont.nn {b : Int} (h : Cont b) : 0 ≤ b := by unfold Cont at h; omega
theorem Last.nn {b : Int} (h : Last b) : 0 ≤ b := by unfold Last at h; omega
/-- what the reader makes of a row -/
def pv : List Int → Int
  | [] => 0
  | b :: r => r.foldl (fun a b => a * 64 + b % 64) (b % 64)
section
variable {prog : Program} {w : World} {A : Around} {E : Value → Shared → Prop} {s : Shared} {a b r : Int} {t u : Tok} {Q : Value → Shared → Prop}
theorem st_and63 (hb : 0 ≤ b) (h : Q (.int (b % 64) s.toks) { s with toks := s.toks + 1 }) : wpAny (model prog w) A (binaryOp .BitAnd (.int b t) (.int 63 u)) Q E s :=
  and_int (by rw [and63 hb]; exact h)
theorem st_shl6 (ha : 0 ≤ a) (h2 : a < 1000000000) (h : Q (.int (a * 64) s.toks) { s with toks := s.toks + 1 }) : wpAny (model prog w) A (inplaceOp .LShift (.int a t) (.int 6 u)) Q E s :=
  ilshift_int_small (by decide) (by decide) (by omega) h
theorem st_or (ha : 0 ≤ a) (h0 : 0 ≤ r) (h1 : r < 64) (h : Q (.int (a * 64 + r) s.toks) { s with toks := s.toks + 1 }) : wpAny (model prog w) A (inplaceOp .BitOr (.int (a * 64) t) (.int r u)) Q E s :=
  ior_int (by rw [or64 ha h0 h1]; exact h)
end
section
local macro_rules | `(tactic| walk_at "WhlIf") => `(tactic| (first | (refine WhlIf.yes (t_yes (by with_reducible assumption)) ?_) | (refine WhlIf.no (t_no (by with_reducible assumption)) ?_)))
local macro_rules | `(tactic| k_mem) => `(tactic| first | with_reducible assumption | (refine List.mem_cons_of_mem _ ?_; k_mem))
local macro_rules | `(tactic| walk_at "call builtin:iter") => `(tactic| (k_here; (with_reducible show wpAny _ _ (call (Value.builtin "iter") [Value.ref _]) _ _ _); k_dflt (refine li_iter (by k_asm) (by k_asm) (by k_mem) ?_); intro D' h' o' F' N' l1 hi'; (try k_lt l1)))
local macro_rules | `(tactic| walk_at "call builtin:next") => `(tactic| (k_here; (with_reducible show wpAny _ _ (call (Value.builtin "next") [Value.ref _]) _ _ _); k_dflt (refine' li_next ?ln1 ?ln2 ?ln3 ?ln4 ?ln5 ?ln6 ?_; (case ln1 => k_asm); (case ln2 => k_asm); (case ln3 => k_updF); (case ln4 => k_asm); (case ln5 => k_mem); (case ln6 => rfl); intro h' o' F' N' hi'); (try dsimp only at N')))
local macro_rules | `(tactic| walk_at "exec While BinOp cons nil") => `(tactic| (k_here; k_dflt (refine whl_start 100 ?_)))
local macro_rules | `(tactic| walk_at "call ref") => `(tactic| (k_here; k_dflt (refine wpAny_call ?_; refine' code_def ?k1 ?k2 ?k3 ?k4 ?k5 ?kA ?kF ?kK ?k6 ?k7 ?k8 ?k9 ?kB ?_ ?c2 ?c3 ?c4 ?c5; (case kA => exact rfl); (case kF => exact rfl); (case kK => exact rfl); (case k1 => k_asm); (case k2 => k_asm); (case k3 => k_asm); (case k4 => k_asm); (case k5 => k_asm); (case k6 => k_is); (case k7 => k_is); (case k8 => ktr_room); (case k9 => exact BindsTo.of_eq rfl); (case c5 => decide); (case kB => exact locs rfl); (case c2 => exact rfl); (case c3 => exact rfl); (case c4 => exact rfl); k_whole; intro g' L' h' FG' F' N' B' X' T'; (try dsimp only); (try k_fold))))
local macro_rules | `(tactic| walk_at "binaryOp BitAnd int int") => `(tactic| (k_here; (with_reducible show wpAny _ _ (binaryOp Operator.BitAnd (Value.int _ _) (Value.int 63 _)) _ _ _); k_dflt (refine st_and63 (by first | exact Cont.nn (by with_reducible assumption) | exact Last.nn (by with_reducible assumption)) ?_)))
local macro_rules | `(tactic| walk_at "inplaceOp LShift int int") => `(tactic| (k_here; k_dflt (refine st_shl6 (by omega) (by omega) ?_)))
local macro_rules | `(tactic| walk_at "inplaceOp BitOr int int") => `(tactic| (k_here; k_dflt (refine st_or (by omega) (by omega) (by omega) ?_)))
set_option maxHeartbeats 8000000 in
theorem value1_ct {w : World} {mean : ExcName → Option Value} {mg mb : Str → Option Value} {a : Addr} {b0 : Int} {t0 : Tok} {k : Nat} (c0 : Last b0) :
    Ct 3 w mean mg mb 78 [.ref a] [] (fun news => (a, W.listOf #[.int b0 t0] k) ∈ news) (fun news r news' => (∃ t, r = .int (pv [b0]) t) ∧ news' = news) := by
  w_on
  unfold Ct
  k_fill
  intro dp un gd cn cs a ccd cl outer A₀ base h₀ L m news s Q E B F X N T hk hpre hd hu hret
  refine wpAny_call ?_
  k_dflt ktr_enter
  k_steps
  exact hret _ _ _ _ (by assumption) (cb_drop (by assumption) (fun p hp => List.mem_cons_of_mem _ hp)) ⟨⟨_, rfl⟩, rfl⟩
set_option maxHeartbeats 8000000 in
theorem value2_ct {w : World} {mean : ExcName → Option Value} {mg mb : Str → Option Value} {a : Addr} {b0 b1 : Int} {t0 t1 : Tok} {k : Nat} (c0 : Cont b0) (c1 : Last b1) :
    Ct 3 w mean mg mb 78 [.ref a] [] (fun news => (a, W.listOf #[.int b0 t0, .int b1 t1] k) ∈ news) (fun news r news' => (∃ t, r = .int (pv [b0, b1]) t) ∧ news' = news) := by
  w_on
  unfold Ct
  k_fill
  intro dp un gd cn cs a ccd cl outer A₀ base h₀ L m news s Q E B F X N T hk hpre hd hu hret
  refine wpAny_call ?_
  k_dflt ktr_enter
  k_steps
  exact hret _ _ _ _ (by assumption) (cb_drop (by assumption) (fun p hp => List.mem_cons_of_mem _ hp)) ⟨⟨_, rfl⟩, rfl⟩
set_option maxHeartbeats 8000000 in
theorem value3_ct {w : World} {mean : ExcName → Option Value} {mg mb : Str → Option Value} {a : Addr} {b0 b1 b2 : Int} {t0 t1 t2 : Tok} {k : Nat} (c0 : Cont b0) (c1 : Cont b1) (c2 : Last b2) :
    Ct 3 w mean mg mb 78 [.ref a] [] (fun news => (a, W.listOf #[.int b0 t0, .int b1 t1, .int b2 t2] k) ∈ news) (fun news r news' => (∃ t, r = .int (pv [b0, b1, b2]) t) ∧ news' = news) := by
  w_on
  unfold Ct
  k_fill
  intro dp un gd cn cs a ccd cl outer A₀ base h₀ L m news s Q E B F X N T hk hpre hd hu hret
  refine wpAny_call ?_
  k_dflt ktr_enter
  k_steps
  exact hret _ _ _ _ (by assumption) (cb_drop (by assumption) (fun p hp => List.mem_cons_of_mem _ hp)) ⟨⟨_, rfl⟩, rfl⟩
set_option maxHeartbeats 8000000 in
theorem value4_ct {w : World} {mean : ExcName → Option Value} {mg mb : Str → Option Value} {a : Addr} {b0 b1 b2 b3 : Int} {t0 t1 t2 t3 : Tok} {k : Nat} (c0 : Cont b0) (c1 : Cont b1) (c2 : Cont b2) (c3 : Last b3) :
    Ct 3 w mean mg mb 78 [.ref a] [] (fun news => (a, W.listOf #[.int b0 t0, .int b1 t1, .int b2 t2, .int b3 t3] k) ∈ news) (fun news r news' => (∃ t, r = .int (pv [b0, b1, b2, b3]) t) ∧ news' = news) := by
  w_on
  unfold Ct
  k_fill
  intro dp un gd cn cs a ccd cl outer A₀ base h₀ L m news s Q E B F X N T hk hpre hd hu hret
  refine wpAny_call ?_
  k_dflt ktr_enter
  k_steps
  exact hret _ _ _ _ (by assumption) (cb_drop (by assumption) (fun p hp => List.mem_cons_of_mem _ hp)) ⟨⟨_, rfl⟩, rfl⟩
end
/-- a row that a varint's reader reads to its end -/
def VRow : List Int → Prop
  | [b0] => Last b0
  | [b0, b1] => Cont b0 ∧ Last b1
  | [b0, b1, b2] => Cont b0 ∧ Cont b1 ∧ Last b2
  | [b0, b1, b2, b3] => Cont b0 ∧ Cont b1 ∧ Cont b2 ∧ Last b3
  | _ => False
/-- the ledger bears a list of these ints at a -/
def RowAt (news : List (Addr × Obj)) (a : Addr) (l : List Int) : Prop := ∃ vs k, (a, W.listOf vs.toArray k) ∈ news ∧ IntsAre vs l
theorem value_ct {w : World} {mean : ExcName → Option Value} {mg mb : Str → Option Value} {a : Addr} {l : List Int} (hv : VRow l) :
    Ct 3 w mean mg mb 78 [.ref a] [] (fun news => RowAt news a l) (fun news r news' => (∃ t, r = .int (pv l) t) ∧ news' = news) := by
  intro dp un gd cn cs a ccd cl outer A₀ base h₀ L m news s Q E B F X N T hk hpre hd hu hret
  obtain ⟨vs, k, hm, hi⟩ := hpre
  match l, hv with
  | [b0], c0 =>
    cases hi with | cons _ _ h1 => cases h1; exact value1_ct c0 dp un gd cn cs a ccd cl outer A₀ base h₀ L m news s Q E B F X N T hk hm hd hu hret
  | [b0, b1], ⟨c0, c1⟩ =>
    cases hi with | cons _ _ h1 => cases h1 with | cons _ _ h2 => cases h2; exact value2_ct c0 c1 dp un gd cn cs a ccd cl outer A₀ base h₀ L m news s Q E B F X N T hk hm hd hu hret
  | [b0, b1, b2], ⟨c0, c1, c2⟩ =>
    cases hi with | cons _ _ h1 => cases h1 with | cons _ _ h2 => cases h2 with | cons _ _ h3 => cases h3; exact value3_ct c0 c1 c2 dp un gd cn cs a ccd cl outer A₀ base h₀ L m news s Q E B F X N T hk hm hd hu hret
  | [b0, b1, b2, b3], ⟨c0, c1, c2, c3⟩ =>
    cases hi with | cons _ _ h1 => cases h1 with | cons _ _ h2 => cases h2 with | cons _ _ h3 => cases h3 with | cons _ _ h4 => cases h4; exact value4_ct c0 c1 c2 c3 dp un gd cn cs a ccd cl outer A₀ base h₀ L m news s Q E B F X N T hk hm hd hu hret
end Mine
namespace Mine
abbrev tupOf (vs : List Value) : Obj := { cls := .type "tuple", data := .seq vs.toArray }
theorem st_len {prog : Program} {w : World} {A : Around} {E : Value → Shared → Prop} {s : Shared} {h₀ : Heap} {L l : Addr} {news : List (Addr × Obj)} {vs : List Value} {k n : Nat} {Q : Value → Shared → Prop} (N : News h₀ L s.heap news)
    (hm : (l, W.listOf vs.toArray k) ∈ news) (hl : vs.length = n) (hz : n ≤ 16384) (h : Q (.int (n : Int) (s.toks + 1)) { s with toks := s.toks + 1 + 1 }) : wpAny (model prog w) A (call (.builtin "len") [.ref l]) Q E s :=
  kun_lenL (News.isList N hm) (by simp [hl]) (by omega) h
section
local macro_rules | `(tactic| walk_at "call builtin:len") => `(tactic| (k_here; (with_reducible show wpAny _ _ (call (Value.builtin "len") [Value.ref _]) _ _ _); k_dflt (refine st_len (by k_asm) (by k_mem) (by with_reducible assumption) (by omega) ?_)))
local macro_rules | `(tactic| k_mem) => `(tactic| first | with_reducible assumption | (refine List.mem_cons_of_mem _ ?_; k_mem))
set_option maxHeartbeats 8000000 in
theorem size_ct {w : World} {mean : ExcName → Option Value} {mg mb : Str → Option Value} {a : Addr} {l : List Int} (hl : l.length < 100) :
    Ct 3 w mean mg mb 71 [.ref a] [] (fun news => RowAt news a l) (fun news r news' => ∃ t k, r = .ref t ∧ (∀ p ∈ news, p.1 < t) ∧ news' = (t, tupOf [.int l.length k, .ref a]) :: news) := by
  w_on
  unfold Ct
  k_fill
  intro dp un gd cn cs a ccd cl outer A₀ base h₀ L m news s Q E B F X N T hk hpre hd hu hret
  obtain ⟨vs, k, hm, hi⟩ := hpre
  have hlen := IntsAre.length hi
  refine wpAny_call ?_
  k_dflt ktr_enter
  k_steps
  refine hret _ _ _ _ (by assumption) (by assumption) ⟨_, _, rfl, by assumption, rfl⟩
end
end Mine
namespace Mine
/-- the order of two rows of ints, item by item -/
def lexlt : List Int → List Int → Bool
  | [], [] => false
  | [], _ :: _ => true
  | _ :: _, [] => false
  | a :: r, b :: q => if a = b then lexlt r q else decide (a < b)
open AutoSeq1 (wpAny_loadPart')
open MeetsSeq MeetsSeq2 MeetsSeq3 SeqRoads2 SeqAt
set_option maxHeartbeats 4000000 in
theorem lt_loopAt (l b : Addr) (vs us : List Value) (ns ms : List Int) (n n2 : Nat) (dd dd2 : Option Addr) (sl sl2 : Array (Option Value)) (hi : IntsAre vs ns) (hj : IntsAre us ms) (hsz : ns.length = ms.length) (k : Nat) :
    ∀ i : Nat, ns.length - i = k → Meets (Builtin.«list.__eq__.loop» ⟨[.ref l, .ref b, rawInt i, rawInt 0], []⟩)
      (fun _ R s => s.heap.get? l = some { cls := .type "list", dict := dd, data := .seq vs.toArray n, slots := sl } ∧ s.heap.get? b = some { cls := .type "list", dict := dd2, data := .seq us.toArray n2, slots := sl2 } ∧
        R (.ok (.ret (.bool (lexlt (ns.drop i) (ms.drop i))))) s) := by
  have hvl := hi.length
  have hul := hj.length
  induction k with
  | zero =>
    intro i hk prog w A R s h
    obtain ⟨hp, g, d, tk, os⟩ := s; obtain ⟨hl, hb, h⟩ := h
    wp_walk using wpAny_loadPart' hl, wpAny_loadPart' hb
    have hi1 : vs.toArray[((i : Nat) : Int).toNat]? = none := by simp; omega
    have hi2 : us.toArray[((i : Nat) : Int).toNat]? = none := by simp; omega
    have hd : ns.drop i = [] := by simp; omega
    have hd2 : ms.drop i = [] := by simp; omega
    rw [hd, hd2] at h
    rw [hi1, hi2]
    wp_walk using wpAny_loadPart' hl, wpAny_loadPart' hb
    show R (.ok (.ret (.bool (decide (vs.toArray.size < us.toArray.size))))) _
    have e : decide (vs.toArray.size < us.toArray.size) = false := by simp; omega
    rw [e]
    exact h
  | succ k ih =>
    intro i hk prog w A R s h
    obtain ⟨hp, g, d, tk, os⟩ := s; obtain ⟨hl, hb, h⟩ := h
    wp_walk using wpAny_loadPart' hl, wpAny_loadPart' hb
    have hlt : i < ns.length := by omega
    have hlt2 : i < ms.length := by omega
    obtain ⟨t, ht⟩ := hi.get i ns[i] (by simp [hlt])
    obtain ⟨u, hu⟩ := hj.get i ms[i] (by simp [hlt2])
    have hi1 : vs.toArray[((i : Nat) : Int).toNat]? = some (.int ns[i] t) := by simpa using ht
    have hi2 : us.toArray[((i : Nat) : Int).toNat]? = some (.int ms[i] u) := by simpa using hu
    have hd : ns.drop i = ns[i] :: ns.drop (i + 1) := List.drop_eq_getElem_cons hlt
    have hd2 : ms.drop i = ms[i] :: ms.drop (i + 1) := List.drop_eq_getElem_cons hlt2
    have hc : ((i : Int) + 1) = ((i + 1 : Nat) : Int) := by push_cast; rfl
    rw [hd, hd2] at h
    rw [hi1, hi2]
    refine wpAny_bind (EqAt.int_int _ _ _ _ prog w _ _ ?_)
    by_cases he : ns[i] = ms[i]
    · have he' : (ns[i] == ms[i]) = true := by simpa using he
      rw [he']
      simp only [lexlt, if_pos he] at h
      wp_walk
      rw [hc]
      exact ⟨plainId_quiet plain_eq_loop _, codeAny_builtin entry_eq_loop (by
        rw [Around.under_plainId plain_eq_loop _]
        exact ih (i + 1) (by omega) prog w A R _ ⟨hl, hb, h⟩)⟩
    · have he' : (ns[i] == ms[i]) = false := by simpa using he
      rw [he']
      simp only [lexlt, if_neg he] at h
      wp_walk using wpAny_loadPart' hl, wpAny_loadPart' hb
      rw [hi1, hi2]
      show wpAny _ _ (compareOp .Lt (.int ns[i] t) (.int ms[i] u) >>= fun v => ret v) _ _ _
      exact wpAny_bind (wpAny_lt_int (wpAny_pure h))
set_option maxHeartbeats 4000000 in
theorem list_ltAt (l b : Addr) (vs us : List Value) (ns ms : List Int) (n n2 : Nat) (dd dd2 : Option Addr) (sl sl2 : Array (Option Value)) (hi : IntsAre vs ns) (hj : IntsAre us ms) (hsz : ns.length = ms.length) :
    Meets (Builtin.«list.__lt__» ⟨[.ref l, .ref b], []⟩)
      (fun _ R s => s.heap.get? l = some { cls := .type "list", dict := dd, data := .seq vs.toArray n, slots := sl } ∧ s.heap.get? b = some { cls := .type "list", dict := dd2, data := .seq us.toArray n2, slots := sl2 } ∧
        R (.ok (.ret (.bool (lexlt ns ms)))) s) := by
  intro prog w A R s h
  obtain ⟨hp, g, d, tk, os⟩ := s; obtain ⟨hl, hb, h⟩ := h
  have f3 := AutoSeq1.sub_list_list
  wp_walk using wpAny_loadPart' hl, wpAny_loadPart' hb
  exact ⟨plainId_quiet plain_eq_loop _, codeAny_builtin entry_eq_loop (by
    rw [Around.under_plainId plain_eq_loop _]
    exact lt_loopAt l b vs us ns ms n n2 dd dd2 sl sl2 hi hj hsz _ 0 rfl prog w A R _ ⟨hl, hb, by simpa using h⟩)⟩
section
variable {prog : Program} {w : World} {A : Around} {E : Value → Shared → Prop} {s : Shared}
theorem lt_rows {l b : Addr} {vs us : List Value} {ns ms : List Int} {Q : Value → Shared → Prop} (hl : s.heap.IsList l vs.toArray) (hb : s.heap.IsList b us.toArray) (hi : IntsAre vs ns) (hj : IntsAre us ms) (hsz : ns.length = ms.length) (hu : A.units < cLine)
    (h : Q (.bool (lexlt ns ms)) s) : wpAny (model prog w) A (richCompare .Lt (.ref l) (.ref b)) Q E s := by
  obtain ⟨⟨cls, dd, data, sl⟩, ho, hc, n, hd⟩ := id hl
  obtain ⟨⟨cls2, dd2, data2, sl2⟩, ho2, hc2, n2, hd2⟩ := id hb
  simp only at hc hd hc2 hd2
  subst hc hd hc2 hd2
  exact richCompare_meets_room (op := .Lt) ⟨_, ho, rfl⟩ ⟨_, ho2, rfl⟩ F.slot_list_lt F.entry_list_lt (F.args_list_lt_2 _ _) (list_ltAt l b vs us ns ms n n2 dd dd2 sl sl2 hi hj hsz)
    ⟨ho, ho2, show Value.bool (lexlt ns ms) ≠ Value.notImplemented ∧ Q (.bool (lexlt ns ms)) s from ⟨(fun x => nomatch x), h⟩⟩ hu
end
set_option maxHeartbeats 4000000 in
theorem tup_ltAt (l b : Addr) (p q : Int) (t u : Tok) (r r' : Addr) (n n2 : Nat) (dd dd2 : Option Addr) (sl sl2 : Array (Option Value)) (e c : Bool) :
    Meets (Builtin.«tuple.__lt__» ⟨[.ref l, .ref b], []⟩)
      (fun A R s => s.heap.get? l = some { cls := .type "tuple", dict := dd, data := .seq #[.int p t, .ref r] n, slots := sl } ∧ s.heap.get? b = some { cls := .type "tuple", dict := dd2, data := .seq #[.int q u, .ref r'] n2, slots := sl2 } ∧
        (p = q → EqAt A.in1 s (.ref r) (.ref r') e ∧ (e = false → ∀ (prog : Program) (w : World) (E : Value → Shared → Prop) (Q : Value → Shared → Prop), Q (.bool c) s → wpAny (model prog w) A.in1 (richCompare .Lt (.ref r) (.ref r')) Q E s)) ∧
        R (.ok (.ret (.bool (if p = q then (if e = true then false else c) else decide (p < q))))) s) :=
  .of_wp fun prog w A R s h => by
    obtain ⟨hp, g, d, tk, os⟩ := s; obtain ⟨hl, hb, he, h⟩ := h
    have f2 := AutoSeq1.sub_tuple_tuple
    wp_walk using wpAny_loadPart' hl, wpAny_loadPart' hb, wpAny_forIn_list _ (fun rest b s' => b.1 = none ∧ s' = ⟨hp, g, d, tk, os⟩ ∧
      ((rest = [(Value.int p t, Value.int q u), (Value.ref r, Value.ref r')]) ∨ (p = q ∧ rest = [(Value.ref r, Value.ref r')]) ∨ (p = q ∧ e = true ∧ rest = []))) _
    case turn =>
      rintro ⟨y, x⟩ rest b s' ⟨hb', rfl, hz⟩
      rcases hz with hz | ⟨hpq, hz⟩ | ⟨_, _, hz⟩
      · injection hz with hyx hrest
        injection hyx with hy hx
        subst hy hx
        refine wpAny_bind (EqAt.int_int _ _ _ _ prog w _ _ ?_)
        by_cases hpq : p = q
        · have he' : (p == q) = true := by simpa using hpq
          rw [he']
          wp_walk
          exact ⟨rfl, rfl, .inr (.inl ⟨hpq, hrest⟩)⟩
        · have he' : (p == q) = false := by simpa using hpq
          rw [he']
          rw [if_neg hpq] at h
          simp only [Bool.not_false, if_true]
          refine wpAny_bind (wpAny_rule (wpAny_bind ?_))
          show wpAny _ _ (compareOp .Lt (.int p t) (.int q u)) _ _ _
          exact wpAny_lt_int (wpAny_bind (wpAny_pure (wpAny_pure (wpAny_pure ⟨_, rfl, h⟩))))
      · injection hz with hyx hrest
        injection hyx with hy hx
        subst hy hx
        obtain ⟨he1, he2⟩ := he hpq
        refine wpAny_bind (he1 prog w _ _ ?_)
        rw [if_pos hpq] at h
        cases hee : e with
        | true =>
          wp_walk
          exact ⟨rfl, rfl, .inr (.inr ⟨hpq, rfl, hrest⟩)⟩
        | false =>
          rw [hee] at h
          simp only [Bool.not_false, if_true]
          refine wpAny_bind (wpAny_rule (wpAny_bind (he2 hee prog w _ _ ?_)))
          exact wpAny_bind (wpAny_pure (wpAny_pure (wpAny_pure ⟨_, rfl, by simpa using h⟩)))
      · cases hz
    case fin =>
      rintro ⟨b1, b2⟩ s' ⟨hb', rfl, hz⟩
      simp only at hb'
      subst hb'
      rcases hz with hz | ⟨hpq, hz⟩ | ⟨hpq, hee, hz⟩
      · cases hz
      · cases hz
      · rw [if_pos hpq, if_pos hee] at h
        wp_walk
        exact ⟨_, rfl, by simpa [Builtin.Tuple.tupleCompareSizes] using h⟩
    case h =>
      exact ⟨rfl, rfl, .inl rfl⟩
theorem lexlt_self : ∀ l : List Int, lexlt l l = false
  | [] => rfl
  | a :: r => by simp [lexlt, lexlt_self r]
/-- the order of (length, row) -/
def rowlt (ns ms : List Int) : Bool := if ns.length = ms.length then lexlt ns ms else decide (ns.length < ms.length)
section
variable {prog : Program} {w : World} {A : Around} {E : Value → Shared → Prop} {s : Shared}
theorem lt_tups {l b r r' : Addr} {vs us : List Value} {ns ms : List Int} {t u : Tok} {n n2 : Nat} {Q : Value → Shared → Prop} (hl : s.heap.get? l = some { cls := .type "tuple", data := .seq #[.int (ns.length : Int) t, .ref r] n })
    (hb : s.heap.get? b = some { cls := .type "tuple", data := .seq #[.int (ms.length : Int) u, .ref r'] n2 }) (hr : s.heap.IsList r vs.toArray) (hr' : s.heap.IsList r' us.toArray) (hi : IntsAre vs ns) (hj : IntsAre us ms) (hu : A.units + 100 < cLine)
    (h : Q (.bool (rowlt ns ms)) s) : wpAny (model prog w) A (compareOp .Lt (.ref l) (.ref b)) Q E s := by
  show wpAny _ _ (richCompare .Lt (.ref l) (.ref b)) _ _ _
  have e1 : (if (ns.length : Int) = (ms.length : Int) then (if decide (ns = ms) = true then false else lexlt ns ms) else decide ((ns.length : Int) < (ms.length : Int))) = rowlt ns ms := by
    unfold rowlt
    by_cases hq : ns.length = ms.length
    · rw [if_pos hq, if_pos (by omega)]
      by_cases hq2 : ns = ms
      · subst hq2
        simp [lexlt_self]
      · simp [hq2]
    · rw [if_neg hq, if_neg (by omega)]
      simp
  refine richCompare_meets_room (op := .Lt) ⟨_, hl, rfl⟩ ⟨_, hb, rfl⟩ F.slot_tuple_lt F.entry_tuple_lt (F.args_tuple_lt_2 _ _) (tup_ltAt l b ns.length ms.length t u r r' n n2 none none #[] #[] (decide (ns = ms)) (lexlt ns ms))
    ⟨hl, hb, fun hpq => ⟨?_, fun he prog' w' E' Q' hq => ?_⟩, ?_⟩ (by omega)
  · by_cases hrr : r = r'
    · subst hrr
      have hns : ns = ms := by
        obtain ⟨o, ho, _, k, hd⟩ := hr
        obtain ⟨o', ho', _, k', hd'⟩ := hr'
        rw [ho] at ho'
        cases ho'
        rw [hd] at hd'
        have hv : vs = us := by injection hd' with q; simpa using q
        subst hv
        exact (IntsAre.numsOf hi).symm.trans (IntsAre.numsOf hj)
      rw [decide_eq_true hns]
      exact EqAt.same _
    · refine EqAt.of_refs hrr fun prog' w' E' Q' hq => ?_
      exact eq_intsK hr hi hr' hj (by rw [units_in1]; omega) hq
  · exact lt_rows hr hr' hi hj (by omega) (by rw [units_in1]; omega) hq
  · rw [e1]
    exact ⟨(fun x => nomatch x), h⟩
end
end Mine
namespace Mine
section
variable {w : World} {mean : ExcName → Option Value} {mg mb : Str → Option Value} {f : Addr} {vs : List Value} {kw : List (Str × Value)} {pre : List (Addr × Obj) → Prop} {post : List (Addr × Obj) → Value → List (Addr × Obj) → Prop}
theorem Ct.use {nd : Nat} (C : Ct nd w mean mg mb f vs kw pre post) {dp un : Nat} {gd : Option (List Code)} {cn : Str} {cs : Scope} {a : Addr} {ccd : Value} {cl : List (Str × Addr)} {outer : List Env} {A₀ : Around} {base h₀ : Heap} {L : Addr} {m : Str → Option Value} {news : List (Addr × Obj)} {s : Shared}
    {Q E : Value → Shared → Prop} (B : Below A₀ base outer h₀) (F : Fr h₀ L s.heap m) (X : (Mine.hd.heap_39 w.params).In h₀) (N : News h₀ L s.heap news) (T : Top Mine.hd.view_39 LS mean mg mb h₀) (hk : cs.kind = .function) (hp : pre news) (hd : dp + nd < recursionLimit) (hu : un + 8 * nd + 100 < cLine)
    (ret : ∀ r news' h' tk', Fr h₀ L h' m → News h₀ L h' news' → post news r news' → Q r { s with heap := h', toks := tk' }) :
    wpAny (model PySem.Challenge.rw_nb0126_01.row.prog w) (ktrTop dp un gd cn cs L a ccd cl outer) (call (.ref f) vs kw) Q E s := C _ _ _ _ _ _ _ _ _ _ _ _ _ _ _ _ _ _ B F X N T hk hp hd hu ret
end
section
variable {w : World} {mean : ExcName → Option Value} {mg mb : Str → Option Value} {dp un : Nat} {gd : Option (List Code)} {cn : Str} {cs : Scope} {a : Addr} {ccd : Value} {cl : List (Str × Addr)} {outer : List Env} {A₀ : Around} {base h₀ : Heap} {L : Addr} {m : Str → Option Value} {news : List (Addr × Obj)} {s : Shared}
    {Q E : Value → Shared → Prop} {r : Addr} {l : List Int}
theorem value_use (hv : VRow l) (B : Below A₀ base outer h₀) (F : Fr h₀ L s.heap m) (X : (Mine.hd.heap_39 w.params).In h₀) (N : News h₀ L s.heap news) (T : Top Mine.hd.view_39 LS mean mg mb h₀) (hk : cs.kind = .function) (hp : RowAt news r l) (hd : dp + 3 < recursionLimit) (hu : un + 8 * 3 + 100 < cLine)
    (ret : ∀ t h' tk', Fr h₀ L h' m → News h₀ L h' news → Q (.int (pv l) t) { s with heap := h', toks := tk' }) :
    wpAny (model PySem.Challenge.rw_nb0126_01.row.prog w) (ktrTop dp un gd cn cs L a ccd cl outer) (call (.ref 78) [.ref r]) Q E s :=
  Ct.use (value_ct hv) B F X N T hk hp hd hu fun _ _ h' tk' F' N' ⟨⟨t, e⟩, e2⟩ => by
    subst e e2
    exact ret t h' tk' F' N'
theorem size_use (hv : l.length < 100) (B : Below A₀ base outer h₀) (F : Fr h₀ L s.heap m) (X : (Mine.hd.heap_39 w.params).In h₀) (N : News h₀ L s.heap news) (T : Top Mine.hd.view_39 LS mean mg mb h₀) (hk : cs.kind = .function) (hp : RowAt news r l) (hd : dp + 3 < recursionLimit) (hu : un + 8 * 3 + 100 < cLine)
    (ret : ∀ t k h' tk', Fr h₀ L h' m → News h₀ L h' ((t, tupOf [.int l.length k, .ref r]) :: news) → (∀ p ∈ news, p.1 < t) → Q (.ref t) { s with heap := h', toks := tk' }) :
    wpAny (model PySem.Challenge.rw_nb0126_01.row.prog w) (ktrTop dp un gd cn cs L a ccd cl outer) (call (.ref 71) [.ref r]) Q E s :=
  Ct.use (size_ct hv) B F X N T hk hp hd hu fun _ _ h' tk' F' N' ⟨t, k, e, hlt, e2⟩ => by
    subst e e2
    exact ret t k h' tk' F' N' hlt
end
/-- the items of a list are rows -/
inductive Items (news : List (Addr × Obj)) : List Value → List (List Int) → Prop
  | nil : Items news [] []
  | cons {r : Addr} {l : List Int} {vs ls} : RowAt news r l → Items news vs ls → Items news (.ref r :: vs) (l :: ls)
theorem Items.length {news : List (Addr × Obj)} : ∀ {vs : List Value} {ls : List (List Int)}, Items news vs ls → vs.length = ls.length
  | _, _, .nil => rfl
  | _, _, .cons _ r => by simp [r.length]
theorem Items.get {news : List (Addr × Obj)} : ∀ {vs : List Value} {ls : List (List Int)}, Items news vs ls → ∀ i, i < ls.length → ∃ r, vs[i]? = some (.ref r) ∧ RowAt news r (ls.getD i [])
  | _, _, .nil, i, h => absurd h (Nat.not_lt_zero _)
  | _, _, .cons (r := r) hr _, 0, _ => ⟨r, rfl, by simpa using hr⟩
  | _, _, .cons _ hr, i + 1, h => by
    obtain ⟨r, h1, h2⟩ := hr.get i (by simpa using h)
    exact ⟨r, by simpa using h1, by simpa using h2⟩
theorem st_item {prog : Program} {w : World} {A : Around} {E : Value → Shared → Prop} {s : Shared} {h₀ : Heap} {L a : Addr} {news : List (Addr × Obj)} {vs : List Value} {ls : List (List Int)} {k : Nat} {mid : Int} {u : Tok} {value slice : PySem.Expr} {Q : Value → Shared → Prop}
    (N : News h₀ L s.heap news) (hm : (a, W.listOf vs.toArray k) ∈ news) (hI : Items news vs ls) {P : List Int → Prop} (hP : ∀ l ∈ ls, P l) (h0 : 0 ≤ mid) (h1 : mid < ls.length) (hz : ls.length ≤ 1000) (h : ∀ r, RowAt news r (ls.getD mid.toNat []) → P (ls.getD mid.toNat []) → Q (.ref r) s)
    (hs : subscripted slice false (.ref a) (.int mid u) = operate [.ref a, .int mid u] (getItem (.ref a) (.int mid u)) := by with_unfolding_all rfl) :
    wpAny (model prog w) A (subscriptTail value slice (.ref a) (.int mid u)) Q E s := by
  obtain ⟨r, h2, h3⟩ := hI.get mid.toNat (by omega)
  have hL := News.isList N hm
  have hlt : mid.toNat < ls.length := by omega
  have hg : ls.getD mid.toNat [] = ls[mid.toNat] := by simp [List.getD, hlt]
  exact tail_any hL.typeIs slot_list_getitem.lookup (wpAny_getItem_list hL h0 (by omega) (by simpa using h2) (h r h3 (by rw [hg]; exact hP _ (List.getElem_mem hlt)))) hs
theorem st_div {prog : Program} {w : World} {A : Around} {E : Value → Shared → Prop} {s : Shared} {a : Int} {t u : Tok} {Q : Value → Shared → Prop} (h : Q (.int (a / 2) s.toks) { s with toks := s.toks + 1 }) : wpAny (model prog w) A (binaryOp .FloorDiv (.int a t) (.int 2 u)) Q E s :=
  floordiv_int (by decide) (by rw [fdivE _ _ (by decide)]; exact h)
theorem whlIf_split {c : Prop} [Decidable c] {T F : Prop} (h1 : c → T) (h2 : ¬ c → F) : WhlIf (decide c) T F := by
  by_cases h : c
  · exact WhlIf.yes (decide_eq_true h) (h1 h)
  · exact WhlIf.no (decide_eq_false h) (h2 h)
/-- a place where the walk halts -/
def Halt (P : Prop) : Prop := P
theorem Halt.intro {P : Prop} (h : Halt P) : P := h
section
variable {prog : Program} {w : World} {A : Around} {E : Value → Shared → Prop} {Q : Flow → Shared → Prop} {s : Shared} {env : Env} {h₀ : Heap} {L : Addr}
def BisStep (h₀ : Heap) (L : Addr) (s : Shared) (m₀ : Str → Option Value) (news : List (Addr × Obj)) (P : Int → Int → Prop) (n : Nat) (f : Flow) (s₃ : Shared) : Prop :=
  f = .next ∧ ∃ h' tk m' news' lo hi t u v, s₃ = { s with heap := h', toks := tk } ∧ Fr h₀ L h' m' ∧ News h₀ L h' news' ∧ (∀ p ∈ news, p ∈ news') ∧
    (m' = fun y => if y = Str.ofString "lo" then some (.int lo t) else if y = Str.ofString "hi" then some (.int hi u) else if y = Str.ofString "mid" then v else m₀ y) ∧ (hi - lo).toNat < n ∧ P lo hi
theorem BisStep.intro {s₁ : Shared} {m₀ m' : Str → Option Value} {news news' : List (Addr × Obj)} {P : Int → Int → Prop} {n : Nat} {h' : Heap} {tk : Nat} {lo hi : Int} {t u : Tok} {v : Value} (F : Fr h₀ L h' m') (N : News h₀ L h' news')
    (hs : ∀ p ∈ news, p ∈ news') (hm : m' (Str.ofString "lo") = some (.int lo t) ∧ m' (Str.ofString "hi") = some (.int hi u) ∧ m' (Str.ofString "mid") = some v) (hx : ∀ y, y ≠ Str.ofString "lo" → y ≠ Str.ofString "hi" → y ≠ Str.ofString "mid" → m' y = m₀ y) (hn : (hi - lo).toNat < n) (hP : P lo hi) :
    BisStep h₀ L s₁ m₀ news P n .next { s₁ with heap := h', toks := tk } := by
  refine ⟨rfl, h', tk, m', news', lo, hi, t, u, some v, rfl, F, N, hs, ?_, hn, hP⟩
  funext y
  by_cases h1 : y = Str.ofString "lo"
  · subst h1; simpa using hm.1
  · by_cases h2 : y = Str.ofString "hi"
    · subst h2; simpa [h1] using hm.2.1
    · by_cases h3 : y = Str.ofString "mid"
      · subst h3; simpa [h1, h2] using hm.2.2
      · simpa [h1, h2, h3] using hx y h1 h2 h3
theorem bis_while {test : PySem.Expr} {body : List Stmt} {pos : Pos} {m₀ : Str → Option Value} {news : List (Addr × Obj)} {lo₀ hi₀ : Int} {t₀ u₀ : Tok} (P : Int → Int → Prop) (F : Fr h₀ L s.heap m₀) (N : News h₀ L s.heap news)
    (hlo : m₀ (Str.ofString "lo") = some (.int lo₀ t₀)) (hhi : m₀ (Str.ofString "hi") = some (.int hi₀ u₀)) (hP : P lo₀ hi₀)
    (turn : ∀ lo hi t u v h₁ tk₁, P lo hi → Fr h₀ L h₁ (fun y => if y = Str.ofString "lo" then some (.int lo t) else if y = Str.ofString "hi" then some (.int hi u) else if y = Str.ofString "mid" then v else m₀ y) → News h₀ L h₁ news →
      wpAny (model prog w) A (isTrue test env (eval test env)) (fun b s₂ =>
        WhlIf b (wpAny (model prog w) A (execs body env) (BisStep h₀ L { s with heap := h₁, toks := tk₁ } m₀ news P (hi - lo).toNat) E s₂) (Q .next s₂)) E { s with heap := h₁, toks := tk₁ })
    (hE : PassesOwn (model prog w) A env E) :
    wpAny (model prog w) A (exec (.While test body [] pos) env) Q E s := by
  have hm0 : m₀ = fun y => if y = Str.ofString "lo" then some (.int lo₀ t₀) else if y = Str.ofString "hi" then some (.int hi₀ u₀) else if y = Str.ofString "mid" then m₀ (Str.ofString "mid") else m₀ y := by
    funext y
    by_cases h1 : y = Str.ofString "lo"
    · subst h1; simpa using hlo
    · by_cases h2 : y = Str.ofString "hi"
      · subst h2; simpa [h1] using hhi
      · by_cases h3 : y = Str.ofString "mid"
        · subst h3; simp [h1, h2]
        · simp [h1, h2, h3]
  refine While_inv (fun n m₁ news₁ => news₁ = news ∧ ∃ lo hi t u v, (m₁ = fun y => if y = Str.ofString "lo" then some (.int lo t) else if y = Str.ofString "hi" then some (.int hi u) else if y = Str.ofString "mid" then v else m₀ y) ∧ n = (hi - lo).toNat ∧ P lo hi)
    (n₀ := (hi₀ - lo₀).toNat) F N ⟨rfl, lo₀, hi₀, t₀, u₀, _, hm0, rfl, hP⟩ ?_ hE
  rintro n m₁ news₁ h₁ tk₁ F₁ N₁ ⟨rfl, lo, hi, t, u, v, rfl, rfl, hP'⟩
  refine wpAny_mono (turn lo hi t u v h₁ tk₁ hP' F₁ N₁) (fun b s₂ h₂ => ?_) fun _ _ e => e
  cases b with
  | false => simpa [WhlIf] using h₂
  | true =>
    simp only [WhlIf, if_true] at h₂ ⊢
    refine wpAny_mono h₂ (fun f s₃ h₃ => ?_) fun _ _ e => e
    obtain ⟨rfl, h', tk, m', news', lo', hi', t', u', v', rfl, F', N', hs, hm', hn, hP''⟩ := h₃
    exact ⟨rfl, h', tk, m', news₁, (hi' - lo').toNat, rfl, F', fun p hp => N' p (hs p hp), hn, rfl, lo', hi', t', u', v', hm', rfl, hP''⟩
end
/-- what holds of a search between two places -/
def LInv (n : Nat) (c : Nat → Prop) (lo hi : Int) : Prop := 0 ≤ lo ∧ lo ≤ hi ∧ hi ≤ n ∧ (∀ i : Nat, (i : Int) < lo → c i) ∧ (∀ i : Nat, hi ≤ (i : Int) → i < n → ¬ c i)
theorem LInv.right {n : Nat} {c : Nat → Prop} {lo hi : Int} (hmono : ∀ i j, i ≤ j → j < n → c j → c i) (h : LInv n c lo hi) (hlt : lo < hi) (hc : c ((lo + hi) / 2).toNat) : LInv n c ((lo + hi) / 2 + 1) hi := by
  obtain ⟨h1, h2, h3, h4, h5⟩ := h
  exact ⟨by omega, by omega, h3, fun i hi' => hmono i ((lo + hi) / 2).toNat (by omega) (by omega) hc, h5⟩
theorem LInv.left {n : Nat} {c : Nat → Prop} {lo hi : Int} (hmono : ∀ i j, i ≤ j → j < n → c j → c i) (h : LInv n c lo hi) (hlt : lo < hi) (hc : ¬ c ((lo + hi) / 2).toNat) : LInv n c lo ((lo + hi) / 2) := by
  obtain ⟨h1, h2, h3, h4, h5⟩ := h
  exact ⟨h1, by omega, by omega, h4, fun i hi' hn hci => hc (hmono ((lo + hi) / 2).toNat i (by omega) hn hci)⟩
theorem LInv.fin {n : Nat} {c : Nat → Prop} {lo hi : Int} (h : LInv n c lo hi) (hlt : ¬ lo < hi) : ∃ p : Nat, lo = (p : Int) ∧ p ≤ n ∧ (∀ i, i < p → c i) ∧ (∀ i, p ≤ i → i < n → ¬ c i) := by
  obtain ⟨h1, h2, h3, h4, h5⟩ := h
  exact ⟨lo.toNat, by omega, by omega, fun i hi' => h4 i (by omega), fun i hi' hn => h5 i (by omega) hn⟩
theorem LInv.start {n : Nat} {c : Nat → Prop} : LInv n c 0 n := ⟨by omega, by omega, by omega, fun i hi => by omega, fun i hi hn => by omega⟩
theorem RowAt.mono {news news' : List (Addr × Obj)} {a : Addr} {l : List Int} (h : RowAt news a l) (hs : ∀ p ∈ news, p ∈ news') : RowAt news' a l := by
  obtain ⟨vs, k, hm, hi⟩ := h
  exact ⟨vs, k, hs _ hm, hi⟩
theorem RowAt.cons {news : List (Addr × Obj)} {a : Addr} {l : List Int} {q : Addr × Obj} (h : RowAt news a l) : RowAt (q :: news) a l := h.mono fun _ hp => List.mem_cons_of_mem _ hp
theorem st_ltT {prog : Program} {w : World} {A : Around} {E : Value → Shared → Prop} {s : Shared} {h₀ : Heap} {L t1 t2 r1 r2 : Addr} {news : List (Addr × Obj)} {l1 l2 : List Int} {k1 k2 : Tok} {Q : Value → Shared → Prop}
    (N : News h₀ L s.heap news) (h1 : (t1, tupOf [.int l1.length k1, .ref r1]) ∈ news) (h2 : (t2, tupOf [.int l2.length k2, .ref r2]) ∈ news) (R1 : RowAt news r1 l1) (R2 : RowAt news r2 l2) (hu : A.units + 100 < cLine)
    (h : Q (.bool (rowlt l1 l2)) s) : wpAny (model prog w) A (compareOp .Lt (.ref t1) (.ref t2)) Q E s := by
  obtain ⟨vs, k, hm, hi⟩ := R1
  obtain ⟨us, k', hm', hj⟩ := R2
  exact lt_tups (N.get h1) (N.get h2) (News.isList N hm) (News.isList N hm') hi hj hu h
section
local macro_rules | `(tactic| ktr_enter) => `(tactic| (refine' code_def ?k1 ?k2 ?k3 ?k4 ?k5 ?kA ?kF ?kK ?k6 ?k7 ?k8 ?k9 ?kB ?_ ?c2 ?c3 ?c4 ?c5; (case kA => exact rfl); (case kF => exact rfl); (case kK => first | assumption | exact rfl); (case k1 => k_asm); (case k2 => k_asm); (case k3 => k_asm); (case k4 => k_asm); (case k5 => k_asm); (case k6 => k_is); (case k7 => k_is); (case k8 => ktr_room); (case k9 => (refine' kp_binds ?kx ?ke; (case kx => k_in); (case ke => exact fun _ => rfl))); (case c5 => decide); (case kB => exact locs rfl); (case c2 => exact rfl); (case c3 => exact rfl); (case c4 => exact rfl); k_whole; intro g' L' h' FG' F' N' B' X' T'; (try dsimp only); (try k_fold)))
local macro_rules | `(tactic| k_mem) => `(tactic| first | with_reducible assumption | (refine List.mem_cons_of_mem _ ?_; k_mem))
local macro_rules | `(tactic| walk_at "call builtin:len") => `(tactic| (k_here; (with_reducible show wpAny _ _ (call (Value.builtin "len") [Value.ref _]) _ _ _); k_dflt (refine st_len (by k_asm) (by k_mem) (by with_reducible assumption) (by omega) ?_)))
local macro_rules | `(tactic| walk_at "binaryOp FloorDiv int int") => `(tactic| (k_here; k_dflt (refine st_div ?_)))
local macro_rules | `(tactic| walk_at "WhlIf") => `(tactic| (refine whlIf_split (fun hc' => ?_) (fun hc' => ?_)))
local macro_rules | `(tactic| walk_at "exec While Compare cons nil") => `(tactic| (k_here; refine Halt.intro ?_))
local macro_rules | `(tactic| walk_at "subscriptTail Name Name ref int") => `(tactic| (k_here; k_dflt (refine' st_item ?si1 ?si2 ?si3 ?si4 ?si5 ?si6 ?si7 ?_; (case si1 => k_asm); (case si2 => k_mem); (case si3 => with_reducible assumption); (case si4 => with_reducible assumption); (case si5 => omega); (case si6 => omega); (case si7 => omega)); intro r' hr' hv'))
local macro_rules | `(tactic| walk_at "call ref") => `(tactic| (k_here; k_dflt (refine' value_use ?cv1 ?cv2 ?cv3 ?cv4 ?cv5 ?cv6 ?cv7 ?cv8 ?cv9 ?cv10 ?_; (case cv2 => k_asm); (case cv3 => k_asm); (case cv4 => k_asm); (case cv5 => k_asm); (case cv6 => k_asm); (case cv7 => exact rfl); (case cv8 => with_reducible assumption); (case cv1 => with_reducible assumption); (case cv9 => ktr_room); (case cv10 => ktr_units)); intro t' h' tk' F' N'; (try dsimp only)))
local macro_rules | `(tactic| walk_at "call ref") => `(tactic| (k_here; k_dflt (refine' size_use ?cv1 ?cv2 ?cv3 ?cv4 ?cv5 ?cv6 ?cv7 ?cv8 ?cv9 ?cv10 ?_; (case cv2 => k_asm); (case cv3 => k_asm); (case cv4 => k_asm); (case cv5 => k_asm); (case cv6 => k_asm); (case cv7 => exact rfl); (case cv8 => with_reducible assumption); (case cv1 => with_reducible assumption); (case cv9 => ktr_room); (case cv10 => ktr_units)); intro t' k' h' tk' F' N' l1; (try dsimp only)))
local macro_rules | `(tactic| walk_at "compareOp Lt ref ref") => `(tactic| (k_here; (with_reducible show wpAny _ _ (compareOp CmpOp.Lt (Value.ref _) (Value.ref _)) _ _ _); k_dflt (refine' st_ltT ?lt1 ?lt2 ?lt3 ?lt4 ?lt5 ?lt6 ?_; (case lt1 => k_asm); (case lt2 => first | exact List.mem_cons_self | k_mem); (case lt3 => first | exact List.mem_cons_self | k_mem); (case lt4 => first | with_reducible assumption | exact RowAt.cons (by with_reducible assumption)); (case lt5 => first | with_reducible assumption | exact RowAt.cons (by with_reducible assumption)); (case lt6 => ktr_units))))
set_option maxHeartbeats 8000000 in
theorem bisLV_ct {w : World} {mean : ExcName → Option Value} {mg mb : Str → Option Value} {a : Addr} {vs : List Value} {ls : List (List Int)} {k : Nat} {x : Int} {tx t0 : Tok} (hz : ls.length ≤ 100) (hv : ∀ l ∈ ls, VRow l)
    (hmono : ∀ i j, i ≤ j → j < ls.length → (fun i => pv (ls.getD i []) < x) j → (fun i => pv (ls.getD i []) < x) i) :
    Ct 5 w mean mg mb 50 [.ref a, .int x tx, .int 0 t0, .none] [(Str.ofString "key", .ref 78)] (fun news => (a, W.listOf vs.toArray k) ∈ news ∧ Items news vs ls)
      (fun news r news' => news' = news ∧ ∃ (p : Nat) (t : Tok), r = .int p t ∧ p ≤ ls.length ∧ (∀ i, i < p → (fun i => pv (ls.getD i []) < x) i) ∧ (∀ i, p ≤ i → i < ls.length → ¬ (fun i => pv (ls.getD i []) < x) i)) := by
  w_on
  unfold Ct
  k_fill
  intro dp un gd cn cs a ccd cl outer A₀ base h₀ L m news s Q E B F X N T hk hpre hd hu hret
  obtain ⟨hm, hI⟩ := hpre
  have hlen := Items.length hI
  refine wpAny_call ?_
  k_dflt ktr_enter
  k_steps
  unfold Halt
  (rename Fr _ _ _ _ => lF'); (rename News _ _ _ _ => lN')
  refine bis_while (LInv ls.length (fun i => pv (ls.getD i []) < x)) lF' lN' (by rfl) (by rfl) LInv.start ?_ (by first | passes_own | with_unfolding_all passes_own)
  · intro lo hi t u v h₁ tk₁ hP F₁ N₁
    have hP2 := hP
    obtain ⟨p1, p2, p3, -, -⟩ := hP2
    clear lF' lN'
    try k_fold
    k_steps
    · refine BisStep.intro (by assumption) (by assumption) (fun p hp => hp) ⟨rfl, rfl, rfl⟩ (fun y h1 h2 h3 => by simp [h1, h2, h3]) (by omega) (LInv.right hmono hP (by assumption) (by first | assumption | exact Bool.eq_false_iff.mp (by assumption)))
    · refine BisStep.intro (by assumption) (by assumption) (fun p hp => hp) ⟨rfl, rfl, rfl⟩ (fun y h1 h2 h3 => by simp [h1, h2, h3]) (by omega) (LInv.left hmono hP (by assumption) (by first | assumption | exact Bool.eq_false_iff.mp (by assumption)))
    · obtain ⟨p, e, q1, q2, q3⟩ := LInv.fin hP (by assumption)
      subst e
      exact hret _ _ _ _ (by assumption) (by assumption) ⟨rfl, p, _, rfl, q1, q2, q3⟩
set_option maxHeartbeats 8000000 in
theorem bisRV_ct {w : World} {mean : ExcName → Option Value} {mg mb : Str → Option Value} {a : Addr} {vs : List Value} {ls : List (List Int)} {k : Nat} {x : Int} {tx t0 : Tok} (hz : ls.length ≤ 100) (hv : ∀ l ∈ ls, VRow l)
    (hmono : ∀ i j, i ≤ j → j < ls.length → (fun i => ¬ x < pv (ls.getD i [])) j → (fun i => ¬ x < pv (ls.getD i [])) i) :
    Ct 5 w mean mg mb 32 [.ref a, .int x tx, .int 0 t0, .none] [(Str.ofString "key", .ref 78)] (fun news => (a, W.listOf vs.toArray k) ∈ news ∧ Items news vs ls)
      (fun news r news' => news' = news ∧ ∃ (p : Nat) (t : Tok), r = .int p t ∧ p ≤ ls.length ∧ (∀ i, i < p → (fun i => ¬ x < pv (ls.getD i [])) i) ∧ (∀ i, p ≤ i → i < ls.length → ¬ (fun i => ¬ x < pv (ls.getD i [])) i)) := by
  w_on
  unfold Ct
  k_fill
  intro dp un gd cn cs a ccd cl outer A₀ base h₀ L m news s Q E B F X N T hk hpre hd hu hret
  obtain ⟨hm, hI⟩ := hpre
  have hlen := Items.length hI
  refine wpAny_call ?_
  k_dflt ktr_enter
  k_steps
  unfold Halt
  (rename Fr _ _ _ _ => lF'); (rename News _ _ _ _ => lN')
  refine bis_while (LInv ls.length (fun i => ¬ x < pv (ls.getD i []))) lF' lN' (by rfl) (by rfl) LInv.start ?_ (by first | passes_own | with_unfolding_all passes_own)
  · intro lo hi t u v h₁ tk₁ hP F₁ N₁
    have hP2 := hP
    obtain ⟨p1, p2, p3, -, -⟩ := hP2
    clear lF' lN'
    try k_fold
    k_steps
    · refine BisStep.intro (by assumption) (by assumption) (fun p hp => hp) ⟨rfl, rfl, rfl⟩ (fun y h1 h2 h3 => by simp [h1, h2, h3]) (by omega) (LInv.left hmono hP (by assumption) (by first | assumption | (intro hq'; exact hq' (by assumption))))
    · refine BisStep.intro (by assumption) (by assumption) (fun p hp => hp) ⟨rfl, rfl, rfl⟩ (fun y h1 h2 h3 => by simp [h1, h2, h3]) (by omega) (LInv.right hmono hP (by assumption) (by first | assumption | exact Bool.eq_false_iff.mp (by assumption)))
    · obtain ⟨p, e, q1, q2, q3⟩ := LInv.fin hP (by assumption)
      subst e
      exact hret _ _ _ _ (by assumption) (by assumption) ⟨rfl, p, _, rfl, q1, q2, q3⟩
set_option maxHeartbeats 8000000 in
theorem bisLS_ct {w : World} {mean : ExcName → Option Value} {mg mb : Str → Option Value} {a : Addr} {vs : List Value} {ls : List (List Int)} {k : Nat} {tX r0 : Addr} {l0 : List Int} {kx t0 : Tok} (hz : ls.length ≤ 100) (hv : ∀ l ∈ ls, l.length < 100)
    (hmono : ∀ i j, i ≤ j → j < ls.length → (fun i => rowlt (ls.getD i []) l0 = true) j → (fun i => rowlt (ls.getD i []) l0 = true) i) :
    Ct 5 w mean mg mb 50 [.ref a, .ref tX, .int 0 t0, .none] [(Str.ofString "key", .ref 71)] (fun news => (a, W.listOf vs.toArray k) ∈ news ∧ Items news vs ls ∧ (tX, tupOf [.int l0.length kx, .ref r0]) ∈ news ∧ RowAt news r0 l0)
      (fun news r news' => news' = news ∧ ∃ (p : Nat) (t : Tok), r = .int p t ∧ p ≤ ls.length ∧ (∀ i, i < p → (fun i => rowlt (ls.getD i []) l0 = true) i) ∧ (∀ i, p ≤ i → i < ls.length → ¬ (fun i => rowlt (ls.getD i []) l0 = true) i)) := by
  w_on
  unfold Ct
  k_fill
  intro dp un gd cn cs a ccd cl outer A₀ base h₀ L m news s Q E B F X N T hk hpre hd hu hret
  obtain ⟨hm, hI, hX, hR0⟩ := hpre
  have hlen := Items.length hI
  refine wpAny_call ?_
  k_dflt ktr_enter
  k_steps
  unfold Halt
  (rename Fr _ _ _ _ => lF'); (rename News _ _ _ _ => lN')
  refine bis_while (LInv ls.length (fun i => rowlt (ls.getD i []) l0 = true)) lF' lN' (by rfl) (by rfl) LInv.start ?_ (by first | passes_own | with_unfolding_all passes_own)
  · intro lo hi t u v h₁ tk₁ hP F₁ N₁
    have hP2 := hP
    obtain ⟨p1, p2, p3, -, -⟩ := hP2
    clear lF' lN'
    try k_fold
    k_steps
    · refine BisStep.intro (by assumption) (by assumption) (fun p hp => List.mem_cons_of_mem _ hp) ⟨rfl, rfl, rfl⟩ (fun y h1 h2 h3 => by simp [h1, h2, h3]) (by omega) (LInv.right hmono hP (by assumption) (by first | assumption | exact Bool.eq_false_iff.mp (by assumption)))
    · refine BisStep.intro (by assumption) (by assumption) (fun p hp => List.mem_cons_of_mem _ hp) ⟨rfl, rfl, rfl⟩ (fun y h1 h2 h3 => by simp [h1, h2, h3]) (by omega) (LInv.left hmono hP (by assumption) (by first | assumption | exact Bool.eq_false_iff.mp (by assumption)))
    · obtain ⟨p, e, q1, q2, q3⟩ := LInv.fin hP (by assumption)
      subst e
      exact hret _ _ _ _ (by assumption) (by assumption) ⟨rfl, p, _, rfl, q1, q2, q3⟩
set_option maxHeartbeats 8000000 in
theorem bisRS_ct {w : World} {mean : ExcName → Option Value} {mg mb : Str → Option Value} {a : Addr} {vs : List Value} {ls : List (List Int)} {k : Nat} {tX r0 : Addr} {l0 : List Int} {kx t0 : Tok} (hz : ls.length ≤ 100) (hv : ∀ l ∈ ls, l.length < 100)
    (hmono : ∀ i j, i ≤ j → j < ls.length → (fun i => ¬ rowlt l0 (ls.getD i []) = true) j → (fun i => ¬ rowlt l0 (ls.getD i []) = true) i) :
    Ct 5 w mean mg mb 32 [.ref a, .ref tX, .int 0 t0, .none] [(Str.ofString "key", .ref 71)] (fun news => (a, W.listOf vs.toArray k) ∈ news ∧ Items news vs ls ∧ (tX, tupOf [.int l0.length kx, .ref r0]) ∈ news ∧ RowAt news r0 l0)
      (fun news r news' => news' = news ∧ ∃ (p : Nat) (t : Tok), r = .int p t ∧ p ≤ ls.length ∧ (∀ i, i < p → (fun i => ¬ rowlt l0 (ls.getD i []) = true) i) ∧ (∀ i, p ≤ i → i < ls.length → ¬ (fun i => ¬ rowlt l0 (ls.getD i []) = true) i)) := by
  w_on
  unfold Ct
  k_fill
  intro dp un gd cn cs a ccd cl outer A₀ base h₀ L m news s Q E B F X N T hk hpre hd hu hret
  obtain ⟨hm, hI, hX, hR0⟩ := hpre
  have hlen := Items.length hI
  refine wpAny_call ?_
  k_dflt ktr_enter
  k_steps
  unfold Halt
  (rename Fr _ _ _ _ => lF'); (rename News _ _ _ _ => lN')
  refine bis_while (LInv ls.length (fun i => ¬ rowlt l0 (ls.getD i []) = true)) lF' lN' (by rfl) (by rfl) LInv.start ?_ (by first | passes_own | with_unfolding_all passes_own)
  · intro lo hi t u v h₁ tk₁ hP F₁ N₁
    have hP2 := hP
    obtain ⟨p1, p2, p3, -, -⟩ := hP2
    clear lF' lN'
    try k_fold
    k_steps
    · refine BisStep.intro (by assumption) (by assumption) (fun p hp => List.mem_cons_of_mem _ hp) ⟨rfl, rfl, rfl⟩ (fun y h1 h2 h3 => by simp [h1, h2, h3]) (by omega) (LInv.left hmono hP (by assumption) (by first | assumption | (intro hq'; exact hq' (by assumption))))
    · refine BisStep.intro (by assumption) (by assumption) (fun p hp => List.mem_cons_of_mem _ hp) ⟨rfl, rfl, rfl⟩ (fun y h1 h2 h3 => by simp [h1, h2, h3]) (by omega) (LInv.right hmono hP (by assumption) (by first | assumption | exact Bool.eq_false_iff.mp (by assumption)))
    · obtain ⟨p, e, q1, q2, q3⟩ := LInv.fin hP (by assumption)
      subst e
      exact hret _ _ _ _ (by assumption) (by assumption) ⟨rfl, p, _, rfl, q1, q2, q3⟩
end
end Mine
namespace Mine
def insAt {α : Type} (l : List α) (p : Nat) (y : α) : List α := l.take p ++ y :: l.drop p
theorem insAt_length {α : Type} (l : List α) (p : Nat) (y : α) : (insAt l p y).length = l.length + 1 := by
  unfold insAt
  rw [List.length_append, List.length_cons, List.length_take, List.length_drop]
  omega
theorem st_insert {prog : Program} {w : World} {A : Around} {E : Value → Shared → Prop} {s : Shared} {h₀ : Heap} {L D : Addr} {m : Str → Option Value} {news news' : List (Addr × Obj)} {vs : List Value} {n p : Nat} {u : Tok} {y : Value} {Q : Value → Shared → Prop}
    (F : Fr h₀ L s.heap m) (N : News h₀ L s.heap news) (hp : p ≤ vs.length) (hz : vs.length ≤ 1000) (U : Upd D (W.listOf vs.toArray n) (W.listOf (insAt vs p y).toArray (n + 1)) news news')
    (h : ∀ h', Fr h₀ L h' m → News h₀ L h' news' → Q .none { s with heap := h' }) : wpAny (model prog w) A (call (.builtin "list.insert") [.ref D, .int (p : Int) u, y]) Q E s := by
  refine kl_insert F N ?_ ?_ U (by rw [sizeLine_eq]; simp; omega) h
  · unfold Builtin.List.listFitsIndex
    simp
    omega
  · unfold kl_ins insAt
    have e : (if ((p : Int) < 0) then ((p : Int) + (vs.toArray.toList.length : Int)).toNat else min (p : Int).toNat vs.toArray.toList.length) = p := by
      rw [if_neg (by omega)]
      simp
      omega
    rw [e]
theorem Items.mono {news news' : List (Addr × Obj)} (hs : ∀ p ∈ news, p ∈ news') : ∀ {vs : List Value} {ls : List (List Int)}, Items news vs ls → Items news' vs ls
  | _, _, .nil => .nil
  | _, _, .cons h r => .cons (h.mono hs) (r.mono hs)
section
variable {w : World} {mean : ExcName → Option Value} {mg mb : Str → Option Value} {dp un : Nat} {gd : Option (List Code)} {cn : Str} {cs : Scope} {ac : Addr} {ccd : Value} {cl : List (Str × Addr)} {outer : List Env} {A₀ : Around} {base h₀ : Heap} {L : Addr} {m : Str → Option Value} {news : List (Addr × Obj)} {s : Shared}
    {Q E : Value → Shared → Prop} {a : Addr} {vs : List Value} {ls : List (List Int)} {k : Nat} {t0 : Tok}
theorem bisLV_use {x : Int} {tx : Tok} (hz : ls.length ≤ 100) (hv : ∀ l ∈ ls, VRow l) (hmono : ∀ i j, i ≤ j → j < ls.length → (fun i => pv (ls.getD i []) < x) j → (fun i => pv (ls.getD i []) < x) i) (hm : (a, W.listOf vs.toArray k) ∈ news) (hI : Items news vs ls)
    (B : Below A₀ base outer h₀) (F : Fr h₀ L s.heap m) (X : (Mine.hd.heap_39 w.params).In h₀) (N : News h₀ L s.heap news) (T : Top Mine.hd.view_39 LS mean mg mb h₀) (hk : cs.kind = .function) (hd : dp + 5 < recursionLimit) (hu : un + 8 * 5 + 100 < cLine)
    (ret : ∀ (p : Nat) t h' tk', Fr h₀ L h' m → News h₀ L h' news → p ≤ ls.length → (∀ i, i < p → (fun i => pv (ls.getD i []) < x) i) → (∀ i, p ≤ i → i < ls.length → ¬ (fun i => pv (ls.getD i []) < x) i) → Q (.int p t) { s with heap := h', toks := tk' }) :
    wpAny (model PySem.Challenge.rw_nb0126_01.row.prog w) (ktrTop dp un gd cn cs L ac ccd cl outer) (call (.ref 50) [.ref a, .int x tx, .int 0 t0, .none] [(Str.ofString "key", .ref 78)]) Q E s :=
  Ct.use (bisLV_ct hz hv hmono) B F X N T hk ⟨hm, hI⟩ hd hu fun _ _ h' tk' F' N' ⟨e2, p, t, e, q1, q2, q3⟩ => by
    subst e e2
    exact ret p t h' tk' F' N' q1 q2 q3
theorem bisRV_use {x : Int} {tx : Tok} (hz : ls.length ≤ 100) (hv : ∀ l ∈ ls, VRow l) (hmono : ∀ i j, i ≤ j → j < ls.length → (fun i => ¬ x < pv (ls.getD i [])) j → (fun i => ¬ x < pv (ls.getD i [])) i) (hm : (a, W.listOf vs.toArray k) ∈ news) (hI : Items news vs ls)
    (B : Below A₀ base outer h₀) (F : Fr h₀ L s.heap m) (X : (Mine.hd.heap_39 w.params).In h₀) (N : News h₀ L s.heap news) (T : Top Mine.hd.view_39 LS mean mg mb h₀) (hk : cs.kind = .function) (hd : dp + 5 < recursionLimit) (hu : un + 8 * 5 + 100 < cLine)
    (ret : ∀ (p : Nat) t h' tk', Fr h₀ L h' m → News h₀ L h' news → p ≤ ls.length → (∀ i, i < p → (fun i => ¬ x < pv (ls.getD i [])) i) → (∀ i, p ≤ i → i < ls.length → ¬ (fun i => ¬ x < pv (ls.getD i [])) i) → Q (.int p t) { s with heap := h', toks := tk' }) :
    wpAny (model PySem.Challenge.rw_nb0126_01.row.prog w) (ktrTop dp un gd cn cs L ac ccd cl outer) (call (.ref 32) [.ref a, .int x tx, .int 0 t0, .none] [(Str.ofString "key", .ref 78)]) Q E s :=
  Ct.use (bisRV_ct hz hv hmono) B F X N T hk ⟨hm, hI⟩ hd hu fun _ _ h' tk' F' N' ⟨e2, p, t, e, q1, q2, q3⟩ => by
    subst e e2
    exact ret p t h' tk' F' N' q1 q2 q3
theorem bisLS_use {tX r0 : Addr} {l0 : List Int} {kx : Tok} (hz : ls.length ≤ 100) (hv : ∀ l ∈ ls, l.length < 100) (hmono : ∀ i j, i ≤ j → j < ls.length → (fun i => rowlt (ls.getD i []) l0 = true) j → (fun i => rowlt (ls.getD i []) l0 = true) i) (hm : (a, W.listOf vs.toArray k) ∈ news) (hI : Items news vs ls) (hR : RowAt news r0 l0)
    (B : Below A₀ base outer h₀) (F : Fr h₀ L s.heap m) (X : (Mine.hd.heap_39 w.params).In h₀) (N : News h₀ L s.heap ((tX, tupOf [.int l0.length kx, .ref r0]) :: news)) (T : Top Mine.hd.view_39 LS mean mg mb h₀) (hk : cs.kind = .function) (hd : dp + 5 < recursionLimit) (hu : un + 8 * 5 + 100 < cLine)
    (ret : ∀ (p : Nat) t h' tk', Fr h₀ L h' m → News h₀ L h' news → p ≤ ls.length → (∀ i, i < p → (fun i => rowlt (ls.getD i []) l0 = true) i) → (∀ i, p ≤ i → i < ls.length → ¬ (fun i => rowlt (ls.getD i []) l0 = true) i) → Q (.int p t) { s with heap := h', toks := tk' }) :
    wpAny (model PySem.Challenge.rw_nb0126_01.row.prog w) (ktrTop dp un gd cn cs L ac ccd cl outer) (call (.ref 50) [.ref a, .ref tX, .int 0 t0, .none] [(Str.ofString "key", .ref 71)]) Q E s :=
  Ct.use (bisLS_ct hz hv hmono) B F X N T hk ⟨List.mem_cons_of_mem _ hm, hI.mono fun _ hp => List.mem_cons_of_mem _ hp, List.mem_cons_self, hR.cons⟩ hd hu fun _ _ h' tk' F' N' ⟨e2, p, t, e, q1, q2, q3⟩ => by
    subst e e2
    exact ret p t h' tk' F' (fun q hq => N' q (List.mem_cons_of_mem _ hq)) q1 q2 q3
theorem bisRS_use {tX r0 : Addr} {l0 : List Int} {kx : Tok} (hz : ls.length ≤ 100) (hv : ∀ l ∈ ls, l.length < 100) (hmono : ∀ i j, i ≤ j → j < ls.length → (fun i => ¬ rowlt l0 (ls.getD i []) = true) j → (fun i => ¬ rowlt l0 (ls.getD i []) = true) i) (hm : (a, W.listOf vs.toArray k) ∈ news) (hI : Items news vs ls) (hR : RowAt news r0 l0)
    (B : Below A₀ base outer h₀) (F : Fr h₀ L s.heap m) (X : (Mine.hd.heap_39 w.params).In h₀) (N : News h₀ L s.heap ((tX, tupOf [.int l0.length kx, .ref r0]) :: news)) (T : Top Mine.hd.view_39 LS mean mg mb h₀) (hk : cs.kind = .function) (hd : dp + 5 < recursionLimit) (hu : un + 8 * 5 + 100 < cLine)
    (ret : ∀ (p : Nat) t h' tk', Fr h₀ L h' m → News h₀ L h' news → p ≤ ls.length → (∀ i, i < p → (fun i => ¬ rowlt l0 (ls.getD i []) = true) i) → (∀ i, p ≤ i → i < ls.length → ¬ (fun i => ¬ rowlt l0 (ls.getD i []) = true) i) → Q (.int p t) { s with heap := h', toks := tk' }) :
    wpAny (model PySem.Challenge.rw_nb0126_01.row.prog w) (ktrTop dp un gd cn cs L ac ccd cl outer) (call (.ref 32) [.ref a, .ref tX, .int 0 t0, .none] [(Str.ofString "key", .ref 71)]) Q E s :=
  Ct.use (bisRS_ct hz hv hmono) B F X N T hk ⟨List.mem_cons_of_mem _ hm, hI.mono fun _ hp => List.mem_cons_of_mem _ hp, List.mem_cons_self, hR.cons⟩ hd hu fun _ _ h' tk' F' N' ⟨e2, p, t, e, q1, q2, q3⟩ => by
    subst e e2
    exact ret p t h' tk' F' (fun q hq => N' q (List.mem_cons_of_mem _ hq)) q1 q2 q3
end
section
local macro_rules | `(tactic| ktr_enter) => `(tactic| (refine' code_def ?k1 ?k2 ?k3 ?k4 ?k5 ?kA ?kF ?kK ?k6 ?k7 ?k8 ?k9 ?kB ?_ ?c2 ?c3 ?c4 ?c5; (case kA => exact rfl); (case kF => exact rfl); (case kK => first | assumption | exact rfl); (case k1 => k_asm); (case k2 => k_asm); (case k3 => k_asm); (case k4 => k_asm); (case k5 => k_asm); (case k6 => k_is); (case k7 => k_is); (case k8 => ktr_room); (case k9 => (refine' kp_binds ?kx ?ke; (case kx => k_in); (case ke => exact fun _ => rfl))); (case c5 => decide); (case kB => exact locs rfl); (case c2 => exact rfl); (case c3 => exact rfl); (case c4 => exact rfl); k_whole; intro g' L' h' FG' F' N' B' X' T'; (try dsimp only); (try k_fold)))
local macro_rules | `(tactic| k_mem) => `(tactic| first | with_reducible assumption | (refine List.mem_cons_of_mem _ ?_; k_mem))
local macro_rules | `(tactic| walk_at "call ref") => `(tactic| (k_here; k_dflt (refine' value_use ?cv1 ?cv2 ?cv3 ?cv4 ?cv5 ?cv6 ?cv7 ?cv8 ?cv9 ?cv10 ?_; (case cv2 => k_asm); (case cv3 => k_asm); (case cv4 => k_asm); (case cv5 => k_asm); (case cv6 => k_asm); (case cv7 => exact rfl); (case cv8 => with_reducible assumption); (case cv1 => with_reducible assumption); (case cv9 => ktr_room); (case cv10 => ktr_units)); intro t' h' tk' F' N'; (try dsimp only)))
local macro_rules | `(tactic| walk_at "call ref") => `(tactic| (k_here; k_dflt (refine' size_use ?cv1 ?cv2 ?cv3 ?cv4 ?cv5 ?cv6 ?cv7 ?cv8 ?cv9 ?cv10 ?_; (case cv2 => k_asm); (case cv3 => k_asm); (case cv4 => k_asm); (case cv5 => k_asm); (case cv6 => k_asm); (case cv7 => exact rfl); (case cv8 => with_reducible assumption); (case cv1 => with_reducible assumption); (case cv9 => ktr_room); (case cv10 => ktr_units)); intro t' k' h' tk' F' N' l1; (try dsimp only)))
local macro_rules | `(tactic| walk_at "call ref") => `(tactic| (k_here; k_dflt (refine' bisLV_use ?bu1 ?bu2 ?bu3 ?bu4 ?bu5 ?bv1 ?bv2 ?bv3 ?bv4 ?bv5 ?bv6 ?bv7 ?bv8 ?_; (case bv1 => k_asm); (case bv2 => k_asm); (case bv3 => k_asm); (case bv4 => k_asm); (case bv5 => k_asm); (case bv6 => exact rfl); (case bu4 => first | exact List.mem_cons_self | k_mem); (case bu5 => with_reducible assumption); (case bu1 => with_reducible assumption); (case bu2 => with_reducible assumption); (case bu3 => with_reducible assumption); (case bv7 => ktr_room); (case bv8 => ktr_units)); intro p' t' h' tk' F' N' hq1 hq2 hq3; (try dsimp only)))
local macro_rules | `(tactic| walk_at "call ref") => `(tactic| (k_here; k_dflt (refine' bisRV_use ?bu1 ?bu2 ?bu3 ?bu4 ?bu5 ?bv1 ?bv2 ?bv3 ?bv4 ?bv5 ?bv6 ?bv7 ?bv8 ?_; (case bv1 => k_asm); (case bv2 => k_asm); (case bv3 => k_asm); (case bv4 => k_asm); (case bv5 => k_asm); (case bv6 => exact rfl); (case bu4 => first | exact List.mem_cons_self | k_mem); (case bu5 => with_reducible assumption); (case bu1 => with_reducible assumption); (case bu2 => with_reducible assumption); (case bu3 => with_reducible assumption); (case bv7 => ktr_room); (case bv8 => ktr_units)); intro p' t' h' tk' F' N' hq1 hq2 hq3; (try dsimp only)))
local macro_rules | `(tactic| walk_at "call ref") => `(tactic| (k_here; k_dflt (refine' bisLS_use ?bu1 ?bu2 ?bu3 ?bu4 ?bu5 ?bu6 ?bv1 ?bv2 ?bv3 ?bv4 ?bv5 ?bv6 ?bv7 ?bv8 ?_; (case bv1 => k_asm); (case bv2 => k_asm); (case bv3 => k_asm); (case bv4 => k_asm); (case bv5 => k_asm); (case bv6 => exact rfl); (case bu4 => first | exact List.mem_cons_self | k_mem); (case bu5 => with_reducible assumption); (case bu6 => with_reducible assumption); (case bu1 => with_reducible assumption); (case bu2 => with_reducible assumption); (case bu3 => with_reducible assumption); (case bv7 => ktr_room); (case bv8 => ktr_units)); intro p' t' h' tk' F' N' hq1 hq2 hq3; (try dsimp only)))
local macro_rules | `(tactic| walk_at "call ref") => `(tactic| (k_here; k_dflt (refine' bisRS_use ?bu1 ?bu2 ?bu3 ?bu4 ?bu5 ?bu6 ?bv1 ?bv2 ?bv3 ?bv4 ?bv5 ?bv6 ?bv7 ?bv8 ?_; (case bv1 => k_asm); (case bv2 => k_asm); (case bv3 => k_asm); (case bv4 => k_asm); (case bv5 => k_asm); (case bv6 => exact rfl); (case bu4 => first | exact List.mem_cons_self | k_mem); (case bu5 => with_reducible assumption); (case bu6 => with_reducible assumption); (case bu1 => with_reducible assumption); (case bu2 => with_reducible assumption); (case bu3 => with_reducible assumption); (case bv7 => ktr_room); (case bv8 => ktr_units)); intro p' t' h' tk' F' N' hq1 hq2 hq3; (try dsimp only)))
local macro_rules | `(tactic| k_all) => `(tactic| with_reducible assumption)
local macro_rules | `(tactic| walk_at "call builtin:list.insert") => `(tactic| (k_here; (try dsimp only [List.cons_append, List.nil_append]); k_dflt (refine' st_insert ?in1 ?in2 ?in3 ?in4 ?in5 ?_; (case in1 => k_asm); (case in2 => k_asm); (case in5 => k_upd); (case in3 => omega); (case in4 => omega)); intro h' F' N'))
set_option maxHeartbeats 8000000 in
theorem insLV_ct {w : World} {mean : ExcName → Option Value} {mg mb : Str → Option Value} {a r : Addr} {vs : List Value} {ls : List (List Int)} {l : List Int} {k : Nat} {rest : List (Addr × Obj)} (hz : ls.length ≤ 100) (hv : ∀ l ∈ ls, VRow l) (hl : VRow l)
    (hmono : ∀ i j, i ≤ j → j < ls.length → (fun i => pv (ls.getD i []) < (pv l)) j → (fun i => pv (ls.getD i []) < (pv l)) i) :
    Ct 7 w mean mg mb 41 [.ref a, .ref r] [(Str.ofString "key", .ref 78)] (fun news => news = (a, W.listOf vs.toArray k) :: rest ∧ (∀ p ∈ rest, p.1 ≠ a) ∧ Items rest vs ls ∧ RowAt rest r l)
      (fun _ v news' => v = .none ∧ ∃ p : Nat, news' = (a, W.listOf (insAt vs p (.ref r)).toArray (k + 1)) :: rest ∧ p ≤ ls.length ∧ (∀ i, i < p → (fun i => pv (ls.getD i []) < (pv l)) i) ∧ (∀ i, p ≤ i → i < ls.length → ¬ (fun i => pv (ls.getD i []) < (pv l)) i)) := by
  w_on
  unfold Ct
  k_fill
  intro dp un gd cn cs ac ccd cl outer A₀ base h₀ L m news s Q E B F X N T hk hpre hd hu hret
  obtain ⟨rfl, hne, hI0, hR0⟩ := hpre
  have hI : Items ((a, W.listOf vs.toArray k) :: rest) vs ls := hI0.mono fun _ hp => List.mem_cons_of_mem _ hp
  have hR : RowAt ((a, W.listOf vs.toArray k) :: rest) r l := hR0.cons
  clear hI0 hR0
  have hlen := Items.length hI
  refine wpAny_call ?_
  k_dflt ktr_enter
  k_steps
  exact hret _ _ _ _ (by assumption) (by assumption) ⟨rfl, _, rfl, by assumption, by assumption, by assumption⟩
set_option maxHeartbeats 8000000 in
theorem insRV_ct {w : World} {mean : ExcName → Option Value} {mg mb : Str → Option Value} {a r : Addr} {vs : List Value} {ls : List (List Int)} {l : List Int} {k : Nat} {rest : List (Addr × Obj)} (hz : ls.length ≤ 100) (hv : ∀ l ∈ ls, VRow l) (hl : VRow l)
    (hmono : ∀ i j, i ≤ j → j < ls.length → (fun i => ¬ (pv l) < pv (ls.getD i [])) j → (fun i => ¬ (pv l) < pv (ls.getD i [])) i) :
    Ct 7 w mean mg mb 23 [.ref a, .ref r] [(Str.ofString "key", .ref 78)] (fun news => news = (a, W.listOf vs.toArray k) :: rest ∧ (∀ p ∈ rest, p.1 ≠ a) ∧ Items rest vs ls ∧ RowAt rest r l)
      (fun _ v news' => v = .none ∧ ∃ p : Nat, news' = (a, W.listOf (insAt vs p (.ref r)).toArray (k + 1)) :: rest ∧ p ≤ ls.length ∧ (∀ i, i < p → (fun i => ¬ (pv l) < pv (ls.getD i [])) i) ∧ (∀ i, p ≤ i → i < ls.length → ¬ (fun i => ¬ (pv l) < pv (ls.getD i [])) i)) := by
  w_on
  unfold Ct
  k_fill
  intro dp un gd cn cs ac ccd cl outer A₀ base h₀ L m news s Q E B F X N T hk hpre hd hu hret
  obtain ⟨rfl, hne, hI0, hR0⟩ := hpre
  have hI : Items ((a, W.listOf vs.toArray k) :: rest) vs ls := hI0.mono fun _ hp => List.mem_cons_of_mem _ hp
  have hR : RowAt ((a, W.listOf vs.toArray k) :: rest) r l := hR0.cons
  clear hI0 hR0
  have hlen := Items.length hI
  refine wpAny_call ?_
  k_dflt ktr_enter
  k_steps
  exact hret _ _ _ _ (by assumption) (by assumption) ⟨rfl, _, rfl, by assumption, by assumption, by assumption⟩
set_option maxHeartbeats 8000000 in
theorem insLS_ct {w : World} {mean : ExcName → Option Value} {mg mb : Str → Option Value} {a r : Addr} {vs : List Value} {ls : List (List Int)} {l : List Int} {k : Nat} {rest : List (Addr × Obj)} (hz : ls.length ≤ 100) (hv : ∀ l ∈ ls, l.length < 100) (hl : l.length < 100)
    (hmono : ∀ i j, i ≤ j → j < ls.length → (fun i => rowlt (ls.getD i []) l = true) j → (fun i => rowlt (ls.getD i []) l = true) i) :
    Ct 7 w mean mg mb 41 [.ref a, .ref r] [(Str.ofString "key", .ref 71)] (fun news => news = (a, W.listOf vs.toArray k) :: rest ∧ (∀ p ∈ rest, p.1 ≠ a) ∧ Items rest vs ls ∧ RowAt rest r l)
      (fun _ v news' => v = .none ∧ ∃ p : Nat, news' = (a, W.listOf (insAt vs p (.ref r)).toArray (k + 1)) :: rest ∧ p ≤ ls.length ∧ (∀ i, i < p → (fun i => rowlt (ls.getD i []) l = true) i) ∧ (∀ i, p ≤ i → i < ls.length → ¬ (fun i => rowlt (ls.getD i []) l = true) i)) := by
  w_on
  unfold Ct
  k_fill
  intro dp un gd cn cs ac ccd cl outer A₀ base h₀ L m news s Q E B F X N T hk hpre hd hu hret
  obtain ⟨rfl, hne, hI0, hR0⟩ := hpre
  have hI : Items ((a, W.listOf vs.toArray k) :: rest) vs ls := hI0.mono fun _ hp => List.mem_cons_of_mem _ hp
  have hR : RowAt ((a, W.listOf vs.toArray k) :: rest) r l := hR0.cons
  clear hI0 hR0
  have hlen := Items.length hI
  refine wpAny_call ?_
  k_dflt ktr_enter
  k_steps
  exact hret _ _ _ _ (by assumption) (by assumption) ⟨rfl, _, rfl, by assumption, by assumption, by assumption⟩
set_option maxHeartbeats 8000000 in
theorem insRS_ct {w : World} {mean : ExcName → Option Value} {mg mb : Str → Option Value} {a r : Addr} {vs : List Value} {ls : List (List Int)} {l : List Int} {k : Nat} {rest : List (Addr × Obj)} (hz : ls.length ≤ 100) (hv : ∀ l ∈ ls, l.length < 100) (hl : l.length < 100)
    (hmono : ∀ i j, i ≤ j → j < ls.length → (fun i => ¬ rowlt l (ls.getD i []) = true) j → (fun i => ¬ rowlt l (ls.getD i []) = true) i) :
    Ct 7 w mean mg mb 23 [.ref a, .ref r] [(Str.ofString "key", .ref 71)] (fun news => news = (a, W.listOf vs.toArray k) :: rest ∧ (∀ p ∈ rest, p.1 ≠ a) ∧ Items rest vs ls ∧ RowAt rest r l)
      (fun _ v news' => v = .none ∧ ∃ p : Nat, news' = (a, W.listOf (insAt vs p (.ref r)).toArray (k + 1)) :: rest ∧ p ≤ ls.length ∧ (∀ i, i < p → (fun i => ¬ rowlt l (ls.getD i []) = true) i) ∧ (∀ i, p ≤ i → i < ls.length → ¬ (fun i => ¬ rowlt l (ls.getD i []) = true) i)) := by
  w_on
  unfold Ct
  k_fill
  intro dp un gd cn cs ac ccd cl outer A₀ base h₀ L m news s Q E B F X N T hk hpre hd hu hret
  obtain ⟨rfl, hne, hI0, hR0⟩ := hpre
  have hI : Items ((a, W.listOf vs.toArray k) :: rest) vs ls := hI0.mono fun _ hp => List.mem_cons_of_mem _ hp
  have hR : RowAt ((a, W.listOf vs.toArray k) :: rest) r l := hR0.cons
  clear hI0 hR0
  have hlen := Items.length hI
  refine wpAny_call ?_
  k_dflt ktr_enter
  k_steps
  exact hret _ _ _ _ (by assumption) (by assumption) ⟨rfl, _, rfl, by assumption, by assumption, by assumption⟩
end
end Mine
namespace Mine
/-- the law's own def, taken out of the given program -/
noncomputable def lawDef : Stmt := PySem.Challenge.pw_nb0126_01.main.body.getLastD (.Pass ⟨0, 0, 0, 0⟩)
noncomputable def lawScope : Scope := match lawDef with
  | .FunctionDef _ _ _ _ _ _ sc _ _ _ => sc
  | _ => { kind := .function, names := [], isGenerator := false, isCoroutine := false, more := [] }
noncomputable def lawFor : List Stmt := match lawDef with
  | .FunctionDef _ _ b _ _ _ _ _ _ _ => (match b with
    | [_, .For _ _ c _ _, _] => c
    | _ => [])
  | _ => []
/-- the turn's statements, one by one -/
noncomputable def lawSt (i : Nat) : Stmt := lawFor.getD i (.Pass ⟨0, 0, 0, 0⟩)
noncomputable abbrev lawEnv (L fa : Addr) (cdv : Value) : Env := envOfC (Str.ofString "law") lawScope L fa cdv
/-- the frame of the law in a turn -/
abbrev fr (P D U O : Addr) (x : Value) (row other place : Option Value) (m₀ : Str → Option Value) : Str → Option Value := fun y =>
  if y = Str.ofString "x" then some x else if y = Str.ofString "row" then row else if y = Str.ofString "other" then other else if y = Str.ofString "place" then place else
  if y = Str.ofString "plain" then some (.ref P) else if y = Str.ofString "dressed" then some (.ref D) else if y = Str.ofString "due" then some (.ref U) else if y = Str.ofString "order" then some (.ref O) else m₀ y
theorem fr_row {P D U O : Addr} {x : Value} {row other place v : Option Value} {m₀ : Str → Option Value} : (fun y => if y = Str.ofString "row" then v else fr P D U O x row other place m₀ y) = fr P D U O x v other place m₀ := by
  funext y
  by_cases h1 : y = Str.ofString "row"
  · subst h1; rfl
  · simp [fr, h1]
theorem fr_row' {h₀ h : Heap} {L P D U O : Addr} {x : Value} {row other place v : Option Value} {m₀ : Str → Option Value} (F : Fr h₀ L h (fun y => if y = Str.ofString "row" then v else fr P D U O x row other place m₀ y)) : Fr h₀ L h (fr P D U O x v other place m₀) := fr_row ▸ F
theorem fr_other {P D U O : Addr} {x : Value} {row other place v : Option Value} {m₀ : Str → Option Value} : (fun y => if y = Str.ofString "other" then v else fr P D U O x row other place m₀ y) = fr P D U O x row v place m₀ := by
  funext y
  by_cases h1 : y = Str.ofString "other"
  · subst h1; rfl
  · simp [fr, h1]
theorem fr_place {P D U O : Addr} {x : Value} {row other place v : Option Value} {m₀ : Str → Option Value} : (fun y => if y = Str.ofString "place" then v else fr P D U O x row other place m₀ y) = fr P D U O x row other v m₀ := by
  funext y
  by_cases h1 : y = Str.ofString "place"
  · subst h1; rfl
  · simp [fr, h1]
theorem fr_other' {h₀ h : Heap} {L P D U O : Addr} {x : Value} {row other place v : Option Value} {m₀ : Str → Option Value} (F : Fr h₀ L h (fun y => if y = Str.ofString "other" then v else fr P D U O x row other place m₀ y)) : Fr h₀ L h (fr P D U O x row v place m₀) := fr_other ▸ F
theorem fr_place' {h₀ h : Heap} {L P D U O : Addr} {x : Value} {row other place v : Option Value} {m₀ : Str → Option Value} (F : Fr h₀ L h (fun y => if y = Str.ofString "place" then v else fr P D U O x row other place m₀ y)) : Fr h₀ L h (fr P D U O x row other v m₀) := fr_place ▸ F
/-- the number of a turn -/
def num (x : Int) : Int := (if -(x.fdiv 4) > x.fdiv 4 then -(x.fdiv 4) else x.fdiv 4).fmod (64 ^ Int.toNat 3)
theorem num_nonneg (x : Int) : 0 ≤ num x := Int.fmod_nonneg_of_pos _ (by decide)
theorem num_lt (x : Int) : num x < 262144 := Int.fmod_lt_of_pos _ (by decide)
section
variable {w : World} {mean : ExcName → Option Value} {mg mb : Str → Option Value} {dp un : Nat} {gd : Option (List Code)} {cn : Str} {cs : Scope} {a : Addr} {ccd : Value} {cl : List (Str × Addr)} {outer : List Env} {A₀ : Around} {base h₀ : Heap} {L : Addr} {m : Str → Option Value} {news : List (Addr × Obj)} {s : Shared}
    {Q E : Value → Shared → Prop} {n : Int} {t : Tok}
theorem octets_use (h0 : 0 ≤ n) (h1 : n < 262144) (B : Below A₀ base outer h₀) (F : Fr h₀ L s.heap m) (X : (Mine.hd.heap_39 w.params).In h₀) (N : News h₀ L s.heap news) (T : Top Mine.hd.view_39 LS mean mg mb h₀) (hk : cs.kind = .function) (hd : dp + 3 < recursionLimit) (hu : un + 8 * 3 + 100 < cLine)
    (ret : ∀ r vs k h' tk', Fr h₀ L h' m → News h₀ L h' ((r, W.listOf vs.toArray k) :: news) → IntsAre vs (octs n) → (∀ p ∈ news, p.1 < r) → Q (.ref r) { s with heap := h', toks := tk' }) :
    wpAny (model PySem.Challenge.rw_nb0126_01.row.prog w) (ktrTop dp un gd cn cs L a ccd cl outer) (call (.ref 64) [.int n t]) Q E s :=
  Ct.use (octets_ct h0 h1) B F X N T hk trivial hd hu fun _ _ h' tk' F' N' ⟨r, vs, k, e, hi, hlt, e2⟩ => by
    subst e e2
    exact ret r vs k h' tk' F' N' hi hlt
end
section
variable {w : World} {mean : ExcName → Option Value} {mg mb : Str → Option Value} {base h₀ : Heap} {L fa P D U O : Addr} {cdv : Value} {m₀ : Str → Option Value} {s : Shared} {E : Value → Shared → Prop} {row other place : Option Value} {tail : List (Addr × Obj)} {oc : Obj}
local macro_rules | `(tactic| k_mem) => `(tactic| first | with_reducible assumption | (refine List.mem_cons_of_mem _ ?_; k_mem))
local macro_rules | `(tactic| k_all) => `(tactic| with_reducible assumption)
local macro_rules | `(tactic| walk_at "call ref") => `(tactic| (k_here; k_dflt (refine' octets_use ?cv1 ?cv2 ?cv3 ?cv4 ?cv5 ?cv6 ?cv7 ?cv8 ?cv9 ?cv10 ?_; (case cv3 => k_asm); (case cv4 => k_asm); (case cv5 => k_asm); (case cv6 => k_asm); (case cv7 => k_asm); (case cv8 => exact rfl); (case cv1 => with_reducible assumption); (case cv2 => with_reducible assumption); (case cv9 => decide); (case cv10 => decide)); intro r' vs' k' h' tk' F' N' hi' l1; (try dsimp only)))
set_option maxHeartbeats 8000000 in
theorem S1 {x : Int} {tx : Tok} {vc : Option Value} (B : Below callerA base [] h₀) (X : (Mine.hd.heap_39 w.params).In h₀) (T : Top Mine.hd.view_39 LS mean mg mb h₀) (F : Fr h₀ L s.heap (fr P D U O (.int x tx) row other place m₀))
    (N : News h₀ L s.heap ((L + 1, oc) :: tail)) (hoc : oc.data = .cell vc) (hne : ∀ p ∈ tail, p.1 ≠ L + 1) :
    wpAny (model PySem.Challenge.rw_nb0126_01.row.prog w) (callerA.deeper (lawEnv L fa cdv)) (exec (lawSt 0) (lawEnv L fa cdv)) (fun f s' => Halt (f = .next ∧ ∃ h' tk oc' t, s' = { s with heap := h', toks := tk } ∧ Fr h₀ L h' (fr P D U O (.int x tx) row other place m₀) ∧
      News h₀ L h' ((L + 1, oc') :: tail) ∧ oc'.data = .cell (some (.int (num x) t)))) E s := by
  w_on
  revert X; k_fill; intro X
  show wpAny _ (callerA.deeper (envOfC _ ⟨_, _, _, _, _⟩ _ _ _)) (exec (Stmt.Assign _ _ _) (envOfC _ ⟨_, _, _, _, _⟩ _ _ _)) _ _ _
  k_steps
  unfold Halt
  exact ⟨rfl, _, _, _, _, rfl, by assumption, by assumption, by assumption⟩
set_option maxHeartbeats 8000000 in
theorem S2 {x n : Int} {tx t : Tok} (B : Below callerA base [] h₀) (X : (Mine.hd.heap_39 w.params).In h₀) (T : Top Mine.hd.view_39 LS mean mg mb h₀) (F : Fr h₀ L s.heap (fr P D U O (.int x tx) row other place m₀))
    (N : News h₀ L s.heap ((L + 1, oc) :: tail)) (hoc : oc.data = .cell (some (.int n t))) (h0 : 0 ≤ n) (h1 : n < 262144) :
    wpAny (model PySem.Challenge.rw_nb0126_01.row.prog w) (callerA.deeper (lawEnv L fa cdv)) (exec (lawSt 1) (lawEnv L fa cdv)) (fun f s' => Halt (f = .next ∧ ∃ h' tk r vs k, s' = { s with heap := h', toks := tk } ∧ Fr h₀ L h' (fr P D U O (.int x tx) (some (.ref r)) other place m₀) ∧
      News h₀ L h' ((r, W.listOf vs.toArray k) :: (L + 1, oc) :: tail) ∧ IntsAre vs (octs n) ∧ ∀ p ∈ (L + 1, oc) :: tail, p.1 < r)) E s := by
  w_on
  revert X; k_fill; intro X
  show wpAny _ (callerA.deeper (envOfC _ ⟨_, _, _, _, _⟩ _ _ _)) (exec (Stmt.Assign _ _ _) (envOfC _ ⟨_, _, _, _, _⟩ _ _ _)) _ _ _
  k_steps
  unfold Halt
  exact ⟨rfl, _, _, _, _, _, rfl, fr_row' (by assumption), by assumption, by assumption, by assumption⟩
end
end Mine
namespace Mine
/-- the other writing of a row -/
def dress (l : List Int) : List Int := 64 :: (l.dropLast ++ [l.getLastD 0 + 128])
/-- which of the two writings -/
def wr (x : Int) (l : List Int) : List Int := if (x.fdiv 2).fmod 2 = 1 then dress l else l
section
variable {w : World} {mean : ExcName → Option Value} {mg mb : Str → Option Value} {base h₀ : Heap} {L fa P D U O : Addr} {cdv : Value} {m₀ : Str → Option Value} {s : Shared} {E : Value → Shared → Prop} {row other place : Option Value} {tail : List (Addr × Obj)} {oc : Obj}
def S3Post (h₀ : Heap) (L P D U O : Addr) (s : Shared) (m₀ : Str → Option Value) (place : Option Value) (xv : Value) (r : Addr) (o : Obj) (tail : List (Addr × Obj)) (l : List Int) (f : Flow) (s' : Shared) : Prop :=
  f = .next ∧ ∃ h' tk r2 added, s' = { s with heap := h', toks := tk } ∧ Fr h₀ L h' (fr P D U O xv (some (.ref r)) (some (.ref r2)) place m₀) ∧
      News h₀ L h' (added ++ (r, o) :: tail) ∧ RowAt (added ++ [(r, o)]) r2 l ∧ ∀ q ∈ added, ∀ p ∈ (r, o) :: tail, p.1 < q.1
theorem S3_new {x : Int} {xv : Value} {r r2 a1 a2 a3 a4 : Addr} {o o1 o2 o3 o4 : Obj} {vs2 : List Value} {k2 : Nat} {l : List Int} {h' : Heap} {tk : Nat} (F : Fr h₀ L h' (fun y => if y = Str.ofString "other" then some (.ref r2) else fr P D U O xv (some (.ref r)) other place m₀ y))
    (N : News h₀ L h' ((r2, W.listOf vs2.toArray k2) :: (a1, o1) :: (a2, o2) :: (a3, o3) :: (a4, o4) :: (r, o) :: tail)) (l1 : a1 < r2 ∧ a2 < r2 ∧ a3 < r2 ∧ a4 < r2 ∧ r < r2 ∧ AllLt r2 tail) (ho : (x.fdiv 2).fmod 2 = 1) (hi : IntsAre vs2 (dress l)) :
    S3Post h₀ L P D U O s m₀ place xv r o tail (wr x l) .next { s with heap := h', toks := tk } := by
  refine ⟨rfl, h', tk, r2, [(r2, W.listOf vs2.toArray k2)], rfl, fr_other' F, cb_drop N ?_, ⟨vs2, k2, List.mem_append_left _ List.mem_cons_self, by unfold wr; rw [if_pos ho]; exact hi⟩, ?_⟩
  · intro p hp
    rcases List.mem_cons.mp hp with rfl | hp
    · exact List.mem_cons_self
    · exact List.mem_cons_of_mem _ (List.mem_cons_of_mem _ (List.mem_cons_of_mem _ (List.mem_cons_of_mem _ (List.mem_cons_of_mem _ hp))))
  · intro q hq p hp
    rw [List.mem_singleton.mp hq]
    rcases List.mem_cons.mp hp with rfl | hp
    · exact l1.2.2.2.2.1
    · exact ktn_ltOf l1.2.2.2.2.2 p hp
theorem S3_old {x : Int} {xv : Value} {r : Addr} {vs : List Value} {k : Nat} {l : List Int} {h' : Heap} {tk : Nat} (F : Fr h₀ L h' (fun y => if y = Str.ofString "other" then some (.ref r) else fr P D U O xv (some (.ref r)) other place m₀ y))
    (N : News h₀ L h' ((r, W.listOf vs.toArray k) :: tail)) (ho : (x.fdiv 2).fmod 2 ≠ 1) (hi : IntsAre vs l) : S3Post h₀ L P D U O s m₀ place xv r (W.listOf vs.toArray k) tail (wr x l) .next { s with heap := h', toks := tk } :=
  ⟨rfl, h', tk, r, [], rfl, fr_other' F, N, ⟨vs, k, List.mem_cons_self, by unfold wr; rw [if_neg ho]; exact hi⟩, fun q hq => nomatch hq⟩
local macro_rules | `(tactic| k_mem) => `(tactic| first | with_reducible assumption | (refine List.mem_cons_of_mem _ ?_; k_mem))
local macro_rules | `(tactic| k_all) => `(tactic| with_reducible assumption)
set_option maxHeartbeats 8000000 in
theorem S3_1 {x b0 : Int} {tx t0 : Tok} {r : Addr} {k : Nat} (X : (Mine.hd.heap_39 w.params).In h₀) (T : Top Mine.hd.view_39 LS mean mg mb h₀) (F : Fr h₀ L s.heap (fr P D U O (.int x tx) (some (.ref r)) other place m₀))
    (N : News h₀ L s.heap ((r, W.listOf #[.int b0 t0] k) :: tail)) :
    wpAny (model PySem.Challenge.rw_nb0126_01.row.prog w) (callerA.deeper (lawEnv L fa cdv)) (exec (lawSt 2) (lawEnv L fa cdv)) (fun f s' => Halt (S3Post h₀ L P D U O s m₀ place (.int x tx) r (W.listOf #[.int b0 t0] k) tail (wr x [b0]) f s')) E s := by
  w_on
  revert X; k_fill; intro X
  show wpAny _ (callerA.deeper (envOfC _ ⟨_, _, _, _, _⟩ _ _ _)) (exec (Stmt.Assign _ _ _) (envOfC _ ⟨_, _, _, _, _⟩ _ _ _)) _ _ _
  k_steps
  · unfold Halt
    exact S3_new (by assumption) (by assumption) (by assumption) (by assumption) (.cons _ _ (.cons _ _ (.nil)))
  · unfold Halt
    exact S3_old (by assumption) (by assumption) (by assumption) (.cons _ _ (.nil))
set_option maxHeartbeats 8000000 in
theorem S3_2 {x b0 b1 : Int} {tx t0 t1 : Tok} {r : Addr} {k : Nat} (X : (Mine.hd.heap_39 w.params).In h₀) (T : Top Mine.hd.view_39 LS mean mg mb h₀) (F : Fr h₀ L s.heap (fr P D U O (.int x tx) (some (.ref r)) other place m₀))
    (N : News h₀ L s.heap ((r, W.listOf #[.int b0 t0, .int b1 t1] k) :: tail)) :
    wpAny (model PySem.Challenge.rw_nb0126_01.row.prog w) (callerA.deeper (lawEnv L fa cdv)) (exec (lawSt 2) (lawEnv L fa cdv)) (fun f s' => Halt (S3Post h₀ L P D U O s m₀ place (.int x tx) r (W.listOf #[.int b0 t0, .int b1 t1] k) tail (wr x [b0, b1]) f s')) E s := by
  w_on
  revert X; k_fill; intro X
  show wpAny _ (callerA.deeper (envOfC _ ⟨_, _, _, _, _⟩ _ _ _)) (exec (Stmt.Assign _ _ _) (envOfC _ ⟨_, _, _, _, _⟩ _ _ _)) _ _ _
  k_steps
  · unfold Halt
    exact S3_new (by assumption) (by assumption) (by assumption) (by assumption) (.cons _ _ (.cons _ _ (.cons _ _ (.nil))))
  · unfold Halt
    exact S3_old (by assumption) (by assumption) (by assumption) (.cons _ _ (.cons _ _ (.nil)))
set_option maxHeartbeats 8000000 in
theorem S3_3 {x b0 b1 b2 : Int} {tx t0 t1 t2 : Tok} {r : Addr} {k : Nat} (X : (Mine.hd.heap_39 w.params).In h₀) (T : Top Mine.hd.view_39 LS mean mg mb h₀) (F : Fr h₀ L s.heap (fr P D U O (.int x tx) (some (.ref r)) other place m₀))
    (N : News h₀ L s.heap ((r, W.listOf #[.int b0 t0, .int b1 t1, .int b2 t2] k) :: tail)) :
    wpAny (model PySem.Challenge.rw_nb0126_01.row.prog w) (callerA.deeper (lawEnv L fa cdv)) (exec (lawSt 2) (lawEnv L fa cdv)) (fun f s' => Halt (S3Post h₀ L P D U O s m₀ place (.int x tx) r (W.listOf #[.int b0 t0, .int b1 t1, .int b2 t2] k) tail (wr x [b0, b1, b2]) f s')) E s := by
  w_on
  revert X; k_fill; intro X
  show wpAny _ (callerA.deeper (envOfC _ ⟨_, _, _, _, _⟩ _ _ _)) (exec (Stmt.Assign _ _ _) (envOfC _ ⟨_, _, _, _, _⟩ _ _ _)) _ _ _
  k_steps
  · unfold Halt
    exact S3_new (by assumption) (by assumption) (by assumption) (by assumption) (.cons _ _ (.cons _ _ (.cons _ _ (.cons _ _ (.nil)))))
  · unfold Halt
    exact S3_old (by assumption) (by assumption) (by assumption) (.cons _ _ (.cons _ _ (.cons _ _ (.nil))))
end
theorem octs_shape (n : Int) : (∃ a, octs n = [a]) ∨ (∃ a b, octs n = [a, b]) ∨ ∃ a b c, octs n = [a, b, c] := by
  unfold octs
  split
  · exact .inl ⟨_, rfl⟩
  · split
    · exact .inr (.inl ⟨_, _, rfl⟩)
    · exact .inr (.inr ⟨_, _, _, rfl⟩)
section
variable {w : World} {mean : ExcName → Option Value} {mg mb : Str → Option Value} {base h₀ : Heap} {L fa P D U O : Addr} {cdv : Value} {m₀ : Str → Option Value} {s : Shared} {E : Value → Shared → Prop} {row other place : Option Value} {tail : List (Addr × Obj)} {oc : Obj}
theorem S3 {x n : Int} {tx : Tok} {r : Addr} {k : Nat} {vs : List Value} (X : (Mine.hd.heap_39 w.params).In h₀) (T : Top Mine.hd.view_39 LS mean mg mb h₀) (F : Fr h₀ L s.heap (fr P D U O (.int x tx) (some (.ref r)) other place m₀))
    (N : News h₀ L s.heap ((r, W.listOf vs.toArray k) :: tail)) (hi : IntsAre vs (octs n)) :
    wpAny (model PySem.Challenge.rw_nb0126_01.row.prog w) (callerA.deeper (lawEnv L fa cdv)) (exec (lawSt 2) (lawEnv L fa cdv)) (S3Post h₀ L P D U O s m₀ place (.int x tx) r (W.listOf vs.toArray k) tail (wr x (octs n))) E s := by
  rcases octs_shape n with ⟨a, e⟩ | ⟨a, b, e⟩ | ⟨a, b, c, e⟩
  · rw [e] at hi ⊢
    cases hi with | cons _ _ h1 => cases h1; exact S3_1 X T F N
  · rw [e] at hi ⊢
    cases hi with | cons _ _ h1 => cases h1 with | cons _ _ h2 => cases h2; exact S3_2 X T F N
  · rw [e] at hi ⊢
    cases hi with | cons _ _ h1 => cases h1 with | cons _ _ h2 => cases h2 with | cons _ _ h3 => cases h3; exact S3_3 X T F N
end
end Mine
namespace Mine
section
variable {w : World} {mean : ExcName → Option Value} {mg mb : Str → Option Value} {dp un : Nat} {gd : Option (List Code)} {cn : Str} {cs : Scope} {ac : Addr} {ccd : Value} {cl : List (Str × Addr)} {outer : List Env} {A₀ : Around} {base h₀ : Heap} {L : Addr} {m : Str → Option Value} {news n₁ : List (Addr × Obj)} {s : Shared}
    {Q E : Value → Shared → Prop} {a r : Addr} {vs : List Value} {ls : List (List Int)} {l : List Int} {k : Nat} {g : Obj → List (Addr × Obj)}
theorem insLV_use (hz : ls.length ≤ 100) (hv : ∀ l ∈ ls, VRow l) (hl : VRow l) (hmono : ∀ i j, i ≤ j → j < ls.length → (fun i => pv (ls.getD i []) < (pv l)) j → (fun i => pv (ls.getD i []) < (pv l)) i) (U : UpdF a (W.listOf vs.toArray k) news g) (hI : Items n₁ vs ls) (hR : RowAt n₁ r l) (hn1 : ∀ q ∈ n₁, q ∈ news) (hn2 : ∀ q ∈ n₁, q.1 ≠ a)
    (B : Below A₀ base outer h₀) (F : Fr h₀ L s.heap m) (X : (Mine.hd.heap_39 w.params).In h₀) (N : News h₀ L s.heap news) (T : Top Mine.hd.view_39 LS mean mg mb h₀) (hk : cs.kind = .function) (hd : dp + 7 < recursionLimit) (hu : un + 8 * 7 + 100 < cLine)
    (ret : ∀ (p : Nat) h' tk', Fr h₀ L h' m → News h₀ L h' (g (W.listOf (insAt vs p (.ref r)).toArray (k + 1))) → p ≤ ls.length → (∀ i, i < p → (fun i => pv (ls.getD i []) < (pv l)) i) → (∀ i, p ≤ i → i < ls.length → ¬ (fun i => pv (ls.getD i []) < (pv l)) i) → Q .none { s with heap := h', toks := tk' }) :
    wpAny (model PySem.Challenge.rw_nb0126_01.row.prog w) (ktrTop dp un gd cn cs L ac ccd cl outer) (call (.ref 41) [.ref a, .ref r] [(Str.ofString "key", .ref 78)]) Q E s := by
  obtain ⟨own, rest, e, hg, h1, h2⟩ := U.split
  subst e
  have hs : ∀ q ∈ n₁, q ∈ own ++ rest := fun q hq => by
    rcases List.mem_append.mp (hn1 q hq) with h | h
    · exact List.mem_append_left _ h
    · rcases List.mem_cons.mp h with rfl | h
      · exact absurd rfl (hn2 _ hq)
      · exact List.mem_append_right _ h
  have hN : News h₀ L s.heap ((a, W.listOf vs.toArray k) :: (own ++ rest)) := fun q hq => N q (by
    rcases List.mem_cons.mp hq with rfl | hq
    · exact List.mem_append_right _ List.mem_cons_self
    · rcases List.mem_append.mp hq with hq | hq
      · exact List.mem_append_left _ hq
      · exact List.mem_append_right _ (List.mem_cons_of_mem _ hq))
  refine Ct.use (insLV_ct hz hv hl hmono) B F X hN T hk ⟨rfl, fun p hp => (List.mem_append.mp hp).elim (h1 p) (h2 p), hI.mono hs, hR.mono hs⟩ hd hu fun _ _ h' tk' F' N' hpost => ?_
  obtain ⟨e, p, e2, q1, q2, q3⟩ := hpost
  subst e e2
  refine ret p h' tk' F' ?_ q1 q2 q3
  rw [hg]
  intro q hq
  refine N' q ?_
  rcases List.mem_append.mp hq with h | h
  · exact List.mem_cons_of_mem _ (List.mem_append_left _ h)
  · rcases List.mem_cons.mp h with rfl | h
    · exact List.mem_cons_self
    · exact List.mem_cons_of_mem _ (List.mem_append_right _ h)
theorem insRV_use (hz : ls.length ≤ 100) (hv : ∀ l ∈ ls, VRow l) (hl : VRow l) (hmono : ∀ i j, i ≤ j → j < ls.length → (fun i => ¬ (pv l) < pv (ls.getD i [])) j → (fun i => ¬ (pv l) < pv (ls.getD i [])) i) (U : UpdF a (W.listOf vs.toArray k) news g) (hI : Items n₁ vs ls) (hR : RowAt n₁ r l) (hn1 : ∀ q ∈ n₁, q ∈ news) (hn2 : ∀ q ∈ n₁, q.1 ≠ a)
    (B : Below A₀ base outer h₀) (F : Fr h₀ L s.heap m) (X : (Mine.hd.heap_39 w.params).In h₀) (N : News h₀ L s.heap news) (T : Top Mine.hd.view_39 LS mean mg mb h₀) (hk : cs.kind = .function) (hd : dp + 7 < recursionLimit) (hu : un + 8 * 7 + 100 < cLine)
    (ret : ∀ (p : Nat) h' tk', Fr h₀ L h' m → News h₀ L h' (g (W.listOf (insAt vs p (.ref r)).toArray (k + 1))) → p ≤ ls.length → (∀ i, i < p → (fun i => ¬ (pv l) < pv (ls.getD i [])) i) → (∀ i, p ≤ i → i < ls.length → ¬ (fun i => ¬ (pv l) < pv (ls.getD i [])) i) → Q .none { s with heap := h', toks := tk' }) :
    wpAny (model PySem.Challenge.rw_nb0126_01.row.prog w) (ktrTop dp un gd cn cs L ac ccd cl outer) (call (.ref 23) [.ref a, .ref r] [(Str.ofString "key", .ref 78)]) Q E s := by
  obtain ⟨own, rest, e, hg, h1, h2⟩ := U.split
  subst e
  have hs : ∀ q ∈ n₁, q ∈ own ++ rest := fun q hq => by
    rcases List.mem_append.mp (hn1 q hq) with h | h
    · exact List.mem_append_left _ h
    · rcases List.mem_cons.mp h with rfl | h
      · exact absurd rfl (hn2 _ hq)
      · exact List.mem_append_right _ h
  have hN : News h₀ L s.heap ((a, W.listOf vs.toArray k) :: (own ++ rest)) := fun q hq => N q (by
    rcases List.mem_cons.mp hq with rfl | hq
    · exact List.mem_append_right _ List.mem_cons_self
    · rcases List.mem_append.mp hq with hq | hq
      · exact List.mem_append_left _ hq
      · exact List.mem_append_right _ (List.mem_cons_of_mem _ hq))
  refine Ct.use (insRV_ct hz hv hl hmono) B F X hN T hk ⟨rfl, fun p hp => (List.mem_append.mp hp).elim (h1 p) (h2 p), hI.mono hs, hR.mono hs⟩ hd hu fun _ _ h' tk' F' N' hpost => ?_
  obtain ⟨e, p, e2, q1, q2, q3⟩ := hpost
  subst e e2
  refine ret p h' tk' F' ?_ q1 q2 q3
  rw [hg]
  intro q hq
  refine N' q ?_
  rcases List.mem_append.mp hq with h | h
  · exact List.mem_cons_of_mem _ (List.mem_append_left _ h)
  · rcases List.mem_cons.mp h with rfl | h
    · exact List.mem_cons_self
    · exact List.mem_cons_of_mem _ (List.mem_append_right _ h)
theorem insLS_use (hz : ls.length ≤ 100) (hv : ∀ l ∈ ls, l.length < 100) (hl : l.length < 100) (hmono : ∀ i j, i ≤ j → j < ls.length → (fun i => rowlt (ls.getD i []) l = true) j → (fun i => rowlt (ls.getD i []) l = true) i) (U : UpdF a (W.listOf vs.toArray k) news g) (hI : Items n₁ vs ls) (hR : RowAt n₁ r l) (hn1 : ∀ q ∈ n₁, q ∈ news) (hn2 : ∀ q ∈ n₁, q.1 ≠ a)
    (B : Below A₀ base outer h₀) (F : Fr h₀ L s.heap m) (X : (Mine.hd.heap_39 w.params).In h₀) (N : News h₀ L s.heap news) (T : Top Mine.hd.view_39 LS mean mg mb h₀) (hk : cs.kind = .function) (hd : dp + 7 < recursionLimit) (hu : un + 8 * 7 + 100 < cLine)
    (ret : ∀ (p : Nat) h' tk', Fr h₀ L h' m → News h₀ L h' (g (W.listOf (insAt vs p (.ref r)).toArray (k + 1))) → p ≤ ls.length → (∀ i, i < p → (fun i => rowlt (ls.getD i []) l = true) i) → (∀ i, p ≤ i → i < ls.length → ¬ (fun i => rowlt (ls.getD i []) l = true) i) → Q .none { s with heap := h', toks := tk' }) :
    wpAny (model PySem.Challenge.rw_nb0126_01.row.prog w) (ktrTop dp un gd cn cs L ac ccd cl outer) (call (.ref 41) [.ref a, .ref r] [(Str.ofString "key", .ref 71)]) Q E s := by
  obtain ⟨own, rest, e, hg, h1, h2⟩ := U.split
  subst e
  have hs : ∀ q ∈ n₁, q ∈ own ++ rest := fun q hq => by
    rcases List.mem_append.mp (hn1 q hq) with h | h
    · exact List.mem_append_left _ h
    · rcases List.mem_cons.mp h with rfl | h
      · exact absurd rfl (hn2 _ hq)
      · exact List.mem_append_right _ h
  have hN : News h₀ L s.heap ((a, W.listOf vs.toArray k) :: (own ++ rest)) := fun q hq => N q (by
    rcases List.mem_cons.mp hq with rfl | hq
    · exact List.mem_append_right _ List.mem_cons_self
    · rcases List.mem_append.mp hq with hq | hq
      · exact List.mem_append_left _ hq
      · exact List.mem_append_right _ (List.mem_cons_of_mem _ hq))
  refine Ct.use (insLS_ct hz hv hl hmono) B F X hN T hk ⟨rfl, fun p hp => (List.mem_append.mp hp).elim (h1 p) (h2 p), hI.mono hs, hR.mono hs⟩ hd hu fun _ _ h' tk' F' N' hpost => ?_
  obtain ⟨e, p, e2, q1, q2, q3⟩ := hpost
  subst e e2
  refine ret p h' tk' F' ?_ q1 q2 q3
  rw [hg]
  intro q hq
  refine N' q ?_
  rcases List.mem_append.mp hq with h | h
  · exact List.mem_cons_of_mem _ (List.mem_append_left _ h)
  · rcases List.mem_cons.mp h with rfl | h
    · exact List.mem_cons_self
    · exact List.mem_cons_of_mem _ (List.mem_append_right _ h)
theorem insRS_use (hz : ls.length ≤ 100) (hv : ∀ l ∈ ls, l.length < 100) (hl : l.length < 100) (hmono : ∀ i j, i ≤ j → j < ls.length → (fun i => ¬ rowlt l (ls.getD i []) = true) j → (fun i => ¬ rowlt l (ls.getD i []) = true) i) (U : UpdF a (W.listOf vs.toArray k) news g) (hI : Items n₁ vs ls) (hR : RowAt n₁ r l) (hn1 : ∀ q ∈ n₁, q ∈ news) (hn2 : ∀ q ∈ n₁, q.1 ≠ a)
    (B : Below A₀ base outer h₀) (F : Fr h₀ L s.heap m) (X : (Mine.hd.heap_39 w.params).In h₀) (N : News h₀ L s.heap news) (T : Top Mine.hd.view_39 LS mean mg mb h₀) (hk : cs.kind = .function) (hd : dp + 7 < recursionLimit) (hu : un + 8 * 7 + 100 < cLine)
    (ret : ∀ (p : Nat) h' tk', Fr h₀ L h' m → News h₀ L h' (g (W.listOf (insAt vs p (.ref r)).toArray (k + 1))) → p ≤ ls.length → (∀ i, i < p → (fun i => ¬ rowlt l (ls.getD i []) = true) i) → (∀ i, p ≤ i → i < ls.length → ¬ (fun i => ¬ rowlt l (ls.getD i []) = true) i) → Q .none { s with heap := h', toks := tk' }) :
    wpAny (model PySem.Challenge.rw_nb0126_01.row.prog w) (ktrTop dp un gd cn cs L ac ccd cl outer) (call (.ref 23) [.ref a, .ref r] [(Str.ofString "key", .ref 71)]) Q E s := by
  obtain ⟨own, rest, e, hg, h1, h2⟩ := U.split
  subst e
  have hs : ∀ q ∈ n₁, q ∈ own ++ rest := fun q hq => by
    rcases List.mem_append.mp (hn1 q hq) with h | h
    · exact List.mem_append_left _ h
    · rcases List.mem_cons.mp h with rfl | h
      · exact absurd rfl (hn2 _ hq)
      · exact List.mem_append_right _ h
  have hN : News h₀ L s.heap ((a, W.listOf vs.toArray k) :: (own ++ rest)) := fun q hq => N q (by
    rcases List.mem_cons.mp hq with rfl | hq
    · exact List.mem_append_right _ List.mem_cons_self
    · rcases List.mem_append.mp hq with hq | hq
      · exact List.mem_append_left _ hq
      · exact List.mem_append_right _ (List.mem_cons_of_mem _ hq))
  refine Ct.use (insRS_ct hz hv hl hmono) B F X hN T hk ⟨rfl, fun p hp => (List.mem_append.mp hp).elim (h1 p) (h2 p), hI.mono hs, hR.mono hs⟩ hd hu fun _ _ h' tk' F' N' hpost => ?_
  obtain ⟨e, p, e2, q1, q2, q3⟩ := hpost
  subst e e2
  refine ret p h' tk' F' ?_ q1 q2 q3
  rw [hg]
  intro q hq
  refine N' q ?_
  rcases List.mem_append.mp hq with h | h
  · exact List.mem_cons_of_mem _ (List.mem_append_left _ h)
  · rcases List.mem_cons.mp h with rfl | h
    · exact List.mem_cons_self
    · exact List.mem_cons_of_mem _ (List.mem_append_right _ h)
end
end Mine
namespace Mine
theorem st_lenC {prog : Program} {w : World} {A : Around} {E : Value → Shared → Prop} {s : Shared} {l : Addr} {ys : List Value} {fs : List Int} {Q : Value → Shared → Prop} (hl : s.heap.IsList l ys.toArray) (hc : CarriedAll ys (fs.map PyData.int)) (hz : fs.length ≤ 16384)
    (h : Q (.int (fs.length : Nat) (s.toks + 1)) { s with toks := s.toks + 1 + 1 }) : wpAny (model prog w) A (call (.builtin "len") [.ref l]) Q E s := by
  have e := IntsAre.length (IntsAre.ofCarried hc)
  exact kun_lenL hl (by simp [e]) (by omega) h
section
variable {w : World} {mean : ExcName → Option Value} {mg mb : Str → Option Value} {base h₀ : Heap} {L fa P D U O : Addr} {cdv : Value} {m₀ : Str → Option Value} {s : Shared} {E : Value → Shared → Prop} {row other place : Option Value} {rst : List (Addr × Obj)} {oc : Obj}
local macro_rules | `(tactic| k_mem) => `(tactic| first | with_reducible assumption | (refine List.mem_cons_of_mem _ ?_; k_mem))
local macro_rules | `(tactic| k_all) => `(tactic| with_reducible assumption)
local macro_rules | `(tactic| walk_at "call builtin:len") => `(tactic| (k_here; (with_reducible show wpAny _ _ (call (Value.builtin "len") [Value.ref _]) _ _ _); k_dflt (refine st_lenC (by assumption) (by assumption) (Nat.le_trans (List.length_filter_le _ _) (by omega)) ?_)))
local macro_rules | `(tactic| walk_at "call ref") => `(tactic| (k_here; k_dflt (refine' insLV_use ?iu1 ?iu2 ?iu3 ?iu4 ?iu5 ?iu6 ?iu7 ?iu8 ?iu9 ?iv1 ?iv2 ?iv3 ?iv4 ?iv5 ?iv6 ?iv7 ?iv8 ?_; (case iv1 => k_asm); (case iv2 => k_asm); (case iv3 => k_asm); (case iv4 => k_asm); (case iv5 => k_asm); (case iv6 => exact rfl); (case iu5 => k_updF); (case iu6 => with_reducible assumption); (case iu7 => with_reducible assumption); (case iu1 => with_reducible assumption); (case iu2 => with_reducible assumption); (case iu3 => with_reducible assumption); (case iu4 => with_reducible assumption); (case iu9 => with_reducible assumption); (case iu8 => (intro q' hq'; k_mem)); (case iv7 => decide); (case iv8 => decide)); intro p' h' tk' F' N' hq1 hq2 hq3; (try dsimp only at N'); (try dsimp only)))
local macro_rules | `(tactic| walk_at "call ref") => `(tactic| (k_here; k_dflt (refine' insRV_use ?iu1 ?iu2 ?iu3 ?iu4 ?iu5 ?iu6 ?iu7 ?iu8 ?iu9 ?iv1 ?iv2 ?iv3 ?iv4 ?iv5 ?iv6 ?iv7 ?iv8 ?_; (case iv1 => k_asm); (case iv2 => k_asm); (case iv3 => k_asm); (case iv4 => k_asm); (case iv5 => k_asm); (case iv6 => exact rfl); (case iu5 => k_updF); (case iu6 => with_reducible assumption); (case iu7 => with_reducible assumption); (case iu1 => with_reducible assumption); (case iu2 => with_reducible assumption); (case iu3 => with_reducible assumption); (case iu4 => with_reducible assumption); (case iu9 => with_reducible assumption); (case iu8 => (intro q' hq'; k_mem)); (case iv7 => decide); (case iv8 => decide)); intro p' h' tk' F' N' hq1 hq2 hq3; (try dsimp only at N'); (try dsimp only)))
local macro_rules | `(tactic| walk_at "call ref") => `(tactic| (k_here; k_dflt (refine' insLS_use ?iu1 ?iu2 ?iu3 ?iu4 ?iu5 ?iu6 ?iu7 ?iu8 ?iu9 ?iv1 ?iv2 ?iv3 ?iv4 ?iv5 ?iv6 ?iv7 ?iv8 ?_; (case iv1 => k_asm); (case iv2 => k_asm); (case iv3 => k_asm); (case iv4 => k_asm); (case iv5 => k_asm); (case iv6 => exact rfl); (case iu5 => k_updF); (case iu6 => with_reducible assumption); (case iu7 => with_reducible assumption); (case iu1 => with_reducible assumption); (case iu2 => with_reducible assumption); (case iu3 => with_reducible assumption); (case iu4 => with_reducible assumption); (case iu9 => with_reducible assumption); (case iu8 => (intro q' hq'; k_mem)); (case iv7 => decide); (case iv8 => decide)); intro p' h' tk' F' N' hq1 hq2 hq3; (try dsimp only at N'); (try dsimp only)))
local macro_rules | `(tactic| walk_at "call ref") => `(tactic| (k_here; k_dflt (refine' insRS_use ?iu1 ?iu2 ?iu3 ?iu4 ?iu5 ?iu6 ?iu7 ?iu8 ?iu9 ?iv1 ?iv2 ?iv3 ?iv4 ?iv5 ?iv6 ?iv7 ?iv8 ?_; (case iv1 => k_asm); (case iv2 => k_asm); (case iv3 => k_asm); (case iv4 => k_asm); (case iv5 => k_asm); (case iv6 => exact rfl); (case iu5 => k_updF); (case iu6 => with_reducible assumption); (case iu7 => with_reducible assumption); (case iu1 => with_reducible assumption); (case iu2 => with_reducible assumption); (case iu3 => with_reducible assumption); (case iu4 => with_reducible assumption); (case iu9 => with_reducible assumption); (case iu8 => (intro q' hq'; k_mem)); (case iv7 => decide); (case iv8 => decide)); intro p' h' tk' F' N' hq1 hq2 hq3; (try dsimp only at N'); (try dsimp only)))

def S4L (lsP lsD : List (List Int)) (l l2 ns : List Int) (x n : Int) (pS pV pl : Nat) : Prop :=
  x.fmod 2 = 0 ∧ (∀ i, i < pS → rowlt (lsP.getD i []) l = true) ∧ (∀ i, pS ≤ i → i < lsP.length → ¬ rowlt (lsP.getD i []) l = true) ∧ (∀ i, i < pV → pv (lsD.getD i []) < pv l2) ∧ (∀ i, pV ≤ i → i < lsD.length → ¬ pv (lsD.getD i []) < pv l2) ∧ pl = (ns.filter fun a => decide (a < n)).length
def S4R (lsP lsD : List (List Int)) (l l2 ns : List Int) (x n : Int) (pS pV pl : Nat) : Prop :=
  x.fmod 2 ≠ 0 ∧ (∀ i, i < pS → ¬ rowlt l (lsP.getD i []) = true) ∧ (∀ i, pS ≤ i → i < lsP.length → ¬ ¬ rowlt l (lsP.getD i []) = true) ∧ (∀ i, i < pV → ¬ pv l2 < pv (lsD.getD i [])) ∧ (∀ i, pV ≤ i → i < lsD.length → ¬ ¬ pv l2 < pv (lsD.getD i [])) ∧ pl = (ns.filter fun a => decide (a ≤ n)).length
def S4Post (h₀ : Heap) (L P D U O : Addr) (s : Shared) (m₀ : Str → Option Value) (xv : Value) (r r2 : Addr) (oc : Obj) (vsP vsD vsO : List Value) (kP kD kO : Nat) (rst : List (Addr × Obj)) (lsP lsD : List (List Int)) (l l2 ns : List Int) (x n : Int) (f : Flow) (s' : Shared) : Prop :=
  f = .next ∧ ∃ h' tk pS pV pl t, s' = { s with heap := h', toks := tk } ∧ Fr h₀ L h' (fr P D U O xv (some (.ref r)) (some (.ref r2)) (some (.int (pl : Nat) t)) m₀) ∧
    News h₀ L h' ((L + 1, oc) :: (P, W.listOf (insAt vsP pS (.ref r)).toArray (kP + 1)) :: (D, W.listOf (insAt vsD pV (.ref r2)).toArray (kD + 1)) :: (O, W.listOf vsO.toArray kO) :: rst) ∧
    pS ≤ lsP.length ∧ pV ≤ lsD.length ∧ (S4L lsP lsD l l2 ns x n pS pV pl ∨ S4R lsP lsD l l2 ns x n pS pV pl)
theorem S4_endL {xv : Value} {r r2 : Addr} {vsP vsD vsO : List Value} {kP kD kO : Nat} {lsP lsD : List (List Int)} {l l2 ns : List Int} {x n : Int} {h' : Heap} {tk pS pV : Nat} {t : Tok}
    (F : Fr h₀ L h' (fun y => if y = Str.ofString "place" then some (.int ((ns.filter fun a => decide (a < n)).length : Nat) t) else fr P D U O xv (some (.ref r)) (some (.ref r2)) place m₀ y))
    (N : News h₀ L h' ((L + 1, oc) :: (P, W.listOf (insAt vsP pS (.ref r)).toArray (kP + 1)) :: (D, W.listOf (insAt vsD pV (.ref r2)).toArray (kD + 1)) :: (O, W.listOf vsO.toArray kO) :: rst)) (hx : x.fmod 2 = 0)
    (q1 : pS ≤ lsP.length) (q2 : ∀ i, i < pS → (fun i => rowlt (lsP.getD i []) l = true) i) (q3 : ∀ i, pS ≤ i → i < lsP.length → ¬ (fun i => rowlt (lsP.getD i []) l = true) i) (q4 : pV ≤ lsD.length) (q5 : ∀ i, i < pV → (fun i => pv (lsD.getD i []) < (pv l2)) i) (q6 : ∀ i, pV ≤ i → i < lsD.length → ¬ (fun i => pv (lsD.getD i []) < (pv l2)) i) :
    S4Post h₀ L P D U O s m₀ xv r r2 oc vsP vsD vsO kP kD kO rst lsP lsD l l2 ns x n .next { s with heap := h', toks := tk } :=
  ⟨rfl, h', tk, pS, pV, _, t, rfl, fr_place' F, N, q1, q4, .inl ⟨hx, q2, q3, q5, q6, rfl⟩⟩
theorem S4_endR {xv : Value} {r r2 : Addr} {vsP vsD vsO : List Value} {kP kD kO : Nat} {lsP lsD : List (List Int)} {l l2 ns : List Int} {x n : Int} {h' : Heap} {tk pS pV : Nat} {t : Tok}
    (F : Fr h₀ L h' (fun y => if y = Str.ofString "place" then some (.int ((ns.filter fun a => decide (a ≤ n)).length : Nat) t) else fr P D U O xv (some (.ref r)) (some (.ref r2)) place m₀ y))
    (N : News h₀ L h' ((L + 1, oc) :: (P, W.listOf (insAt vsP pS (.ref r)).toArray (kP + 1)) :: (D, W.listOf (insAt vsD pV (.ref r2)).toArray (kD + 1)) :: (O, W.listOf vsO.toArray kO) :: rst)) (hx : x.fmod 2 ≠ 0)
    (q1 : pS ≤ lsP.length) (q2 : ∀ i, i < pS → (fun i => ¬ rowlt l (lsP.getD i []) = true) i) (q3 : ∀ i, pS ≤ i → i < lsP.length → ¬ (fun i => ¬ rowlt l (lsP.getD i []) = true) i) (q4 : pV ≤ lsD.length) (q5 : ∀ i, i < pV → (fun i => ¬ (pv l2) < pv (lsD.getD i [])) i) (q6 : ∀ i, pV ≤ i → i < lsD.length → ¬ (fun i => ¬ (pv l2) < pv (lsD.getD i [])) i) :
    S4Post h₀ L P D U O s m₀ xv r r2 oc vsP vsD vsO kP kD kO rst lsP lsD l l2 ns x n .next { s with heap := h', toks := tk } :=
  ⟨rfl, h', tk, pS, pV, _, t, rfl, fr_place' F, N, q1, q4, .inr ⟨hx, q2, q3, q5, q6, rfl⟩⟩
set_option maxHeartbeats 8000000 in
theorem S4 {x n : Int} {tx t : Tok} {r r2 : Addr} {vsP vsD vsO : List Value} {lsP lsD : List (List Int)} {l l2 : List Int} {ns : List Int} {kP kD kO : Nat} (B : Below callerA base [] h₀) (X : (Mine.hd.heap_39 w.params).In h₀) (T : Top Mine.hd.view_39 LS mean mg mb h₀) (F : Fr h₀ L s.heap (fr P D U O (.int x tx) (some (.ref r)) (some (.ref r2)) place m₀))
    (N : News h₀ L s.heap ((L + 1, oc) :: (P, W.listOf vsP.toArray kP) :: (D, W.listOf vsD.toArray kD) :: (O, W.listOf vsO.toArray kO) :: rst)) (hoc : oc.data = .cell (some (.int n t)))
    (o1 : L + 1 < P) (o2 : P < D) (o3 : D < O) (hnL : ∀ p ∈ rst, p.1 ≠ L + 1) (hnP : ∀ p ∈ rst, p.1 ≠ P) (hnD : ∀ p ∈ rst, p.1 ≠ D) (hnO : ∀ p ∈ rst, p.1 ≠ O)
    (hIP : Items rst vsP lsP) (hID : Items rst vsD lsD) (hR : RowAt rst r l) (hR2 : RowAt rst r2 l2) (hO : IntsAre vsO ns) (zP : lsP.length ≤ 100) (zD : lsD.length ≤ 100) (zO : ns.length ≤ 100)
    (vP : ∀ l ∈ lsP, l.length < 100) (vl : l.length < 100) (vD : ∀ l ∈ lsD, VRow l) (vl2 : VRow l2)
    (mLS : ∀ i j, i ≤ j → j < lsP.length → (fun i => rowlt (lsP.getD i []) l = true) j → (fun i => rowlt (lsP.getD i []) l = true) i)
    (mRS : ∀ i j, i ≤ j → j < lsP.length → (fun i => ¬ rowlt l (lsP.getD i []) = true) j → (fun i => ¬ rowlt l (lsP.getD i []) = true) i)
    (mLV : ∀ i j, i ≤ j → j < lsD.length → (fun i => pv (lsD.getD i []) < (pv l2)) j → (fun i => pv (lsD.getD i []) < (pv l2)) i)
    (mRV : ∀ i j, i ≤ j → j < lsD.length → (fun i => ¬ (pv l2) < pv (lsD.getD i [])) j → (fun i => ¬ (pv l2) < pv (lsD.getD i [])) i) :
    wpAny (model PySem.Challenge.rw_nb0126_01.row.prog w) (callerA.deeper (lawEnv L fa cdv)) (exec (lawSt 3) (lawEnv L fa cdv)) (fun f s' => Halt (S4Post h₀ L P D U O s m₀ (.int x tx) r r2 oc vsP vsD vsO kP kD kO rst lsP lsD l l2 ns x n f s')) E s := by
  w_on
  revert X; k_fill; intro X
  replace o1 := ltN o1; replace o2 := ltN o2; replace o3 := ltN o3
  show wpAny _ (callerA.deeper (envOfC _ ⟨_, _, _, _, _⟩ _ _ _)) (exec (Stmt.If _ _ _ _) (envOfC _ ⟨_, _, _, _, _⟩ _ _ _)) _ _ _
  k_steps
  all_goals (try k_data)
  · unfold Halt
    exact S4_endL (by assumption) (by assumption) (by assumption) (by assumption) (by assumption) (by assumption) (by assumption) (by assumption) (by assumption)
  · unfold Halt
    exact S4_endR (by assumption) (by assumption) (by assumption) (by assumption) (by assumption) (by assumption) (by assumption) (by assumption) (by assumption)
end
end Mine
namespace Mine
section
variable {w : World} {mean : ExcName → Option Value} {mg mb : Str → Option Value} {base h₀ : Heap} {L fa P D U O : Addr} {cdv : Value} {m₀ : Str → Option Value} {s : Shared} {E : Value → Shared → Prop} {row other place : Option Value} {tl : List (Addr × Obj)} {oc : Obj}
local macro_rules | `(tactic| k_mem) => `(tactic| first | with_reducible assumption | (refine List.mem_cons_of_mem _ ?_; k_mem))
local macro_rules | `(tactic| k_all) => `(tactic| with_reducible assumption)
local macro_rules | `(tactic| walk_at "call builtin:list.insert") => `(tactic| (k_here; (try dsimp only [List.cons_append, List.nil_append]); k_dflt (refine' st_insert ?in1 ?in2 ?in3 ?in4 ?in5 ?_; (case in1 => k_asm); (case in2 => k_asm); (case in5 => k_upd); (case in3 => omega); (case in4 => omega)); intro h' F' N'))
set_option maxHeartbeats 8000000 in
theorem S5 {xv : Value} {n : Int} {t tp : Tok} {pl kO : Nat} {vsO : List Value} (X : (Mine.hd.heap_39 w.params).In h₀) (T : Top Mine.hd.view_39 LS mean mg mb h₀) (F : Fr h₀ L s.heap (fr P D U O xv row other (some (.int (pl : Int) tp)) m₀))
    (N : News h₀ L s.heap ((O, W.listOf vsO.toArray kO) :: (L + 1, oc) :: tl)) (hoc : oc.data = .cell (some (.int n t))) (o1 : L + 1 < O) (hn : ∀ p ∈ tl, p.1 ≠ O) (hp : pl ≤ vsO.length) (hz : vsO.length ≤ 1000) :
    wpAny (model PySem.Challenge.rw_nb0126_01.row.prog w) (callerA.deeper (lawEnv L fa cdv)) (exec (lawSt 4) (lawEnv L fa cdv)) (fun f s' => Halt (f = .next ∧ ∃ h' tk, s' = { s with heap := h', toks := tk } ∧ Fr h₀ L h' (fr P D U O xv row other (some (.int (pl : Int) tp)) m₀) ∧
      News h₀ L h' ((O, W.listOf (insAt vsO pl (.int n t)).toArray (kO + 1)) :: (L + 1, oc) :: tl))) E s := by
  w_on
  revert X; k_fill; intro X
  replace o1 := ltN o1
  show wpAny _ (callerA.deeper (envOfC _ ⟨_, _, _, _, _⟩ _ _ _)) (exec (Stmt.Expr _ _) (envOfC _ ⟨_, _, _, _, _⟩ _ _ _)) _ _ _
  k_steps
  unfold Halt
  exact ⟨rfl, _, _, rfl, by assumption, by assumption⟩
set_option maxHeartbeats 8000000 in
theorem S6 {xv : Value} {r2 : Addr} {tp : Tok} {pl kU : Nat} {vsU : List Value} (X : (Mine.hd.heap_39 w.params).In h₀) (T : Top Mine.hd.view_39 LS mean mg mb h₀) (F : Fr h₀ L s.heap (fr P D U O xv row (some (.ref r2)) (some (.int (pl : Int) tp)) m₀))
    (N : News h₀ L s.heap ((U, W.listOf vsU.toArray kU) :: tl)) (hn : ∀ p ∈ tl, p.1 ≠ U) (hp : pl ≤ vsU.length) (hz : vsU.length ≤ 1000) :
    wpAny (model PySem.Challenge.rw_nb0126_01.row.prog w) (callerA.deeper (lawEnv L fa cdv)) (exec (lawSt 5) (lawEnv L fa cdv)) (fun f s' => Halt (f = .next ∧ ∃ h' tk, s' = { s with heap := h', toks := tk } ∧ Fr h₀ L h' (fr P D U O xv row (some (.ref r2)) (some (.int (pl : Int) tp)) m₀) ∧
      News h₀ L h' ((U, W.listOf (insAt vsU pl (.ref r2)).toArray (kU + 1)) :: tl))) E s := by
  w_on
  revert X; k_fill; intro X
  show wpAny _ (callerA.deeper (envOfC _ ⟨_, _, _, _, _⟩ _ _ _)) (exec (Stmt.Expr _ _) (envOfC _ ⟨_, _, _, _, _⟩ _ _ _)) _ _ _
  k_steps
  unfold Halt
  exact ⟨rfl, _, _, rfl, by assumption, by assumption⟩
end
end Mine
namespace Mine
/-- a row as data -/
def rowD (l : List Int) : PyData := .list (l.map PyData.int)
theorem eqv_rowsD : ∀ ls ms : List (List Int), PyData.eqvAll (ls.map rowD) (ms.map rowD) = decide (ls = ms)
  | [], [] => by simp [PyData.eqvAll]
  | [], _ :: _ => by simp [PyData.eqvAll]
  | _ :: _, [] => by simp [PyData.eqvAll]
  | a :: r, b :: t => by
    show (PyData.eqv (rowD a) (rowD b) && PyData.eqvAll (r.map rowD) (t.map rowD)) = _
    rw [eqv_rowsD r t]
    show (PyData.eqvAll (a.map PyData.int) (b.map PyData.int) && _) = _
    rw [ked_eqvAll]
    by_cases h : a = b <;> by_cases h' : r = t <;> simp [h, h']
theorem lay_rowsD : ∀ ls : List (List Int), PyData.canLayAll0 (ls.map rowD) = true
  | [] => rfl
  | a :: r => by
    show (PyData.canLayAll0 (a.map PyData.int) && PyData.canLayAll0 (r.map rowD)) = true
    rw [lay_rowsD r, ke_canLayAll0]
    rfl
theorem depth_rowsD : ∀ ls : List (List Int), PyData.depthAll (ls.map rowD) ≤ 1
  | [] => by simp [PyData.depthAll]
  | a :: r => by
    have e := depth_rowsD r
    show max (PyData.depthAll (a.map PyData.int) + 1) (PyData.depthAll (r.map rowD)) ≤ 1
    rw [ke_depthAll]
    omega
theorem shaped_rowsD (ls : List (List Int)) : SeqAt.shaped (.list (ls.map rowD)) = true := by
  unfold SeqAt.shaped
  have h1 := depth_rowsD ls
  rw [Bool.and_eq_true]
  exact ⟨by simp only [PyData.canLay0]; exact lay_rowsD ls, decide_eq_true (by simp only [PyData.depth]; omega)⟩
theorem reads_items {h₀ h : Heap} {L : Addr} {news n₁ : List (Addr × Obj)} (N : News h₀ L h news) (hs : ∀ p ∈ n₁, p ∈ news) : ∀ {vs : List Value} {ls : List (List Int)}, Items n₁ vs ls → ∃ as, ReadsAll h vs (ls.map rowD) as
  | _, _, .nil => ⟨_, ReadsAll.nil⟩
  | _, _, .cons hr r => by
    obtain ⟨as, q⟩ := reads_items N hs r
    obtain ⟨us, k, hm, hi⟩ := hr
    exact ⟨_, ReadsAll.cons (reads_of_ints (News.isList N (hs _ hm)) hi) q⟩
section
variable {prog : Program} {w : World} {A : Around} {E : Value → Shared → Prop} {s : Shared} {h₀ : Heap} {L a b : Addr} {news n₁ n₂ : List (Addr × Obj)} {vs us : List Value} {ls ms : List (List Int)} {k k' : Nat} {Q : Value → Shared → Prop}
theorem ne_items (N : News h₀ L s.heap news) (ha : s.heap.IsList a vs.toArray) (hb : s.heap.IsList b us.toArray) (hI : Items n₁ vs ls) (h1 : ∀ p ∈ n₁, p ∈ news) (hJ : Items n₂ us ms) (h2 : ∀ p ∈ n₂, p ∈ news) (hu : A.units + 64 < cLine)
    (h : Q (.bool (!decide (ls = ms))) s) : wpAny (model prog w) A (compareOp .NotEq (.ref a) (.ref b)) Q E s := by
  obtain ⟨as, ra⟩ := reads_items N h1 hI
  obtain ⟨bs, rb⟩ := reads_items N h2 hJ
  obtain ⟨o, ho, hc, n, hd⟩ := ha
  obtain ⟨o', ho', hc', n', hd'⟩ := hb
  refine ne_dataH (reads_list_at ho hc hd (by simpa using ra)) (reads_list_at ho' hc' hd' (by simpa using rb)) (shaped_rowsD ls) (shaped_rowsD ms) hu ?_
  simp only [PyData.eqv, eqv_rowsD]
  exact h
end
end Mine
namespace Mine
theorem Items.append {news : List (Addr × Obj)} {us : List Value} {ms : List (List Int)} (h2 : Items news us ms) : ∀ {vs : List Value} {ls : List (List Int)}, Items news vs ls → Items news (vs ++ us) (ls ++ ms)
  | _, _, .nil => h2
  | _, _, .cons h r => .cons h (Items.append h2 r)
/-- one turn of a list comprehension whose element is a new row -/
def RowEnd (h₀ : Heap) (L : Addr) (m : Str → Option Value) (s : Shared) (l : List Int) (all : List (Addr × Obj)) (y : Value) (s₂ : Shared) : Prop :=
  ∃ r us kk h' tk', y = .ref r ∧ s₂ = { s with heap := h', toks := tk' } ∧ Fr h₀ L h' m ∧ News h₀ L h' ((r, W.listOf us.toArray kk) :: all) ∧ IntsAre us l ∧ ∀ p ∈ all, p.1 < r
section
variable {prog : Program} {w : World} {A : Around} {h₀ : Heap} {L : Addr} {m : Str → Option Value} {env : Env} {elt : PySem.Expr} {x : Str} {scope : Scope} {cl : List (Str × Addr)} {s : Shared} {Fin : List Value → List (Addr × Obj) → Prop} {news : List (Addr × Obj)}
theorem rows_rest {vs : List Value} {ns : List Int} {ax : Addr} (g : Int → List Int) (hi : IntsAre vs ns) (hS : LCg.SrcAt h₀ ax vs.toArray news)
    (turn : ∀ k t I oI C oC D m₂ ys nw h tk (E' : Value → Shared → Prop), k ∈ ns → LCg.NsObj oC m₂ → m₂ x = some (.int k t) → Fr h₀ L h m → News h₀ L h ((I, oI) :: (C, oC) :: (D, LCg.lst ys) :: nw) →
      wpAny (model prog w) A (eval elt (compEnvC scope cl C env)) (fun y s₂ => Halt (RowEnd h₀ L m { s with heap := h, toks := tk } (g k) ((I, oI) :: (C, oC) :: (D, LCg.lst ys) :: nw) y s₂)) E' { s with heap := h, toks := tk })
    (fin : ∀ ys added, Items added ys (ns.map g) → Fin ys (added ++ news)) : LCg.CompRest prog w A h₀ L m env elt x scope cl s (LCg.SrcAt h₀ ax vs.toArray) (fun i v => vs.toArray[i]? = some v) Fin vs.toArray.size 0 [] news := by
  have hvl := hi.length
  have key : ∀ (j i : Nat) (ys : List Value) (added : List (Addr × Obj)), i + j = ns.length → Items added ys ((ns.take i).map g) → LCg.SrcAt h₀ ax vs.toArray (added ++ news) →
      LCg.CompRest prog w A h₀ L m env elt x scope cl s (LCg.SrcAt h₀ ax vs.toArray) (fun i v => vs.toArray[i]? = some v) Fin j i ys (added ++ news) := by
    intro j
    induction j with
    | zero =>
      intro i ys added hij hy _
      have e : i = ns.length := by omega
      subst e
      rw [List.take_length] at hy
      exact LCg.CompRest.zero (fin ys added hy)
    | succ j ih =>
      intro i ys added hij hy hS'
      refine LCg.CompRest.succ ?_
      intro v I oI C oC D m₂ h tk E' hv hC hx F N off ne
      obtain ⟨k, t, e, hk⟩ := IntsAre.at hi i v (by simpa using hv)
      rw [e] at hx
      refine wpAny_mono (turn k t I oI C oC D m₂ ys (added ++ news) h tk E' (List.mem_of_getElem? hk) hC hx F N) (fun y s₂ hq => ?_) fun _ _ e => e
      obtain ⟨r, us, kk, h', tk', ey, es, F', N', hu, hlt⟩ := hq
      subst ey es
      have z1 : I < r := hlt _ (.head _)
      have z2 : C < r := hlt _ (.tail _ (.head _))
      have z3 : D < r := hlt _ (.tail _ (.tail _ (.head _)))
      refine ⟨h', tk', ((r, W.listOf us.toArray kk) :: added) ++ news, rfl, F', fun p hp => N' p ?_, ?_, ?_, ?_⟩
      · rcases List.mem_cons.mp hp with rfl | hp
        · exact .tail _ (.head _)
        · rcases List.mem_cons.mp hp with rfl | hp
          · exact .tail _ (.tail _ (.head _))
          · rcases List.mem_cons.mp hp with rfl | hp
            · exact .tail _ (.tail _ (.tail _ (.head _)))
            · rcases List.mem_cons.mp hp with rfl | hp
              · exact .head _
              · exact .tail _ (.tail _ (.tail _ (.tail _ hp)))
      · exact ⟨⟨Nat.ne_of_gt z1, Nat.ne_of_gt z2, Nat.ne_of_gt z3⟩, off⟩
      · rcases hS' with q | ⟨o, hm, q⟩
        · exact .inl q
        · exact .inr ⟨o, List.mem_cons_of_mem _ hm, q⟩
      · refine ih (i + 1) _ ((r, W.listOf us.toArray kk) :: added) (by omega) ?_ ?_
        · rw [List.take_add_one, hk, List.map_append]
          refine Items.append (.cons ⟨us, kk, List.mem_cons_self, hu⟩ .nil) (hy.mono fun _ hp => List.mem_cons_of_mem _ hp)
        · rcases hS' with q | ⟨o, hm, q⟩
          · exact .inl q
          · exact .inr ⟨o, List.mem_cons_of_mem _ hm, q⟩
  have := key ns.length 0 [] [] (by omega) .nil hS
  rw [List.size_toArray, hvl]
  exact this
end
end Mine
namespace Mine
theorem Halt.out {P : Prop} (h : P) : Halt P := h
section
variable {w : World} {mean : ExcName → Option Value} {mg mb : Str → Option Value} {base h₀ : Heap} {L fa P D U O : Addr} {cdv : Value} {m₀ : Str → Option Value} {s : Shared} {E : Value → Shared → Prop} {row other place : Option Value} {rst : List (Addr × Obj)} {oc : Obj}
local macro_rules | `(tactic| k_mem) => `(tactic| first | with_reducible assumption | (refine List.mem_cons_of_mem _ ?_; k_mem))
local macro_rules | `(tactic| k_all) => `(tactic| with_reducible assumption)
local macro_rules | `(tactic| walk_at "compareOp NotEq ref ref") => `(tactic| (k_here; refine Halt.intro ?_))
local macro_rules | `(tactic| walk_at "eval ListComp") => `(tactic| (k_here; refine Halt.intro ?_))
local macro_rules | `(tactic| walk_at "CompSrc") => `(tactic| (refine Halt.intro ?_))
local macro_rules | `(tactic| walk_at "call ref") => `(tactic| (k_here; k_dflt (refine' octets_use ?cv1 ?cv2 ?cv3 ?cv4 ?cv5 ?cv6 ?cv7 ?cv8 ?cv9 ?cv10 ?_; (case cv3 => k_asm); (case cv4 => k_asm); (case cv5 => k_asm); (case cv6 => k_asm); (case cv7 => k_asm); (case cv8 => exact rfl); (case cv1 => with_reducible assumption); (case cv2 => with_reducible assumption); (case cv9 => decide); (case cv10 => decide)); intro r' vs' k' h' tk' F' N' hi' l1; (try dsimp only)))
set_option maxHeartbeats 8000000 in
theorem S7 {xv : Value} {vsP vsD vsO : List Value} {lsP lsD : List (List Int)} {ns : List Int} {kP kD kU kO : Nat} (B : Below callerA base [] h₀) (X : (Mine.hd.heap_39 w.params).In h₀) (T : Top Mine.hd.view_39 LS mean mg mb h₀) (F : Fr h₀ L s.heap (fr P D U O xv row other place m₀))
    (N : News h₀ L s.heap ((D, W.listOf vsD.toArray kD) :: (U, W.listOf vsD.toArray kU) :: (P, W.listOf vsP.toArray kP) :: (O, W.listOf vsO.toArray kO) :: rst))
    (hIP : Items rst vsP lsP) (hID : Items rst vsD lsD) (hO : IntsAre vsO ns) (hlP : lsP = ns.map octs) (hns : ∀ a ∈ ns, 0 ≤ a ∧ a < 262144) (zO : ns.length ≤ 100) :
    wpAny (model PySem.Challenge.rw_nb0126_01.row.prog w) (callerA.deeper (lawEnv L fa cdv)) (exec (lawSt 6) (lawEnv L fa cdv)) (fun f s' => Halt (f = .next ∧ ∃ h' tk, s' = { s with heap := h', toks := tk } ∧ Fr h₀ L h' (fr P D U O xv row other place m₀) ∧
      News h₀ L h' ((D, W.listOf vsD.toArray kD) :: (U, W.listOf vsD.toArray kU) :: (P, W.listOf vsP.toArray kP) :: (O, W.listOf vsO.toArray kO) :: rst))) E s := by
  w_on
  revert X; k_fill; intro X
  show wpAny _ (callerA.deeper (envOfC _ ⟨_, _, _, _, _⟩ _ _ _)) (exec (Stmt.If _ _ _ _) (envOfC _ ⟨_, _, _, _, _⟩ _ _ _)) _ _ _
  have hlO := hO.length
  k_steps
  refine Halt.out ?_
  have hsub : ∀ p ∈ rst, p ∈ (D, W.listOf vsD.toArray kD) :: (U, W.listOf vsD.toArray kU) :: (P, W.listOf vsP.toArray kP) :: (O, W.listOf vsO.toArray kO) :: rst := fun p hp => .tail _ (.tail _ (.tail _ (.tail _ hp)))
  refine ne_items N (News.isList N (.head _)) (News.isList N (.tail _ (.head _))) hID hsub hID hsub (Nat.le_of_ble_eq_true rfl) ?_
  rw [decide_eq_true rfl]
  k_steps
  refine Halt.out ?_
  refine LCg.ListComp_U (F₀ := F) (by rfl) (by decide) (by rfl) (by decide) (by rfl) ?_
  k_steps
  refine Halt.out ?_
  refine LCg.CompSrc.ledger (by rfl) F N (.tail _ (.tail _ (.tail _ (.head _)))) (by rw [sizeLine_eq, List.size_toArray]; omega) ?_
  intro g
  refine rows_rest octs hO (.inr ⟨_, .tail _ (.tail _ (.tail _ (.head _))), rfl, _, rfl⟩) ?_ ?_
  · intro k t I oI C oC D' m₂ ys nw h tk E' hk hC hx F' N'
    have hb1 := (hns k hk).1
    have hb2 := (hns k hk).2
    clear N F
    k_steps
    unfold Halt
    exact ⟨_, _, _, _, _, rfl, rfl, by assumption, by assumption, by assumption, by assumption⟩
  · intro ys added hI
    unfold LCg.FinE
    intro D' h' tk' F' N' off
    clear N F
    have hall : ∀ p ∈ (D, W.listOf vsD.toArray kD) :: (U, W.listOf vsD.toArray kU) :: (P, W.listOf vsP.toArray kP) :: (O, W.listOf vsO.toArray kO) :: rst, p ∈ (D', LCg.lst ys) :: (added ++ (D, W.listOf vsD.toArray kD) :: (U, W.listOf vsD.toArray kU) :: (P, W.listOf vsP.toArray kP) :: (O, W.listOf vsO.toArray kO) :: rst) :=
      fun p hp => List.mem_cons_of_mem _ (List.mem_append_right _ hp)
    refine ne_items N' (News.isList N' (hall _ (.tail _ (.tail _ (.head _))))) (News.isList N' (.head _)) hIP (fun p hp => hall _ (hsub p hp)) hI (fun p hp => List.mem_cons_of_mem _ (List.mem_append_left _ hp)) (Nat.le_of_ble_eq_true rfl) ?_
    rw [decide_eq_true hlP]
    have N2 := cb_drop N' hall
    clear N'
    k_steps
    unfold Halt
    exact ⟨rfl, _, _, rfl, by assumption, by assumption⟩
end
end Mine
namespace Mine
theorem insAt_getD {α : Type} {l : List α} {p : Nat} {y d : α} (hp : p ≤ l.length) (i : Nat) : (insAt l p y).getD i d = if i < p then l.getD i d else if i = p then y else l.getD (i - 1) d := by
  unfold insAt
  simp only [List.getD_eq_getElem?_getD, List.getElem?_append, List.length_take, Nat.min_eq_left hp]
  by_cases h1 : i < p
  · rw [if_pos h1, if_pos h1, List.getElem?_take, if_pos h1]
  · rw [if_neg h1, if_neg h1]
    by_cases h2 : i = p
    · subst h2
      simp
    · rw [if_neg h2]
      obtain ⟨j, hj⟩ : ∃ j, i - p = j + 1 := ⟨i - p - 1, by omega⟩
      rw [hj, List.getElem?_cons_succ, List.getElem?_drop]
      have e : p + j = i - 1 := by omega
      rw [e]
theorem insAt_map {α β : Type} (f : α → β) (l : List α) (p : Nat) (y : α) : (insAt l p y).map f = insAt (l.map f) p (f y) := by
  unfold insAt
  rw [List.map_append, List.map_cons, List.map_take, List.map_drop]
theorem mem_insAt {α : Type} {l : List α} {p : Nat} {y z : α} (h : z ∈ insAt l p y) : z = y ∨ z ∈ l := by
  unfold insAt at h
  rcases List.mem_append.mp h with h | h
  · exact .inr (List.mem_of_mem_take h)
  · rcases List.mem_cons.mp h with h | h
    · exact .inl h
    · exact .inr (List.mem_of_mem_drop h)
def Sorted (ns : List Int) : Prop := ∀ i j, i ≤ j → j < ns.length → ns.getD i 0 ≤ ns.getD j 0
theorem filter_at {q : Int → Bool} : ∀ (ns : List Int) (p : Nat), p ≤ ns.length → (∀ i, i < p → q (ns.getD i 0) = true) → (∀ i, p ≤ i → i < ns.length → q (ns.getD i 0) = false) → (ns.filter q).length = p
  | [], p, hp, _, _ => by simp at hp; simp [hp]
  | a :: r, 0, _, h1, h2 => by
    have e : (a :: r).filter q = [] := by
      apply List.filter_eq_nil_iff.mpr
      intro b hb
      obtain ⟨i, hi, e⟩ := List.getElem_of_mem hb
      have := h2 i (Nat.zero_le _) hi
      rw [List.getD_eq_getElem?_getD, List.getElem?_eq_getElem hi, Option.getD_some, e] at this
      simp [this]
    rw [e]; rfl
  | a :: r, p + 1, hp, h1, h2 => by
    have ha : q a = true := by simpa using h1 0 (Nat.succ_pos _)
    rw [List.filter_cons, if_pos ha, List.length_cons, filter_at r p (by simpa using hp) (fun i hi => by simpa using h1 (i + 1) (by omega)) (fun i hi hl => by simpa using h2 (i + 1) (by omega) (by simp; omega))]
theorem sorted_ins {ns : List Int} {p : Nat} {n : Int} (hs : Sorted ns) (hp : p ≤ ns.length) (h1 : ∀ i, i < p → ns.getD i 0 ≤ n) (h2 : ∀ i, p ≤ i → i < ns.length → n ≤ ns.getD i 0) : Sorted (insAt ns p n) := by
  intro i j hij hj
  rw [insAt_length] at hj
  rw [insAt_getD hp, insAt_getD hp]
  by_cases a1 : i < p
  · rw [if_pos a1]
    by_cases b1 : j < p
    · rw [if_pos b1]; exact hs i j hij (by omega)
    · rw [if_neg b1]
      by_cases b2 : j = p
      · rw [if_pos b2]; exact h1 i a1
      · rw [if_neg b2]; exact hs i (j - 1) (by omega) (by omega)
  · rw [if_neg a1, if_neg (by omega : ¬ j < p)]
    by_cases a2 : i = p
    · rw [if_pos a2]
      by_cases b2 : j = p
      · rw [if_pos b2]; omega
      · rw [if_neg b2]; exact h2 (j - 1) (by omega) (by omega)
    · rw [if_neg a2, if_neg (by omega : ¬ j = p)]
      exact hs (i - 1) (j - 1) (by omega) (by omega)
/-! the octets -/
theorem octs_len (n : Int) : (octs n).length < 100 := by
  unfold octs
  split
  · simp
  · split <;> simp
theorem vrow_octs {n : Int} (h0 : 0 ≤ n) (h1 : n < 262144) : VRow (octs n) := by
  unfold octs
  split
  · show Last _
    unfold Last
    omega
  · split
    · refine ⟨?_, ?_⟩
      · unfold Cont; omega
      · unfold Last; omega
    · refine ⟨?_, ?_, ?_⟩
      · unfold Cont; omega
      · unfold Cont; omega
      · unfold Last; omega
theorem pv_octs {n : Int} (h0 : 0 ≤ n) (h1 : n < 262144) : pv (octs n) = n := by
  unfold octs
  split
  · show n % 64 % 64 = n
    omega
  · split
    · show (64 + n / 64 % 64) % 64 * 64 + n % 64 % 64 = n
      omega
    · show ((64 + n / 64 / 64 % 64) % 64 * 64 + (64 + n / 64 % 64) % 64) * 64 + n % 64 % 64 = n
      omega
theorem vrow_dress {n : Int} (h0 : 0 ≤ n) (h1 : n < 262144) : VRow (dress (octs n)) := by
  unfold octs
  split
  · show Cont 64 ∧ Last (n % 64 + 128)
    unfold Cont Last
    omega
  · split
    · show Cont 64 ∧ Cont (64 + n / 64 % 64) ∧ Last (n % 64 + 128)
      unfold Cont Last
      omega
    · show Cont 64 ∧ Cont (64 + n / 64 / 64 % 64) ∧ Cont (64 + n / 64 % 64) ∧ Last (n % 64 + 128)
      unfold Cont Last
      omega
theorem pv_dress {n : Int} (h0 : 0 ≤ n) (h1 : n < 262144) : pv (dress (octs n)) = n := by
  unfold octs
  split
  · show (64 : Int) % 64 * 64 + (n % 64 + 128) % 64 = n
    omega
  · split
    · show ((64 : Int) % 64 * 64 + (64 + n / 64 % 64) % 64) * 64 + (n % 64 + 128) % 64 = n
      omega
    · show (((64 : Int) % 64 * 64 + (64 + n / 64 / 64 % 64) % 64) * 64 + (64 + n / 64 % 64) % 64) * 64 + (n % 64 + 128) % 64 = n
      omega
theorem vrow_wr {x n : Int} (h0 : 0 ≤ n) (h1 : n < 262144) : VRow (wr x (octs n)) := by
  unfold wr
  by_cases h : (x.fdiv 2).fmod 2 = 1
  · rw [if_pos h]; exact vrow_dress h0 h1
  · rw [if_neg h]; exact vrow_octs h0 h1
theorem pv_wr {x n : Int} (h0 : 0 ≤ n) (h1 : n < 262144) : pv (wr x (octs n)) = n := by
  unfold wr
  by_cases h : (x.fdiv 2).fmod 2 = 1
  · rw [if_pos h]; exact pv_dress h0 h1
  · rw [if_neg h]; exact pv_octs h0 h1
theorem lex_cons {a b : Int} {r q : List Int} : lexlt (a :: r) (b :: q) = if a = b then lexlt r q else decide (a < b) := rfl
theorem rowlt_octs {a b : Int} (ha : 0 ≤ a) (ha' : a < 262144) (hb : 0 ≤ b) (hb' : b < 262144) : rowlt (octs a) (octs b) = decide (a < b) := by
  have key : rowlt (octs a) (octs b) = true ↔ a < b := by
    unfold rowlt octs
    by_cases h1 : a < 64
    · rw [if_pos h1]
      by_cases h2 : b < 64
      · rw [if_pos h2, if_pos (by simp), lex_cons]
        by_cases e : a % 64 = b % 64
        · rw [if_pos e]
          simp only [lexlt, Bool.false_eq_true, false_iff]
          omega
        · rw [if_neg e, decide_eq_true_eq]
          omega
      · rw [if_neg h2]
        by_cases h3 : b < 4096
        · rw [if_pos h3, if_neg (by simp), decide_eq_true_eq]
          simp; omega
        · rw [if_neg h3, if_neg (by simp), decide_eq_true_eq]
          simp; omega
    · rw [if_neg h1]
      by_cases h2 : a < 4096
      · rw [if_pos h2]
        by_cases h3 : b < 64
        · rw [if_pos h3, if_neg (by simp), decide_eq_true_eq]
          simp; omega
        · rw [if_neg h3]
          by_cases h4 : b < 4096
          · rw [if_pos h4, if_pos (by simp), lex_cons]
            by_cases e : 64 + a / 64 % 64 = 64 + b / 64 % 64
            · rw [if_pos e, lex_cons]
              by_cases e2 : a % 64 = b % 64
              · rw [if_pos e2]
                simp only [lexlt, Bool.false_eq_true, false_iff]
                omega
              · rw [if_neg e2, decide_eq_true_eq]
                omega
            · rw [if_neg e, decide_eq_true_eq]
              omega
          · rw [if_neg h4, if_neg (by simp), decide_eq_true_eq]
            simp; omega
      · rw [if_neg h2]
        by_cases h3 : b < 64
        · rw [if_pos h3, if_neg (by simp), decide_eq_true_eq]
          simp; omega
        · rw [if_neg h3]
          by_cases h4 : b < 4096
          · rw [if_pos h4, if_neg (by simp), decide_eq_true_eq]
            simp; omega
          · rw [if_neg h4, if_pos (by simp), lex_cons]
            by_cases e : 64 + a / 64 / 64 % 64 = 64 + b / 64 / 64 % 64
            · rw [if_pos e, lex_cons]
              by_cases e1 : 64 + a / 64 % 64 = 64 + b / 64 % 64
              · rw [if_pos e1, lex_cons]
                by_cases e2 : a % 64 = b % 64
                · rw [if_pos e2]
                  simp only [lexlt, Bool.false_eq_true, false_iff]
                  omega
                · rw [if_neg e2, decide_eq_true_eq]
                  omega
              · rw [if_neg e1, decide_eq_true_eq]
                omega
            · rw [if_neg e, decide_eq_true_eq]
              omega
  by_cases h : a < b
  · rw [decide_eq_true h]; exact key.mpr h
  · rw [decide_eq_false h]
    exact Bool.eq_false_iff.mpr fun q => h (key.mp q)
end Mine
namespace Mine
theorem seq {M : Model} {A : Around} {E : Value → Shared → Prop} {s : Shared} {env : Env} {st : Stmt} {rest : List Stmt} {Q : Flow → Shared → Prop} {R : Shared → Prop} (h1 : wpAny M A (exec st env) (fun f s' => f = .next ∧ R s') E s) (h2 : ∀ s', R s' → wpAny M A (execs rest env) Q E s') :
    wpAny M A (execs (st :: rest) env) Q E s :=
  wpAny_execs_cons (wpAny_mono h1 (fun f s' h => by obtain ⟨rfl, h⟩ := h; exact h2 s' h) fun _ _ e => e)
/-- the numbers so far, and what the lists hold of them -/
structure Good (n : List (Addr × Obj)) (vsP vsD vsO : List Value) (ns : List Int) (lsD : List (List Int)) : Prop where
  P : Items n vsP (ns.map octs)
  D : Items n vsD lsD
  O : IntsAre vsO ns
  srt : Sorted ns
  rng : ∀ a ∈ ns, 0 ≤ a ∧ a < 262144
  val : lsD.map pv = ns
  vrow : ∀ l ∈ lsD, VRow l
theorem getD_map {α β : Type} (f : α → β) (l : List α) (i : Nat) (d : α) (d' : β) (h : i < l.length) : (l.map f).getD i d' = f (l.getD i d) := by
  simp [List.getD_eq_getElem?_getD, List.getElem?_map, List.getElem?_eq_getElem h]
theorem Good.rngAt {n : List (Addr × Obj)} {vsP vsD vsO : List Value} {ns : List Int} {lsD : List (List Int)} (G : Good n vsP vsD vsO ns lsD) {i : Nat} (h : i < ns.length) : 0 ≤ ns.getD i 0 ∧ ns.getD i 0 < 262144 := by
  have e : ns.getD i 0 = ns[i] := by simp [List.getD_eq_getElem?_getD, List.getElem?_eq_getElem h]
  rw [e]
  exact G.rng _ (List.getElem_mem h)
theorem Good.lenD {n : List (Addr × Obj)} {vsP vsD vsO : List Value} {ns : List Int} {lsD : List (List Int)} (G : Good n vsP vsD vsO ns lsD) : lsD.length = ns.length := by rw [← G.val, List.length_map]
theorem Good.pvAt {n : List (Addr × Obj)} {vsP vsD vsO : List Value} {ns : List Int} {lsD : List (List Int)} (G : Good n vsP vsD vsO ns lsD) {i : Nat} (h : i < ns.length) : pv (lsD.getD i []) = ns.getD i 0 := by
  have e := getD_map pv lsD i [] 0 (by rw [G.lenD]; exact h)
  rw [G.val] at e
  exact e.symm
/-- the two places that the searches find are the one that the count gives -/
theorem places {n : List (Addr × Obj)} {vsP vsD vsO : List Value} {ns : List Int} {lsD : List (List Int)} (G : Good n vsP vsD vsO ns lsD) {x k : Int} {l2 : List Int} (h0 : 0 ≤ k) (h1 : k < 262144) (hl2 : pv l2 = k) {pS pV pl : Nat} (q1 : pS ≤ (ns.map octs).length) (q2 : pV ≤ lsD.length)
    (h : S4L (ns.map octs) lsD (octs k) l2 ns x k pS pV pl ∨ S4R (ns.map octs) lsD (octs k) l2 ns x k pS pV pl) :
    pS = pl ∧ pV = pl ∧ pl ≤ ns.length ∧ (∀ i, i < pl → ns.getD i 0 ≤ k) ∧ (∀ i, pl ≤ i → i < ns.length → k ≤ ns.getD i 0) := by
  rw [List.length_map] at q1
  rw [G.lenD] at q2
  rcases h with ⟨_, a1, a2, a3, a4, e⟩ | ⟨_, a1, a2, a3, a4, e⟩
  · have b1 : ∀ i, i < pS → ns.getD i 0 < k := fun i hi => by
      have := a1 i hi
      rw [getD_map octs ns i 0 [] (by omega), rowlt_octs (G.rngAt (by omega)).1 (G.rngAt (by omega)).2 h0 h1, decide_eq_true_eq] at this
      exact this
    have b2 : ∀ i, pS ≤ i → i < ns.length → ¬ ns.getD i 0 < k := fun i hi hn => by
      have := a2 i hi (by rw [List.length_map]; exact hn)
      rw [getD_map octs ns i 0 [] hn, rowlt_octs (G.rngAt hn).1 (G.rngAt hn).2 h0 h1, decide_eq_true_eq] at this
      exact this
    have b3 : ∀ i, i < pV → ns.getD i 0 < k := fun i hi => by
      have := a3 i hi
      rw [G.pvAt (by omega), hl2] at this
      exact this
    have b4 : ∀ i, pV ≤ i → i < ns.length → ¬ ns.getD i 0 < k := fun i hi hn => by
      have := a4 i hi (by rw [G.lenD]; exact hn)
      rw [G.pvAt hn, hl2] at this
      exact this
    have e1 : pS = pl := by rw [e]; exact (filter_at ns pS q1 (fun i hi => decide_eq_true (b1 i hi)) fun i hi hn => decide_eq_false (b2 i hi hn)).symm
    have e2 : pV = pl := by rw [e]; exact (filter_at ns pV q2 (fun i hi => decide_eq_true (b3 i hi)) fun i hi hn => decide_eq_false (b4 i hi hn)).symm
    clear e
    subst e1
    exact ⟨rfl, e2, q1, fun i hi => by have := b1 i hi; omega, fun i hi hn => by have := b2 i hi hn; omega⟩
  · have b1 : ∀ i, i < pS → ns.getD i 0 ≤ k := fun i hi => by
      have := a1 i hi
      rw [getD_map octs ns i 0 [] (by omega), rowlt_octs h0 h1 (G.rngAt (by omega)).1 (G.rngAt (by omega)).2, decide_eq_true_eq] at this
      omega
    have b2 : ∀ i, pS ≤ i → i < ns.length → ¬ ns.getD i 0 ≤ k := fun i hi hn => by
      have := a2 i hi (by rw [List.length_map]; exact hn)
      rw [getD_map octs ns i 0 [] hn, rowlt_octs h0 h1 (G.rngAt hn).1 (G.rngAt hn).2, decide_eq_true_eq] at this
      omega
    have b3 : ∀ i, i < pV → ns.getD i 0 ≤ k := fun i hi => by
      have := a3 i hi
      rw [G.pvAt (by omega), hl2] at this
      omega
    have b4 : ∀ i, pV ≤ i → i < ns.length → ¬ ns.getD i 0 ≤ k := fun i hi hn => by
      have := a4 i hi (by rw [G.lenD]; exact hn)
      rw [G.pvAt hn, hl2] at this
      omega
    have e1 : pS = pl := by rw [e]; exact (filter_at ns pS q1 (fun i hi => decide_eq_true (b1 i hi)) fun i hi hn => decide_eq_false (b2 i hi hn)).symm
    have e2 : pV = pl := by rw [e]; exact (filter_at ns pV q2 (fun i hi => decide_eq_true (b3 i hi)) fun i hi hn => decide_eq_false (b4 i hi hn)).symm
    clear e
    subst e1
    exact ⟨rfl, e2, q1, b1, fun i hi hn => by have := b2 i hi hn; omega⟩
theorem Items.take {n : List (Addr × Obj)} : ∀ {vs : List Value} {ls : List (List Int)}, Items n vs ls → ∀ p, Items n (vs.take p) (ls.take p)
  | _, _, .nil, _ => by simp; exact .nil
  | _, _, .cons h r, 0 => .nil
  | _, _, .cons h r, p + 1 => .cons h (r.take p)
theorem Items.drop {n : List (Addr × Obj)} : ∀ {vs : List Value} {ls : List (List Int)}, Items n vs ls → ∀ p, Items n (vs.drop p) (ls.drop p)
  | _, _, .nil, _ => by simp; exact .nil
  | _, _, .cons h r, 0 => .cons h r
  | _, _, .cons h r, p + 1 => r.drop p
theorem Items.ins {n : List (Addr × Obj)} {vs : List Value} {ls : List (List Int)} {r : Addr} {l : List Int} (h : Items n vs ls) (hr : RowAt n r l) (p : Nat) : Items n (insAt vs p (.ref r)) (insAt ls p l) :=
  Items.append (.cons hr (h.drop p)) (h.take p)
theorem Good.next {n n' : List (Addr × Obj)} {vsP vsD vsO : List Value} {ns : List Int} {lsD : List (List Int)} (G : Good n vsP vsD vsO ns lsD) (hs : ∀ p ∈ n, p ∈ n') {k : Int} {t : Tok} {r r2 : Addr} {l2 : List Int} (h0 : 0 ≤ k) (h1 : k < 262144) (hr : RowAt n' r (octs k)) (hr2 : RowAt n' r2 l2)
    (hv : VRow l2) (hl2 : pv l2 = k) {p : Nat} (hp : p ≤ ns.length) (q1 : ∀ i, i < p → ns.getD i 0 ≤ k) (q2 : ∀ i, p ≤ i → i < ns.length → k ≤ ns.getD i 0) :
    Good n' (insAt vsP p (.ref r)) (insAt vsD p (.ref r2)) (insAt vsO p (.int k t)) (insAt ns p k) (insAt lsD p l2) where
  P := by rw [insAt_map]; exact (G.P.mono hs).ins hr p
  D := (G.D.mono hs).ins hr2 p
  O := IntsAre.append (G.O.take p) (.cons k t (G.O.drop p))
  srt := sorted_ins G.srt hp q1 q2
  rng := fun a ha => (mem_insAt ha).elim (fun e => e ▸ ⟨h0, h1⟩) (G.rng a)
  val := by rw [insAt_map, G.val, hl2]
  vrow := fun l hl => (mem_insAt hl).elim (fun e => e ▸ hv) (G.vrow l)
end Mine
namespace Mine
section
variable {w : World} {mean : ExcName → Option Value} {mg mb : Str → Option Value} {base h₀ : Heap} {L fa P D U O : Addr} {cdv : Value} {m₀ : Str → Option Value} {s : Shared} {E : Value → Shared → Prop} {row other place : Option Value}
def TurnEnd (h₀ : Heap) (L P D U O : Addr) (s : Shared) (m₀ : Str → Option Value) (xv : Value) (Λ rst n : List (Addr × Obj)) (len : Nat) (f : Flow) (s' : Shared) : Prop :=
  f = .next ∧ ∃ h' tk row other place oc vc vsP vsD vsO kP kD kU kO ns lsD added, s' = { s with heap := h', toks := tk } ∧ Fr h₀ L h' (fr P D U O xv row other place m₀) ∧
    News h₀ L h' ((L + 1, oc) :: (P, W.listOf vsP.toArray kP) :: (D, W.listOf vsD.toArray kD) :: (U, W.listOf vsD.toArray kU) :: (O, W.listOf vsO.toArray kO) :: (added ++ rst)) ∧ oc.data = .cell vc ∧
    Good (added ++ n) vsP vsD vsO ns lsD ∧ ns.length = len ∧ ∀ q ∈ added, ∀ p ∈ Λ, p.1 < q.1
set_option maxHeartbeats 4000000 in
theorem turn {x : Int} {tx : Tok} {oc : Obj} {vc : Option Value} {vsP vsD vsO : List Value} {kP kD kU kO : Nat} {ns : List Int} {lsD : List (List Int)} {rst n : List (Addr × Obj)} (B : Below callerA base [] h₀) (X : (Mine.hd.heap_39 w.params).In h₀) (T : Top Mine.hd.view_39 LS mean mg mb h₀)
    (F : Fr h₀ L s.heap (fr P D U O (.int x tx) row other place m₀))
    (N : News h₀ L s.heap ((L + 1, oc) :: (P, W.listOf vsP.toArray kP) :: (D, W.listOf vsD.toArray kD) :: (U, W.listOf vsD.toArray kU) :: (O, W.listOf vsO.toArray kO) :: rst)) (hoc : oc.data = .cell vc)
    (o1 : L + 1 < P) (o2 : P < D) (o3 : D < U) (o4 : U < O) (hnL : ∀ p ∈ rst, p.1 ≠ L + 1) (hnP : ∀ p ∈ rst, p.1 ≠ P) (hnD : ∀ p ∈ rst, p.1 ≠ D) (hnU : ∀ p ∈ rst, p.1 ≠ U) (hnO : ∀ p ∈ rst, p.1 ≠ O)
    (G : Good n vsP vsD vsO ns lsD) (hn : ∀ p ∈ n, p ∈ rst) (hz : ns.length ≤ 50) :
    wpAny (model PySem.Challenge.rw_nb0126_01.row.prog w) (callerA.deeper (lawEnv L fa cdv)) (execs lawFor (lawEnv L fa cdv))
      (TurnEnd h₀ L P D U O s m₀ (.int x tx) ((L + 1, oc) :: (P, W.listOf vsP.toArray kP) :: (D, W.listOf vsD.toArray kD) :: (U, W.listOf vsD.toArray kU) :: (O, W.listOf vsO.toArray kO) :: rst) rst n (ns.length + 1)) E s := by
  replace o1 := ltN o1; replace o2 := ltN o2; replace o3 := ltN o3; replace o4 := ltN o4
  have k0 := num_nonneg x
  have k1 := num_lt x
  show wpAny _ _ (execs [lawSt 0, lawSt 1, lawSt 2, lawSt 3, lawSt 4, lawSt 5, lawSt 6] _) _ _ _
  refine seq (S1 B X T F N hoc ?_) ?_
  · intro p hp
    rcases List.mem_cons.mp hp with rfl | hp
    · exact neN (by omega)
    · rcases List.mem_cons.mp hp with rfl | hp
      · exact neN (by omega)
      · rcases List.mem_cons.mp hp with rfl | hp
        · exact neN (by omega)
        · rcases List.mem_cons.mp hp with rfl | hp
          · exact neN (by omega)
          · exact hnL p hp
  rintro s1 ⟨h1, tk1, oc1, t1, rfl, F1, N1, hoc1⟩
  refine seq (S2 B X T F1 N1 hoc1 k0 k1) ?_
  rintro s2 ⟨h2, tk2, r, vs, kr, rfl, F2, N2, hi, hlt⟩
  refine seq (S3 X T F2 N2 hi) ?_
  rintro s3 ⟨h3, tk3, r2, ad, rfl, F3, N3, hr2, hlt3⟩
  -- the new rows lie above all else
  have hadd : ∀ q ∈ ad ++ [(r, W.listOf vs.toArray kr)], ∀ p ∈ (L + 1, oc1) :: (P, W.listOf vsP.toArray kP) :: (D, W.listOf vsD.toArray kD) :: (U, W.listOf vsD.toArray kU) :: (O, W.listOf vsO.toArray kO) :: rst, p.1 < q.1 := by
    intro q hq p hp
    rcases List.mem_append.mp hq with hq | hq
    · exact hlt3 q hq p (List.mem_cons_of_mem _ hp)
    · rw [List.mem_singleton.mp hq]
      exact hlt p hp
  generalize hA : ad ++ [(r, W.listOf vs.toArray kr)] = added at *
  have hr : RowAt added r (octs (num x)) := ⟨vs, kr, by rw [← hA]; exact List.mem_append_right _ (.head _), hi⟩
  have N3' : News h₀ L h3 ((L + 1, oc1) :: (P, W.listOf vsP.toArray kP) :: (D, W.listOf vsD.toArray kD) :: (O, W.listOf vsO.toArray kO) :: (U, W.listOf vsD.toArray kU) :: (added ++ rst)) := fun p hp => N3 p (by
    rw [← hA] at hp
    simp only [List.mem_cons, List.mem_append, List.not_mem_nil, or_false] at hp ⊢
    rcases hp with h | h | h | h | h | (h | h) | h <;> simp only [h, true_or, or_true])
  clear N3
  have aL : ∀ q ∈ added, q.1 ≠ L + 1 := fun q hq => Nat.ne_of_gt (hadd q hq _ (.head _))
  have aP : ∀ q ∈ added, q.1 ≠ P := fun q hq => Nat.ne_of_gt (hadd q hq _ (.tail _ (.head _)))
  have aD : ∀ q ∈ added, q.1 ≠ D := fun q hq => Nat.ne_of_gt (hadd q hq _ (.tail _ (.tail _ (.head _))))
  have aU : ∀ q ∈ added, q.1 ≠ U := fun q hq => Nat.ne_of_gt (hadd q hq _ (.tail _ (.tail _ (.tail _ (.head _)))))
  have aO : ∀ q ∈ added, q.1 ≠ O := fun q hq => Nat.ne_of_gt (hadd q hq _ (.tail _ (.tail _ (.tail _ (.tail _ (.head _))))))
  have join : ∀ {b : Addr} {ou : Obj}, U ≠ b → (∀ q ∈ added, q.1 ≠ b) → (∀ q ∈ rst, q.1 ≠ b) → ∀ p ∈ (U, ou) :: (added ++ rst), p.1 ≠ b := fun hu h1 h2 p hp => by
    rcases List.mem_cons.mp hp with rfl | hp
    · exact hu
    · rcases List.mem_append.mp hp with hp | hp
      · exact h1 p hp
      · exact h2 p hp
  have hsN : ∀ {q0 : Addr × Obj}, ∀ p ∈ n, p ∈ q0 :: (added ++ rst) := fun p hp => List.mem_cons_of_mem _ (List.mem_append_right _ (hn p hp))
  have hsA : ∀ {q0 : Addr × Obj}, ∀ p ∈ added, p ∈ q0 :: (added ++ rst) := fun p hp => List.mem_cons_of_mem _ (List.mem_append_left _ hp)
  have vl2 := vrow_wr (x := x) k0 k1
  have pl2 := pv_wr (x := x) k0 k1
  have lD := G.lenD
  have lP : (ns.map octs).length = ns.length := List.length_map ..
  refine seq (S4 B X T F3 N3' hoc1 (ltN (by omega)) (ltN (by omega)) (ltN (by omega)) (join (neN (by omega)) aL hnL) (join (neN (by omega)) aP hnP) (join (neN (by omega)) aD hnD) (join (neN (by omega)) aO hnO) (G.P.mono hsN) (G.D.mono hsN) (hr.mono hsA) (hr2.mono hsA) G.O
    (by omega) (by omega) (by omega) (fun l hl => by obtain ⟨a, _, rfl⟩ := List.mem_map.mp hl; exact octs_len a) (octs_len _) G.vrow vl2 ?_ ?_ ?_ ?_) ?_
  · intro i j hij hj hc
    rw [lP] at hj
    have hi' : i < ns.length := by omega
    have := G.srt i j hij hj
    simp only [getD_map octs ns _ 0 [] hj, rowlt_octs (G.rngAt hj).1 (G.rngAt hj).2 k0 k1, decide_eq_true_eq] at hc
    simp only [getD_map octs ns _ 0 [] hi', rowlt_octs (G.rngAt hi').1 (G.rngAt hi').2 k0 k1, decide_eq_true_eq]
    omega
  · intro i j hij hj hc
    rw [lP] at hj
    have hi' : i < ns.length := by omega
    have := G.srt i j hij hj
    simp only [getD_map octs ns _ 0 [] hj, rowlt_octs k0 k1 (G.rngAt hj).1 (G.rngAt hj).2, decide_eq_true_eq] at hc
    simp only [getD_map octs ns _ 0 [] hi', rowlt_octs k0 k1 (G.rngAt hi').1 (G.rngAt hi').2, decide_eq_true_eq]
    omega
  · intro i j hij hj hc
    rw [lD] at hj
    have hi' : i < ns.length := by omega
    have := G.srt i j hij hj
    simp only [G.pvAt hj, pl2] at hc
    simp only [G.pvAt hi', pl2]
    omega
  · intro i j hij hj hc
    rw [lD] at hj
    have hi' : i < ns.length := by omega
    have := G.srt i j hij hj
    simp only [G.pvAt hj, pl2] at hc
    simp only [G.pvAt hi', pl2]
    omega
  rintro s4 ⟨h4, tk4, pS, pV, pl, t4, rfl, F4, N4, q1, q2, hq⟩
  obtain ⟨e1, e2, q3, q4, q5⟩ := places G k0 k1 pl2 q1 q2 hq
  subst e1 e2
  have hvO := G.O.length
  have hvD := G.D.length
  have N4' : News h₀ L h4 ((O, W.listOf vsO.toArray kO) :: (L + 1, oc1) :: (P, W.listOf (insAt vsP pV (.ref r)).toArray (kP + 1)) :: (D, W.listOf (insAt vsD pV (.ref r2)).toArray (kD + 1)) :: (U, W.listOf vsD.toArray kU) :: (added ++ rst)) := fun p hp => N4 p (by
    simp only [List.mem_cons] at hp ⊢
    rcases hp with h | h | h | h | h <;> simp only [h, true_or, or_true])
  clear N4
  refine seq (S5 X T F4 N4' hoc1 (ltN (by omega)) ?_ (by omega) (by omega)) ?_
  · intro p hp
    rcases List.mem_cons.mp hp with rfl | hp
    · exact neN (by omega)
    · rcases List.mem_cons.mp hp with rfl | hp
      · exact neN (by omega)
      · exact join (neN (by omega)) aO hnO p hp
  rintro s5 ⟨h5, tk5, rfl, F5, N5⟩
  have N5' : News h₀ L h5 ((U, W.listOf vsD.toArray kU) :: (O, W.listOf (insAt vsO pV (.int (num x) t1)).toArray (kO + 1)) :: (L + 1, oc1) :: (P, W.listOf (insAt vsP pV (.ref r)).toArray (kP + 1)) :: (D, W.listOf (insAt vsD pV (.ref r2)).toArray (kD + 1)) :: (added ++ rst)) := fun p hp => N5 p (by
    simp only [List.mem_cons] at hp ⊢
    rcases hp with h | h | h | h | h | h <;> simp only [h, true_or, or_true])
  clear N5
  refine seq (S6 X T F5 N5' ?_ (by omega) (by omega)) ?_
  · intro p hp
    rcases List.mem_cons.mp hp with rfl | hp
    · exact neN (by omega)
    · rcases List.mem_cons.mp hp with rfl | hp
      · exact neN (by omega)
      · rcases List.mem_cons.mp hp with rfl | hp
        · exact neN (by omega)
        · rcases List.mem_cons.mp hp with rfl | hp
          · exact neN (by omega)
          · rcases List.mem_append.mp hp with hp | hp
            · exact aU p hp
            · exact hnU p hp
  rintro s6 ⟨h6, tk6, rfl, F6, N6⟩
  have G' : Good (added ++ n) (insAt vsP pV (.ref r)) (insAt vsD pV (.ref r2)) (insAt vsO pV (.int (num x) t1)) (insAt ns pV (num x)) (insAt lsD pV (wr x (octs (num x)))) :=
    G.next (fun p hp => List.mem_append_right _ hp) k0 k1 (hr.mono fun p hp => List.mem_append_left _ hp) (hr2.mono fun p hp => List.mem_append_left _ hp) vl2 pl2 q3 q4 q5
  have hs7 : ∀ p ∈ added ++ n, p ∈ (L + 1, oc1) :: (added ++ rst) := fun p hp => List.mem_cons_of_mem _ ((List.mem_append.mp hp).elim (fun h => List.mem_append_left _ h) fun h => List.mem_append_right _ (hn p h))
  have N6' : News h₀ L h6 ((D, W.listOf (insAt vsD pV (.ref r2)).toArray (kD + 1)) :: (U, W.listOf (insAt vsD pV (.ref r2)).toArray (kU + 1)) :: (P, W.listOf (insAt vsP pV (.ref r)).toArray (kP + 1)) :: (O, W.listOf (insAt vsO pV (.int (num x) t1)).toArray (kO + 1)) :: (L + 1, oc1) :: (added ++ rst)) := fun p hp => N6 p (by
    simp only [List.mem_cons] at hp ⊢
    rcases hp with h | h | h | h | h | h <;> simp only [h, true_or, or_true])
  clear N6
  refine seq (S7 B X T F6 N6' (G'.P.mono hs7) (G'.D.mono hs7) G'.O rfl G'.rng (by rw [insAt_length]; omega)) ?_
  rintro s7 ⟨h7, tk7, rfl, F7, N7⟩
  refine wpAny_execs_nil ⟨rfl, h7, tk7, _, _, _, oc1, _, _, _, _, kP + 1, kD + 1, kU + 1, kO + 1, _, _, added, rfl, F7, fun p hp => N7 p ?_, hoc1, G', by rw [insAt_length], ?_⟩
  · simp only [List.mem_cons] at hp ⊢
    rcases hp with h | h | h | h | h | h <;> simp only [h, true_or, or_true]
  · intro q hq p hp
    rcases List.mem_cons.mp hp with rfl | hp
    · exact hadd q hq (L + 1, oc1) (.head _)
    · exact hadd q hq p (.tail _ hp)
end
end Mine
namespace Mine
theorem frame0 {P D U O : Addr} {m₀ : Str → Option Value} (y : Str) (hy : y ≠ Str.ofString "x") :
    (fun y => if y = Str.ofString "order" then some (Value.ref O) else if y = Str.ofString "due" then some (Value.ref U) else if y = Str.ofString "dressed" then some (Value.ref D) else if y = Str.ofString "plain" then some (Value.ref P) else m₀ y) y =
      fr P D U O .none (m₀ (Str.ofString "row")) (m₀ (Str.ofString "other")) (m₀ (Str.ofString "place")) m₀ y := by
  by_cases h1 : y = Str.ofString "row"
  · subst h1; rfl
  · by_cases h2 : y = Str.ofString "other"
    · subst h2; rfl
    · by_cases h3 : y = Str.ofString "place"
      · subst h3; rfl
      · by_cases h4 : y = Str.ofString "order"
        · subst h4; rfl
        · by_cases h5 : y = Str.ofString "due"
          · subst h5; rfl
          · by_cases h6 : y = Str.ofString "dressed"
            · subst h6; rfl
            · by_cases h7 : y = Str.ofString "plain"
              · subst h7; rfl
              · simp [fr, hy, h1, h2, h3, h4, h5, h6, h7]
theorem fr_x {P D U O : Addr} {xv v : Value} {row other place : Option Value} {m m₀ : Str → Option Value} (h : ∀ y, y ≠ Str.ofString "x" → m y = fr P D U O xv row other place m₀ y) :
    (fun y => if y = Str.ofString "x" then some v else m y) = fr P D U O v row other place m₀ := by
  funext y
  by_cases h1 : y = Str.ofString "x"
  · subst h1; rfl
  · rw [if_neg h1, h y h1]
    simp [fr, h1]
theorem fr_off {P D U O : Addr} {xv v : Value} {row other place : Option Value} {m₀ : Str → Option Value} (y : Str) (h1 : y ≠ Str.ofString "x") : fr P D U O v row other place m₀ y = fr P D U O xv row other place m₀ y := by
  simp [fr, h1]
/-- what holds between two turns -/
def LawJ (L P D U O : Addr) (m₀ : Str → Option Value) (i : Nat) (m₁ : Str → Option Value) (news₁ : List (Addr × Obj)) : Prop :=
  ∃ row other place oc vc vsP vsD vsO kP kD kU kO ns lsD rows, (∀ y, y ≠ Str.ofString "x" → m₁ y = fr P D U O .none row other place m₀ y) ∧
    news₁ = (L + 1, oc) :: (P, W.listOf vsP.toArray kP) :: (D, W.listOf vsD.toArray kD) :: (U, W.listOf vsD.toArray kU) :: (O, W.listOf vsO.toArray kO) :: rows ∧ oc.data = .cell vc ∧ Good rows vsP vsD vsO ns lsD ∧ ns.length = i ∧ ∀ p ∈ rows, O < p.1
section
variable {w : World} {mean : ExcName → Option Value} {mg mb : Str → Option Value} {base h₀ : Heap} {L fa P D U O l : Addr} {cdv : Value} {m₀ : Str → Option Value} {s : Shared} {E : Value → Shared → Prop} {Q : Flow → Shared → Prop}
set_option maxHeartbeats 4000000 in
theorem law_loop {ws : List Value} {ks : List Int} {k kP kD kU kO : Nat} {q1 q2 q3 : Addr × Obj} {oc : Obj} {vc : Option Value} (B : Below callerA base [] h₀) (X : (Mine.hd.heap_39 w.params).In h₀) (T : Top Mine.hd.view_39 LS mean mg mb h₀) (hw : IntsAre ws ks) (hk : ks.length ≤ 40)
    (F : Fr h₀ L s.heap (fun y => if y = Str.ofString "order" then some (Value.ref O) else if y = Str.ofString "due" then some (Value.ref U) else if y = Str.ofString "dressed" then some (Value.ref D) else if y = Str.ofString "plain" then some (Value.ref P) else m₀ y))
    (N : News h₀ L s.heap [(l, W.listOf ws.toArray k), q1, q2, q3, (O, W.listOf #[] kO), (U, W.listOf #[] kU), (D, W.listOf #[] kD), (P, W.listOf #[] kP), (L + 1, oc)]) (hoc : oc.data = .cell vc)
    (o1 : L + 1 < P) (o2 : P < D) (o3 : D < U) (o4 : U < O) (o5 : O < l)
    (done : ∀ m' h' tk, Fr h₀ L h' m' → News h₀ L h' [] → Q .next { s with heap := h', toks := tk }) :
    wpAny (model PySem.Challenge.rw_nb0126_01.row.prog w) (callerA.deeper (lawEnv L fa cdv)) (pyIter (.ref l)) (fun it s₂ => LoopAtU PySem.Challenge.rw_nb0126_01.row.prog w (callerA.deeper (lawEnv L fa cdv)) h₀ (lawEnv L fa cdv) (Str.ofString "x") lawFor Q E it s₂) E s := by
  have hl := N _ (.head _)
  have hls : s.heap.IsList l ws.toArray := ⟨_, hl.1, rfl, _, rfl⟩
  have hlt : l < s.heap.objs.size := Heap.lt_size hl.1
  have hne : l ≠ s.heap.objs.size := Nat.ne_of_lt hlt
  refine wpAny_pyIter_list hls ?_
  have W0 := Walks.list (prog := PySem.Challenge.rw_nb0126_01.row.prog) (w := w) (A := callerA.deeper (lawEnv L fa cdv)) rfl s.heap.objs.size l hne ws.toArray
  have hlen : ws.toArray.size = ks.length := by simp [hw.length]
  rw [hlen] at W0
  have Nb : News h₀ L s.heap [(L + 1, oc), (P, W.listOf #[] kP), (D, W.listOf #[] kD), (U, W.listOf #[] kU), (O, W.listOf #[] kO)] := fun p hp => N p (by
    simp only [List.mem_cons, List.not_mem_nil, or_false] at hp ⊢
    rcases hp with h | h | h | h | h <;> simp only [h, true_or, or_true])
  refine ⟨_, _, _, ks.length, _, _, _, [(L + 1, oc), (P, W.listOf #[] kP), (D, W.listOf #[] kD), (U, W.listOf #[] kU), (O, W.listOf #[] kO)], LawJ L P D U O m₀, rfl, W0, ?_, ?_, ?_, ⟨⟨_, Heap.get?_push_size _ rfl, rfl, rfl⟩, hls.at fun o e => Heap.get?_push_of_some _ e⟩, F.push _,
    (fun p hp => ⟨Heap.get?_push_of_some _ (Nb p hp).1, (Nb p hp).2⟩), ?_, ?_, ?_⟩
  · intro hm
    rcases List.mem_cons.mp hm with e | hm
    · exact absurd F.ns.lt (e ▸ Nat.lt_irrefl _)
    · exact hl.2.1 (List.mem_singleton.mp hm).symm
  · intro b hb
    rw [List.mem_singleton.mp hb]
    exact next_is_new F
  · intro p hp hI
    exact absurd (Heap.lt_size (Nb p hp).1) ((List.mem_singleton.mp hI) ▸ Nat.lt_irrefl _)
  · refine ⟨_, _, _, oc, vc, [], [], [], kP, kD, kU, kO, [], [], [], frame0, rfl, hoc, ⟨.nil, .nil, .nil, (fun i j _ hj => absurd hj (Nat.not_lt_zero _)), (fun a ha => nomatch ha), rfl, (fun a ha => nomatch ha)⟩, rfl, (fun p hp => nomatch hp)⟩
  · rintro i v m₁ news₁ s₁ own hin hPv ⟨row, other, place, oc₁, vc₁, vsP, vsD, vsO, jP, jD, jU, jO, ns, lsD, rows, hm₁, rfl, hoc₁, G, hlen₁, hrows⟩ hoff hown hlive hall hst F₁ N₁
    obtain ⟨t, hx⟩ := hw.get i ks[i] (by simp [hin])
    have hv : v = .int ks[i] t := by
      have hP' : ws[i]? = some v := by simpa using hPv
      rw [hx] at hP'; exact (Option.some.inj hP').symm
    subst hv
    rw [fr_x hm₁] at F₁
    replace o1 := ltN o1; replace o2 := ltN o2; replace o3 := ltN o3; replace o4 := ltN o4; replace o5 := ltN o5
    obtain ⟨oI, hoI, _⟩ := id hst.1
    have hIown : (s.heap.objs.size, oI) ∈ own := hall _ (.head _) (next_is_new F) oI hoI
    have offI : ∀ {b : Addr} {o : Obj}, (b, o) ∈ (L + 1, oc₁) :: (P, W.listOf vsP.toArray jP) :: (D, W.listOf vsD.toArray jD) :: (U, W.listOf vsD.toArray jU) :: (O, W.listOf vsO.toArray jO) :: rows → s.heap.objs.size ≠ b := fun hm e => hoff _ hm (List.mem_singleton.mpr e.symm)
    have offown : ∀ {b : Addr} {o : Obj}, (b, o) ∈ (L + 1, oc₁) :: (P, W.listOf vsP.toArray jP) :: (D, W.listOf vsD.toArray jD) :: (U, W.listOf vsD.toArray jU) :: (O, W.listOf vsO.toArray jO) :: rows → l ≠ b → ∀ p ∈ own, p.1 ≠ b := fun hm hb p hp e => by
      rcases List.mem_cons.mp (hown p hp) with h | h
      · exact offI hm (h.symm.trans e)
      · exact hb ((List.mem_singleton.mp h).symm.trans e)
    have both : ∀ {b : Addr}, (∀ p ∈ own, p.1 ≠ b) → (∀ p ∈ rows, p.1 ≠ b) → ∀ p ∈ own ++ rows, p.1 ≠ b := fun h1 h2 p hp => (List.mem_append.mp hp).elim (h1 p) (h2 p)
    have N₂ : News h₀ L s₁.heap ((L + 1, oc₁) :: (P, W.listOf vsP.toArray jP) :: (D, W.listOf vsD.toArray jD) :: (U, W.listOf vsD.toArray jU) :: (O, W.listOf vsO.toArray jO) :: (own ++ rows)) := fun p hp => N₁ p (by
      simp only [List.mem_cons, List.mem_append] at hp ⊢
      rcases hp with h | h | h | h | h | h | h <;> simp only [h, true_or, or_true])
    refine wpAny_mono (turn (n := rows) B X T F₁ N₂ hoc₁ (ltN (by omega)) (ltN (by omega)) (ltN (by omega)) (ltN (by omega))
      (both (offown (.head _) (neN (by omega))) fun p hp => neN (by have := ltN (hrows p hp); omega)) (both (offown (.tail _ (.head _)) (neN (by omega))) fun p hp => neN (by have := ltN (hrows p hp); omega))
      (both (offown (.tail _ (.tail _ (.head _))) (neN (by omega))) fun p hp => neN (by have := ltN (hrows p hp); omega)) (both (offown (.tail _ (.tail _ (.tail _ (.head _)))) (neN (by omega))) fun p hp => neN (by have := ltN (hrows p hp); omega))
      (both (offown (.tail _ (.tail _ (.tail _ (.tail _ (.head _))))) (neN (by omega))) fun p hp => neN (by have := ltN (hrows p hp); omega)) G (fun p hp => List.mem_append_right _ hp) (by omega)) (fun f s₂ hq => ?_) fun _ _ e => e
    obtain ⟨rfl, h', tk, row', other', place', oc', vc', vsP', vsD', vsO', iP, iD, iU, iO, ns', lsD', added, rfl, F', N', hoc', G', hlen', hadd⟩ := hq
    have ord : ∀ q ∈ added, O < q.1 := fun q hq => hadd q hq _ (.tail _ (.tail _ (.tail _ (.tail _ (.head _)))))
    refine LoopStepU.intro (news₂ := (L + 1, oc') :: (P, W.listOf vsP'.toArray iP) :: (D, W.listOf vsD'.toArray iD) :: (U, W.listOf vsD'.toArray iU) :: (O, W.listOf vsO'.toArray iO) :: (added ++ rows)) F' (fun p hp => N' p ?_) ?_ ?_
    · simp only [List.mem_cons, List.mem_append] at hp ⊢
      rcases hp with h | h | h | h | h | h | h | h <;> simp only [h, true_or, or_true]
    · intro p hp hI
      have hI' := List.mem_singleton.mp hI
      simp only [List.mem_cons, List.mem_append] at hp
      rcases hp with h | h | h | h | h | h | h
      · subst h; exact offI (.head _) hI'.symm
      · subst h; exact offI (.tail _ (.head _)) hI'.symm
      · subst h; exact offI (.tail _ (.tail _ (.head _))) hI'.symm
      · subst h; exact offI (.tail _ (.tail _ (.tail _ (.head _)))) hI'.symm
      · subst h; exact offI (.tail _ (.tail _ (.tail _ (.tail _ (.head _))))) hI'.symm
      · have := hadd p h (s.heap.objs.size, oI) (by simp only [List.mem_cons, List.mem_append, hIown, true_or, or_true])
        rw [hI'] at this
        exact Nat.lt_irrefl _ this
      · exact hoff p (.tail _ (.tail _ (.tail _ (.tail _ (.tail _ h))))) hI
    · exact ⟨row', other', place', oc', vc', vsP', vsD', vsO', iP, iD, iU, iO, ns', lsD', added ++ rows, fun y hy => fr_off y hy, rfl, hoc', G', by omega, fun p hp => (List.mem_append.mp hp).elim (ord p) (hrows p)⟩
  · rintro h' tk m' news' F' N' _ _
    exact done m' h' tk F' fun p hp => nomatch hp
end
end Mine
local macro_rules | `(tactic| walk_at "pyIter ref") => `(tactic| (refine Mine.Halt.intro ?_))
set_option maxRecDepth 100000 in
set_option maxHeartbeats 8000000 in
theorem PySem.Challenge.cw_nb0126_01_holds : PySem.Challenge.rw_nb0126_01.Holds :=
  Mine.hd (by
  w_strict (
    k_go0
    (all_goals try k_fold)
    k_steps
    refine Mine.Halt.out ?_
    refine' Mine.law_loop ?lw1 ?lw2 ?lw3 ?lw4 ?lw5 ?lw6 ?lw7 ?lw8 ?lw9 ?lw10 ?lw11 ?lw12 ?lw13 ?_
    (case lw1 => assumption)
    (case lw2 => assumption)
    (case lw3 => assumption)
    (case lw6 => assumption)
    (case lw7 => assumption)
    (case lw4 => assumption)
    (case lw8 => assumption)
    (case lw5 => (simp only [List.length_append, List.length_take, List.length_cons, List.length_nil]; omega))
    (case lw9 => exact ltN (by omega))
    (case lw10 => exact ltN (by omega))
    (case lw11 => exact ltN (by omega))
    (case lw12 => exact ltN (by omega))
    (case lw13 => exact ltN (by omega))
    intro m' h' tk' F' N'
    k_steps
    (all_goals (try k_data))
    all_goals w_report))
