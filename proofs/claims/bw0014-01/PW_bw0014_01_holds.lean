import PyProof.Rows.All
import Wide.All
import OpenK.AllK
import Wide.FinOn
import Lean
import PySem.Challenge.RW_bw0014_01
set_option linter.unusedVariables false
set_option linter.unusedSimpArgs false
-- part Hd
section
open PySem PySem.W PyProof.Rows
set_option Elab.async false
namespace Mine
set_option maxRecDepth 100000
set_option maxHeartbeats 8000000
open_top hd for PySem.Challenge.rw_bw0014_01
end Mine
end
-- part P0
section
open PySem PySem.W PyProof.Rows PySem.Calls
set_option Elab.async false
set_option maxRecDepth 100000
set_option maxHeartbeats 8000000
namespace Mine

abbrev TopF (mean : ExcName → Option Value) (mg mb : Str → Option Value) (h : Heap) : Prop :=
  Top hd.view_39 (looseW hd.view_39 [Str.ofString "missing", Str.ofString "Cycler", Str.ofString "do_batch", Str.ofString "TemplateError", Str.ofString "LoopContext", Str.ofString "Undefined"]) mean mg mb h
abbrev tupOf (vs : Array Value) (n : Nat) : Obj := { cls := .type "tuple", data := .seq vs n }
abbrev ent (h : Int) (k : String) (t : Tok) (v : Value) : DictEntry := ⟨h, .str (Str.ofString k) t, v⟩
theorem sz_strs {vs : List Value} {us : List Str} (h : StrsAre vs us) : ((vs.toArray.size : Nat) : Int) = (us.length : Int) := by rw [List.size_toArray, h.length]
theorem fm_nat (a n : Nat) : Int.fmod (a : Int) (n : Int) = ((a % n : Nat) : Int) := by
  rw [Int.fmod_eq_emod_of_nonneg _ (Int.natCast_nonneg n)]; rfl
theorem prev_is {j : Int} {k : Nat} (h : j + 1 = ((k + 1 : Nat) : Int)) : j = (k : Int) := by omega
theorem fm_lo {a : Int} {n : Nat} (h : 0 < n) : 0 ≤ Int.fmod a (n : Int) := by
  rw [Int.fmod_eq_emod_of_nonneg _ (Int.natCast_nonneg n)]; exact Int.emod_nonneg _ (by omega)
theorem fm_hi {a : Int} {n : Nat} (h : 0 < n) : Int.fmod a (n : Int) < (n : Int) := by
  rw [Int.fmod_eq_emod_of_nonneg _ (Int.natCast_nonneg n)]; exact Int.emod_lt_of_pos _ (by omega)
theorem fm_hi63 {a : Int} {n : Nat} (h : 0 < n) (h4 : n ≤ 4) : Int.fmod a (n : Int) < 2 ^ 63 := by
  have := fm_hi (a := a) h; omega
theorem vs_fit {vs : List Value} {us : List Str} (h : StrsAre vs us) (hw : us.length ≤ 4) : vs.toArray.size ≤ sizeLine := by
  rw [List.size_toArray, h.length, sizeLine_eq]; omega
theorem sz_any (vs : List Value) : ((vs.toArray.size : Nat) : Int) = (vs.length : Int) := by rw [List.size_toArray]
/-- the ledger without one address -/
abbrev offL (d : Addr) (l : List (Addr × Obj)) : List (Addr × Obj) := l.filter fun q => decide (q.1 ≠ d)
theorem offL_off {d : Addr} {l : List (Addr × Obj)} : ∀ q ∈ offL d l, q.1 ≠ d := fun q hq => by
  have := (List.mem_filter.mp hq).2
  simpa using this
theorem offL_mem {d x : Addr} {o : Obj} {l : List (Addr × Obj)} (h : (x, o) ∈ l) (hx : x ≠ d) : (x, o) ∈ offL d l := List.mem_filter.mpr ⟨h, by simpa using hx⟩
theorem upd_in {d : Addr} {o : Obj} {l : List (Addr × Obj)} {g : Obj → List (Addr × Obj)} (U : UpdF d o l g) {h₀ h : Heap} {L : Addr} (N : News h₀ L h l) : News h₀ L h ((d, o) :: offL d l) := fun q hq => by
  rcases List.mem_cons.mp hq with rfl | hq
  · obtain ⟨pre, post, rfl, _⟩ := U.split
    exact N _ (by simp)
  · exact N _ (List.mem_filter.mp hq).1
theorem upd_out {d : Addr} {o o' : Obj} {l : List (Addr × Obj)} {g : Obj → List (Addr × Obj)} (U : UpdF d o l g) {h₀ h : Heap} {L : Addr} (N : News h₀ L h ((d, o') :: offL d l)) : News h₀ L h (g o') := fun q hq => by
  obtain ⟨pre, post, rfl, e, a, b⟩ := U.split
  rw [e] at hq
  refine N q ?_
  rcases List.mem_append.mp hq with hq | hq
  · exact List.mem_cons_of_mem _ (List.mem_filter.mpr ⟨List.mem_append_left _ hq, by simpa using a q hq⟩)
  · rcases List.mem_cons.mp hq with rfl | hq
    · exact List.mem_cons_self ..
    · exact List.mem_cons_of_mem _ (List.mem_filter.mpr ⟨List.mem_append_right _ (.tail _ hq), by simpa using b q hq⟩)
theorem News.less {h₀ h : Heap} {L : Addr} {p : Addr × Obj} {l : List (Addr × Obj)} (N : News h₀ L h (p :: l)) : News h₀ L h l := fun q hq => N q (.tail _ hq)
theorem News.rot {h₀ h : Heap} {L : Addr} {a b c : Addr × Obj} {l : List (Addr × Obj)} (N : News h₀ L h (a :: b :: c :: l)) : News h₀ L h (b :: c :: a :: l) := fun q hq => N q (by
  simp only [List.mem_cons] at hq ⊢
  rcases hq with h | h | h | h
  · exact .inr (.inl h)
  · exact .inr (.inr (.inl h))
  · exact .inl h
  · exact .inr (.inr (.inr h)))
theorem allLt_all {d : Addr} : ∀ {l : List (Addr × Obj)}, AllLt d l → ∀ q ∈ l, q.1 ≠ d
  | [], _, _, h => nomatch h
  | p :: r, h, q, hq => by
    rcases List.mem_cons.mp hq with rfl | hq
    · exact Nat.ne_of_lt h.1
    · exact allLt_all h.2 q hq
theorem Fr.cong {h₀ h : Heap} {L : Addr} {m m' : Str → Option Value} (e : ∀ y, m' y = m y) (F : Fr h₀ L h m) : Fr h₀ L h m' := by
  rw [show m' = m from funext e]; exact F
/-- two entries whose objects differ lie at two addresses -/
theorem news_ne {h₀ h : Heap} {L x y : Addr} {o o' : Obj} {l : List (Addr × Obj)} (N : News h₀ L h l) (hx : (x, o) ∈ l) (hy : (y, o') ∈ l) (ho : o ≠ o') : x ≠ y := fun e => by
  subst e
  exact ho (Option.some.inj ((N _ hx).1.symm.trans (N _ hy).1))
theorem upd_here {d : Addr} {o : Obj} {l : List (Addr × Obj)} {g : Obj → List (Addr × Obj)} (U : UpdF d o l g) : (d, o) ∈ l := by
  obtain ⟨pre, post, rfl, _⟩ := U.split
  simp
theorem upd_there {d : Addr} {o o' : Obj} {l : List (Addr × Obj)} {g : Obj → List (Addr × Obj)} (U : UpdF d o l g) : (d, o') ∈ g o' := by
  obtain ⟨pre, post, _, e, _⟩ := U.split
  rw [e]; simp
theorem upd_else {d x : Addr} {o o' ox : Obj} {l : List (Addr × Obj)} {g : Obj → List (Addr × Obj)} (U : UpdF d o l g) (h : (x, ox) ∈ l) (hx : x ≠ d) : (x, ox) ∈ g o' := by
  obtain ⟨pre, post, rfl, e, _⟩ := U.split
  rw [e]
  rcases List.mem_append.mp h with h | h
  · exact List.mem_append_left _ h
  · rcases List.mem_cons.mp h with h | h
    · injection h with h1 h2; exact absurd h1 hx
    · exact List.mem_append_right _ (.tail _ h)
theorem inst_ne_dict {C dx : Addr} {es : List DictEntry} {n : Nat} : instObj C dx ≠ dictOf es n := fun e => by injection e with e; cases e
theorem tup_ne_dict {vs : Array Value} {k : Nat} {es : List DictEntry} {n : Nat} : tupOf vs k ≠ dictOf es n := fun e => by injection e with e; injection e with e; revert e; decide
theorem x_truthyT {prog : Program} {w : World} {A : Around} {E : Value → Shared → Prop} {s : Shared} {t : Addr} {vs : List Value} {us : List Str} {Q : Bool → Shared → Prop} (ht : IsTup s.heap t vs.toArray) (hs : StrsAre vs us) (h0 : 0 < us.length) (hw : us.length ≤ 4)
    (h : ∀ k, Q true { s with toks := k }) : wpAny (model prog w) A (truthy (.ref t)) Q E s :=
  truthy_tuple ht (by have := hs.length; simp only [List.size_toArray]; omega) (by
    have e : (!vs.toArray.isEmpty) = true := by
      have := hs.length
      cases vs with
      | nil => simp only [List.length_nil] at this; omega
      | cons v r => rfl
    rw [e]; exact h _)
theorem x_truthyL {prog : Program} {w : World} {A : Around} {E : Value → Shared → Prop} {s : Shared} {t : Addr} {vs : List Value} {Q : Bool → Shared → Prop} (ht : s.heap.IsList t vs.toArray) (hw : vs.length ≤ 16384)
    (h : ∀ k, Q (!vs.isEmpty) { s with toks := k }) : wpAny (model prog w) A (truthy (.ref t)) Q E s :=
  wpAny_truthy_list ht (by simp only [List.size_toArray]; omega) (by
    have e : (!vs.toArray.isEmpty) = !vs.isEmpty := by cases vs <;> rfl
    rw [e]; exact h _)
abbrev litO (l : Addr) (i : Nat) : Obj := { cls := .type "list_iterator", data := .fields #[.ref l, .int i 0] }
section
variable {prog : Program} {w : World} {A : Around} {E : Value → Shared → Prop} {s : Shared} {h₀ : Heap} {L l it : Addr} {m : Str → Option Value} {news : List (Addr × Obj)} {g : Obj → List (Addr × Obj)} {items : Array Value} {i : Nat} {x : Value}
theorem x_iter {Q : Value → Shared → Prop} (F : Fr h₀ L s.heap m) (N : News h₀ L s.heap news) (hl : s.heap.IsList l items)
    (h : ∀ (I : Addr) h', Fr h₀ L h' m → News h₀ L h' ((I, litO l 0) :: news) → (∀ p ∈ news, p.1 < I) → Q (.ref I) { s with heap := h' }) :
    wpAny (model prog w) A (call (.builtin "iter") [.ref l]) Q E s := by
  refine call_function_entry (by decide +kernel) (by decide +kernel) kdk_entry_iter (kdk_args_iter _) ?_
  unfold Builtin.«iter»
  refine wpAny_bind (m := someArgs "iter" 1 2 _) (wpAny_of_eq (a := [Value.ref l]) (by first | rfl | kernel_rfl!) ?_)
  show wpAny _ _ (pyIter (.ref l) >>= _) _ _ _
  refine wpAny_bind (wpAny_pyIter_list hl ?_)
  exact wpAny_pure ⟨_, rfl, h _ _ (F.push _) (News.push F N _ rfl) (fun q hq => Heap.lt_size (N q hq).1)⟩
theorem x_special {Q : Option Value → Shared → Prop} (hit : s.heap.get? it = some (litO l i)) (hl : s.heap.IsList l items) (hx : items[i]? = some x)
    (hQ : ∀ h', h'.get? it = some (litO l (i + 1)) → Heap.SameBut it s.heap h' → Q (some x) { s with heap := h' }) :
    wpAny (model prog w) A (callSpecial? (.ref it) (Str.ofString "__next__")) Q E s := by
  have ht : s.TypeIs (.ref it) "list_iterator" := ⟨_, hit, rfl⟩
  obtain ⟨ol, hol, _, nl, hdl⟩ := hl
  refine wpAny_callSpecial?_slot (name := Str.ofString "__next__") ht slot_listiter_next (wpAny_call_entry slot_listiter_next ht entry_listiter_next ?_ (args_listiter_next _))
  show wpAny _ _ (field (.ref it) 0 >>= _) _ _ s
  refine wpAny_bind (wpAny_field hit rfl (x := .ref l) rfl ?_)
  show wpAny _ _ (if (Value.ref l == Value.none) = true then _ else _) _ _ s
  rw [if_neg (show ¬ ((Value.ref l == Value.none) = true) from Bool.false_ne_true)]
  show wpAny _ _ (field (.ref it) 1 >>= _) _ _ s
  refine wpAny_bind (wpAny_field hit rfl (x := .int i 0) rfl ?_)
  show wpAny _ _ (seqItems? (.ref l) >>= _) _ _ s
  refine wpAny_bind (m := seqItems? (.ref l)) (wpAny_seqItems hol hdl ?_)
  simp only [Int.toNat_natCast, hx]
  refine wpAny_bind (wpAny_setField hit rfl (by simp) (wpAny_pure ⟨x, rfl, hQ _ ?_ (Heap.SameBut.update ..)⟩))
  have e := Heap.get?_update_self (h := s.heap) (a := it) (Obj.mapFields (fun vs => vs.setIfInBounds 1 (rawInt ((i : Int) + 1)))) hit (Obj.isFreed_of_fields (Obj.data_mapFields rfl _))
  exact e.trans (by simp [Obj.mapFields, rawInt])
theorem x_next {Q : Value → Shared → Prop} (F : Fr h₀ L s.heap m) (N : News h₀ L s.heap news) (U : UpdF it (litO l i) news g) (hl : s.heap.IsList l items) (hx : items[i]? = some x)
    (h : ∀ h', Fr h₀ L h' m → News h₀ L h' (g (litO l (i + 1))) → Q x { s with heap := h' }) :
    wpAny (model prog w) A (call (.builtin "next") [.ref it]) Q E s := by
  obtain ⟨pre, post, hl', hg, a, b⟩ := U.split
  have hmem : (it, litO l i) ∈ news := by rw [hl']; exact List.mem_append_right _ (.head _)
  have hm := N (it, litO l i) hmem
  have ht : s.TypeIs (.ref it) "list_iterator" := ⟨_, hm.1, rfl⟩
  refine call_function_entry (by decide +kernel) (by decide +kernel) kdk_entry_next (kdk_args_next _) ?_
  unfold Builtin.«next»
  refine wpAny_bind (m := someArgs "next" 1 2 _) (wpAny_of_eq (a := [Value.ref it]) (by first | rfl | kernel_rfl!) ?_)
  dsimp only
  refine wpAny_bind (wpAny_specialOf (name := Str.ofString "__next__") ht slot_listiter_next.lookup ?_)
  refine wpAny_ite_split (fun hab => absurd hab (by decide)) (fun _ => ?_)
  refine wpAny_bind (x_special hm.1 hl hx fun h' hit' hs => ?_)
  exact wpAny_pure ⟨_, rfl, h h' (F.change hs hm.2.1 hm.2.2) (hg _ ▸ (show News h₀ L s.heap (pre ++ (it, litO l i) :: post) from hl' ▸ N).setIn a b hs hit')⟩
end
end Mine
end
-- part C1
section
open PySem PySem.W PyProof.Rows PySem.Calls
set_option Elab.async false
set_option maxRecDepth 100000
set_option maxHeartbeats 8000000
namespace Mine

local macro_rules | `(tactic| k_room) => `(tactic| ktr_room)
local macro_rules | `(tactic| k_units) => `(tactic| ktr_units)
local macro_rules | `(tactic| k_mem) => `(tactic| assumption)
local macro_rules | `(tactic| k_all) => `(tactic| assumption)
local macro_rules | `(tactic| walk_at "subscriptTail") => `(tactic| (k_here; (with_reducible show wpAny _ _ (subscriptTail _ _ (Value.ref _) (Value.int _ _)) _ _ _); with_unfolding_all (first
  | (refine' KTb.item_tup ?t ?w ?a ?b ?f ?_; (case t => exact News.isTup (by k_asm) (by k_mem)); (case w => assumption); (case a => first | omega | exact fm_lo (by assumption)); (case b => first | omega | exact fm_hi (by assumption)); (case f => first | omega | exact fm_hi63 (by assumption) (by assumption)); k_whole)
  | (refine' KTb.item_list ?t ?w ?a ?b ?f ?_; (case t => exact News.isList (by k_asm) (by k_mem)); (case w => assumption); (case a => first | omega | exact fm_lo (by assumption)); (case b => first | omega | exact fm_hi (by assumption)); (case f => first | omega | exact fm_hi63 (by assumption) (by assumption)); k_whole)); intro _ _))
local macro_rules | `(tactic| walk_at "call builtin:len") => `(tactic| (k_here; (with_reducible show wpAny _ _ (call (Value.builtin "len") [Value.ref _]) _ _ _); k_dflt (first
  | (refine' kun_lenT ?k1 ?k2 ?k3 ?_; (case k1 => exact News.isTup (by k_asm) (by k_mem)); (case k2 => exact sz_strs (by assumption)); (case k3 => omega); k_whole)
  | (refine' kun_lenL ?k1 ?k2 ?k3 ?_; (case k1 => exact News.isList (by k_asm) (by k_mem)); (case k2 => exact sz_strs (by assumption)); (case k3 => omega); k_whole))))
local macro_rules | `(tactic| walk_at "call builtin:iter") => `(tactic| (k_here; (with_reducible show wpAny _ _ (call (Value.builtin "iter") [Value.ref _]) _ _ _); k_dflt (refine' x_iter ?k1 ?k2 ?k3 ?_; (case k1 => k_asm); (case k2 => k_asm); (case k3 => exact News.isList (by k_asm) (by k_mem)); k_whole); intro I' h' F' N' l1; (try k_lt l1); (try k_sweep)))
local macro_rules | `(tactic| walk_at "call builtin:next") => `(tactic| (k_here; (with_reducible show wpAny _ _ (call (Value.builtin "next") [Value.ref _]) _ _ _); k_dflt (refine' x_next ?k1 ?k2 ?k3 ?k4 ?k5 ?_; (case k1 => k_asm); (case k2 => k_asm); (case k3 => k_updF); (case k4 => exact News.isList (by k_asm) (by k_mem)); (case k5 => first | assumption | exact rfl); k_whole); intro h' F' N'; (try dsimp only at N'); (try k_sweep)))
local macro_rules | `(tactic| k_handed) => `(tactic| assumption)
local macro_rules | `(tactic| walk_at "truthy ref") => `(tactic| (k_here; k_dflt (refine' x_truthyT ?k1 ?k2 ?k3 ?k4 ?_; (case k1 => exact News.isTup (by k_asm) (by k_mem)); (case k2 => assumption); (case k3 => assumption); (case k4 => assumption); k_whole); intro _))

section
variable {w : World} {mean : ExcName → Option Value} {mg mb : Str → Option Value} {dp un : Nat} {gd : Option (List Code)} {cn : Str} {cs : Scope} {a : Addr} {ccd : Value} {cl : List (Str × Addr)} {outer : List Env} {A₀ : Around} {base h₀ : Heap} {L : Addr} {m : Str → Option Value} {s : Shared} {Q E : Value → Shared → Prop} {news rest : List (Addr × Obj)}
abbrev cycD (hi hp : Int) (ti tk : Tok) (tp : Addr) (p : Int) (t1 : Tok) : Obj := dictOf [ent hi "items" ti (.ref tp), ent hp "pos" tk (.int p t1)] 2
theorem c_next0 {cy dc tp : Addr} {hi hp : Int} {ti tk tk1 : Tok} {p : Int} {n' : Nat} {vs : List Value} {us : List Str}
   (B : Below A₀ base outer h₀) (F : Fr h₀ L s.heap m) (X : (hd.heap_39 w.params).In h₀) (T : TopF mean mg mb h₀) (hk : cs.kind = .function)
   (N : News h₀ L s.heap ((dc, cycD hi hp ti tk tp p tk1) :: rest))
   (m1 : (cy, instObj 90 dc) ∈ rest) (m2 : (tp, tupOf vs.toArray n') ∈ rest) (off : ∀ q ∈ rest, q.1 ≠ dc)
   (hs : StrsAre vs us) (h0 : 0 ≤ p) (h1 : p < us.length) (hw : us.length ≤ 4)
   (hd : dp + 2 < recursionLimit) (hu : un + 8 < cLine)
   (ret : ∀ h' tk' t1 t2, Fr h₀ L h' m → News h₀ L h' ((dc, cycD hi hp ti tk tp (Int.fmod (p + 1) us.length) t1) :: rest) → Q (.str (us.getD p.toNat Str.empty) t2) { s with heap := h', toks := tk' }) :
   wpAny (model (RowW.prog (OpenRow.toRowW (OpenLaw.row PySem.Challenge.rw_bw0014_01))) w) (ktrTop dp un gd cn cs L a ccd cl outer) (call (.ref 87) [.ref cy]) Q E s := by
  revert X
  k_fill
  intro X
  refine wpAny_call ?_
  w_strict (k_dflt cell_enter)
  w_strict k_steps
  all_goals exact ret _ _ _ _ (by k_asm) (by k_asm)
theorem c_next {cy dc tp : Addr} {hi hp : Int} {ti tk tk1 : Tok} {p : Int} {n' : Nat} {vs : List Value} {us : List Str} {news' : Obj → List (Addr × Obj)}
   (B : Below A₀ base outer h₀) (F : Fr h₀ L s.heap m) (X : (hd.heap_39 w.params).In h₀) (T : TopF mean mg mb h₀) (hk : cs.kind = .function)
   (N : News h₀ L s.heap news) (U : UpdF dc (cycD hi hp ti tk tp p tk1) news news')
   (m1 : (cy, instObj 90 dc) ∈ news) (m2 : (tp, tupOf vs.toArray n') ∈ news)
   (hs : StrsAre vs us) (h0 : 0 ≤ p) (h1 : p < us.length) (hw : us.length ≤ 4)
   (hd : dp + 2 < recursionLimit) (hu : un + 8 < cLine)
   (ret : ∀ h' tk' t1 t2, Fr h₀ L h' m → News h₀ L h' (news' (cycD hi hp ti tk tp (Int.fmod (p + 1) us.length) t1)) → Q (.str (us.getD p.toNat Str.empty) t2) { s with heap := h', toks := tk' }) :
   wpAny (model (RowW.prog (OpenRow.toRowW (OpenLaw.row PySem.Challenge.rw_bw0014_01))) w) (ktrTop dp un gd cn cs L a ccd cl outer) (call (.ref 87) [.ref cy]) Q E s :=
  c_next0 B F X T hk (upd_in U N) (offL_mem m1 (news_ne N m1 (upd_here U) inst_ne_dict)) (offL_mem m2 (news_ne N m2 (upd_here U) tup_ne_dict)) offL_off hs h0 h1 hw hd hu
    fun h' tk' t1 t2 F' N' => ret h' tk' t1 t2 F' (upd_out U N')
end
end Mine
end
-- part C2
section
open PySem PySem.W PyProof.Rows PySem.Calls
set_option Elab.async false
set_option maxRecDepth 100000
set_option maxHeartbeats 8000000
namespace Mine

local macro_rules | `(tactic| k_room) => `(tactic| ktr_room)
local macro_rules | `(tactic| k_units) => `(tactic| ktr_units)
local macro_rules | `(tactic| k_mem) => `(tactic| assumption)
local macro_rules | `(tactic| k_all) => `(tactic| assumption)
local macro_rules | `(tactic| walk_at "subscriptTail") => `(tactic| (k_here; (with_reducible show wpAny _ _ (subscriptTail _ _ (Value.ref _) (Value.int _ _)) _ _ _); with_unfolding_all (first
  | (refine' KTb.item_tup ?t ?w ?a ?b ?f ?_; (case t => exact News.isTup (by k_asm) (by k_mem)); (case w => assumption); (case a => first | omega | exact fm_lo (by assumption)); (case b => first | omega | exact fm_hi (by assumption)); (case f => first | omega | exact fm_hi63 (by assumption) (by assumption)); k_whole)
  | (refine' KTb.item_list ?t ?w ?a ?b ?f ?_; (case t => exact News.isList (by k_asm) (by k_mem)); (case w => assumption); (case a => first | omega | exact fm_lo (by assumption)); (case b => first | omega | exact fm_hi (by assumption)); (case f => first | omega | exact fm_hi63 (by assumption) (by assumption)); k_whole)); intro _ _))
local macro_rules | `(tactic| walk_at "call builtin:len") => `(tactic| (k_here; (with_reducible show wpAny _ _ (call (Value.builtin "len") [Value.ref _]) _ _ _); k_dflt (first
  | (refine' kun_lenT ?k1 ?k2 ?k3 ?_; (case k1 => exact News.isTup (by k_asm) (by k_mem)); (case k2 => exact sz_strs (by assumption)); (case k3 => omega); k_whole)
  | (refine' kun_lenL ?k1 ?k2 ?k3 ?_; (case k1 => exact News.isList (by k_asm) (by k_mem)); (case k2 => exact sz_strs (by assumption)); (case k3 => omega); k_whole))))
local macro_rules | `(tactic| walk_at "call builtin:iter") => `(tactic| (k_here; (with_reducible show wpAny _ _ (call (Value.builtin "iter") [Value.ref _]) _ _ _); k_dflt (refine' x_iter ?k1 ?k2 ?k3 ?_; (case k1 => k_asm); (case k2 => k_asm); (case k3 => exact News.isList (by k_asm) (by k_mem)); k_whole); intro I' h' F' N' l1; (try k_lt l1); (try k_sweep)))
local macro_rules | `(tactic| walk_at "call builtin:next") => `(tactic| (k_here; (with_reducible show wpAny _ _ (call (Value.builtin "next") [Value.ref _]) _ _ _); k_dflt (refine' x_next ?k1 ?k2 ?k3 ?k4 ?k5 ?_; (case k1 => k_asm); (case k2 => k_asm); (case k3 => k_updF); (case k4 => exact News.isList (by k_asm) (by k_mem)); (case k5 => first | assumption | exact rfl); k_whole); intro h' F' N'; (try dsimp only at N'); (try k_sweep)))
local macro_rules | `(tactic| k_handed) => `(tactic| assumption)
local macro_rules | `(tactic| walk_at "truthy ref") => `(tactic| (k_here; k_dflt (refine' x_truthyT ?k1 ?k2 ?k3 ?k4 ?_; (case k1 => exact News.isTup (by k_asm) (by k_mem)); (case k2 => assumption); (case k3 => assumption); (case k4 => assumption); k_whole); intro _))

section
variable {w : World} {mean : ExcName → Option Value} {mg mb : Str → Option Value} {dp un : Nat} {gd : Option (List Code)} {cn : Str} {cs : Scope} {a : Addr} {ccd : Value} {cl : List (Str × Addr)} {outer : List Env} {A₀ : Around} {base h₀ : Heap} {L : Addr} {m : Str → Option Value} {s : Shared} {Q E : Value → Shared → Prop} {news rest : List (Addr × Obj)}
abbrev joinD (hi hp : Int) (ti tk : Tok) (sep : Str) (ts : Tok) (b : Bool) : Obj := dictOf [ent hi "sep" ti (.str sep ts), ent hp "used" tk (.bool b)] 2
theorem c_join0 {jo jd : Addr} {hi hp : Int} {ti tk ts : Tok} {sep : Str} {b : Bool}
   (B : Below A₀ base outer h₀) (F : Fr h₀ L s.heap m) (X : (hd.heap_39 w.params).In h₀) (T : TopF mean mg mb h₀) (hk : cs.kind = .function)
   (N : News h₀ L s.heap ((jd, joinD hi hp ti tk sep ts b) :: rest))
   (m1 : (jo, instObj 119 jd) ∈ rest) (off : ∀ q ∈ rest, q.1 ≠ jd)
   (hd : dp + 3 < recursionLimit) (hu : un + 8 < cLine)
   (ret : ∀ h' tk' t1, Fr h₀ L h' m → News h₀ L h' ((jd, joinD hi hp ti tk sep ts true) :: rest) → Q (.str (if b then sep else Str.ofString "") t1) { s with heap := h', toks := tk' }) :
   wpAny (model (RowW.prog (OpenRow.toRowW (OpenLaw.row PySem.Challenge.rw_bw0014_01))) w) (ktrTop dp un gd cn cs L a ccd cl outer) (call (.ref jo) []) Q E s := by
  revert X
  k_fill
  intro X
  refine wpAny_call ?_
  w_strict (k_dflt (refine' kco_code ?k1 ?k2 ?k3 ?k4 ?k5 ?k6 ?_; (case k1 => k_in); (case k2 => k_inst); (case k3 => rfl); (case k4 => k_is); (case k5 => k_is); (case k6 => k_is); (try dsimp only); cell_enter))
  cases b
  · w_strict k_steps
    all_goals exact ret _ _ _ (by k_asm) (by k_asm)
  · w_strict k_steps
    all_goals exact ret _ _ _ (by k_asm) (by k_asm)
end
end Mine
end
-- part C3
section
open PySem PySem.W PyProof.Rows PySem.Calls
set_option Elab.async false
set_option maxRecDepth 100000
set_option maxHeartbeats 8000000
namespace Mine

local macro_rules | `(tactic| k_room) => `(tactic| ktr_room)
local macro_rules | `(tactic| k_units) => `(tactic| ktr_units)
local macro_rules | `(tactic| k_mem) => `(tactic| assumption)
local macro_rules | `(tactic| k_all) => `(tactic| assumption)
local macro_rules | `(tactic| walk_at "subscriptTail") => `(tactic| (k_here; (with_reducible show wpAny _ _ (subscriptTail _ _ (Value.ref _) (Value.int _ _)) _ _ _); with_unfolding_all (first
  | (refine' KTb.item_tup ?t ?w ?a ?b ?f ?_; (case t => exact News.isTup (by k_asm) (by k_mem)); (case w => assumption); (case a => first | omega | exact fm_lo (by assumption)); (case b => first | omega | exact fm_hi (by assumption)); (case f => first | omega | exact fm_hi63 (by assumption) (by assumption)); k_whole)
  | (refine' KTb.item_list ?t ?w ?a ?b ?f ?_; (case t => exact News.isList (by k_asm) (by k_mem)); (case w => assumption); (case a => first | omega | exact fm_lo (by assumption)); (case b => first | omega | exact fm_hi (by assumption)); (case f => first | omega | exact fm_hi63 (by assumption) (by assumption)); k_whole)); intro _ _))
local macro_rules | `(tactic| walk_at "call builtin:len") => `(tactic| (k_here; (with_reducible show wpAny _ _ (call (Value.builtin "len") [Value.ref _]) _ _ _); k_dflt (first
  | (refine' kun_lenT ?k1 ?k2 ?k3 ?_; (case k1 => exact News.isTup (by k_asm) (by k_mem)); (case k2 => exact sz_strs (by assumption)); (case k3 => omega); k_whole)
  | (refine' kun_lenL ?k1 ?k2 ?k3 ?_; (case k1 => exact News.isList (by k_asm) (by k_mem)); (case k2 => exact sz_strs (by assumption)); (case k3 => omega); k_whole))))
local macro_rules | `(tactic| walk_at "call builtin:iter") => `(tactic| (k_here; (with_reducible show wpAny _ _ (call (Value.builtin "iter") [Value.ref _]) _ _ _); k_dflt (refine' x_iter ?k1 ?k2 ?k3 ?_; (case k1 => k_asm); (case k2 => k_asm); (case k3 => exact News.isList (by k_asm) (by k_mem)); k_whole); intro I' h' F' N' l1; (try k_lt l1); (try k_sweep)))
local macro_rules | `(tactic| walk_at "call builtin:next") => `(tactic| (k_here; (with_reducible show wpAny _ _ (call (Value.builtin "next") [Value.ref _]) _ _ _); k_dflt (refine' x_next ?k1 ?k2 ?k3 ?k4 ?k5 ?_; (case k1 => k_asm); (case k2 => k_asm); (case k3 => k_updF); (case k4 => exact News.isList (by k_asm) (by k_mem)); (case k5 => first | assumption | exact rfl); k_whole); intro h' F' N'; (try dsimp only at N'); (try k_sweep)))
local macro_rules | `(tactic| k_handed) => `(tactic| assumption)
local macro_rules | `(tactic| walk_at "truthy ref") => `(tactic| (k_here; k_dflt (refine' x_truthyT ?k1 ?k2 ?k3 ?k4 ?_; (case k1 => exact News.isTup (by k_asm) (by k_mem)); (case k2 => assumption); (case k3 => assumption); (case k4 => assumption); k_whole); intro _))

section
variable {w : World} {mean : ExcName → Option Value} {mg mb : Str → Option Value} {dp un : Nat} {gd : Option (List Code)} {cn : Str} {cs : Scope} {a : Addr} {ccd : Value} {cl : List (Str × Addr)} {outer : List Env} {A₀ : Around} {base h₀ : Heap} {L : Addr} {m : Str → Option Value} {s : Shared} {Q E : Value → Shared → Prop} {news rest : List (Addr × Obj)}
abbrev loopE (a1 a2 a3 a4 a5 : Int) (b1 b2 b3 b4 b5 b6 : Tok) (row it : Addr) : List DictEntry := [ent a1 "_iterable" b1 (.ref row), ent a2 "_iterator" b2 (.ref it), ent a3 "_undefined" b3 (.ref 451), ent a4 "_recurse" b4 .none, ent a5 "depth0" b5 (.int 0 b6)]
/-- the loop's own dict when k items have been told; row: the list, it: its iterator -/
inductive LoopAt (row it : Addr) : Nat → Obj → Prop where
  | start {a1 a2 a3 a4 a5 : Int} {b1 b2 b3 b4 b5 b6 : Tok} : LoopAt row it 0 (dictOf (loopE a1 a2 a3 a4 a5 b1 b2 b3 b4 b5 b6 row it) 5)
  | later {a1 a2 a3 a4 a5 c1 c2 c3 : Int} {b1 b2 b3 b4 b5 b6 d1 d2 d3 d4 : Tok} {k : Nat} {j : Int} {u v : Value} (hj : j + 1 = (k : Int)) (hk : 0 < k) (hv : handedIn v = true) :
      LoopAt row it k (dictOf [ent a1 "_iterable" b1 (.ref row), ent a2 "_iterator" b2 (.ref it), ent a3 "_undefined" b3 (.ref 451), ent a4 "_recurse" b4 .none, ent a5 "depth0" b5 (.int 0 b6),
        ent c1 "index0" d1 (.int j d2), ent c2 "_before" d3 u, ent c3 "_current" d4 v] 8)
theorem c_step0 {lo ld row it : Addr} {items : Array Value} {x : Value} {n0 k : Nat} {o : Obj}
   (B : Below A₀ base outer h₀) (F : Fr h₀ L s.heap m) (X : (hd.heap_39 w.params).In h₀) (T : TopF mean mg mb h₀) (hk : cs.kind = .function)
   (N : News h₀ L s.heap ((ld, o) :: (it, litO row k) :: rest)) (H : LoopAt row it k o)
   (m1 : (lo, instObj 342 ld) ∈ rest) (m2 : (row, listOf items n0) ∈ rest) (ne : @Ne Nat ld it) (off : ∀ q ∈ rest, q.1 ≠ ld) (off2 : ∀ q ∈ rest, q.1 ≠ it)
   (hx : items[k]? = some x) (hh : handedIn x = true)
   (hd : dp + 3 < recursionLimit) (hu : un + 8 < cLine)
   (ret : ∀ h' tk' tp o', Fr h₀ L h' m → News h₀ L h' ((tp, tupOf [x, .ref lo].toArray 0) :: (ld, o') :: (it, litO row (k + 1)) :: rest) → LoopAt row it (k + 1) o' →
      (@LT.lt Nat _ ld tp ∧ @LT.lt Nat _ it tp ∧ AllLt tp rest) → Q (.ref tp) { s with heap := h', toks := tk' }) :
   wpAny (model (RowW.prog (OpenRow.toRowW (OpenLaw.row PySem.Challenge.rw_bw0014_01))) w) (ktrTop dp un gd cn cs L a ccd cl outer) (call (.ref 353) [.ref lo]) Q E s := by
  revert X
  k_fill
  intro X
  refine wpAny_call ?_
  w_strict (k_dflt cell_enter)
  cases H with
  | start =>
    w_strict k_steps
    all_goals exact ret _ _ _ _ (by k_asm) (by k_asm) (.later (by rfl) (by omega) hh) (by assumption)
  | later hj hk hv =>
    w_strict k_steps
    all_goals exact ret _ _ _ _ (by k_asm) (by k_asm) (.later (by omega) (by omega) hh) (by assumption)
end
end Mine
end
-- part C4
section
open PySem PySem.W PyProof.Rows PySem.Calls
set_option Elab.async false
set_option maxRecDepth 100000
set_option maxHeartbeats 8000000
namespace Mine

local macro_rules | `(tactic| k_room) => `(tactic| ktr_room)
local macro_rules | `(tactic| k_units) => `(tactic| ktr_units)
local macro_rules | `(tactic| k_mem) => `(tactic| assumption)
local macro_rules | `(tactic| k_all) => `(tactic| assumption)
local macro_rules | `(tactic| walk_at "subscriptTail") => `(tactic| (k_here; (with_reducible show wpAny _ _ (subscriptTail _ _ (Value.ref _) (Value.int _ _)) _ _ _); with_unfolding_all (first
  | (refine' KTb.item_tup ?t ?w ?a ?b ?f ?_; (case t => exact News.isTup (by k_asm) (by k_mem)); (case w => assumption); (case a => first | omega | exact fm_lo (by assumption)); (case b => first | omega | exact fm_hi (by assumption)); (case f => first | omega | exact fm_hi63 (by assumption) (by assumption)); k_whole)
  | (refine' KTb.item_list ?t ?w ?a ?b ?f ?_; (case t => exact News.isList (by k_asm) (by k_mem)); (case w => assumption); (case a => first | omega | exact fm_lo (by assumption)); (case b => first | omega | exact fm_hi (by assumption)); (case f => first | omega | exact fm_hi63 (by assumption) (by assumption)); k_whole)); intro _ _))
local macro_rules | `(tactic| walk_at "call builtin:len") => `(tactic| (k_here; (with_reducible show wpAny _ _ (call (Value.builtin "len") [Value.ref _]) _ _ _); k_dflt (first
  | (refine' kun_lenT ?k1 ?k2 ?k3 ?_; (case k1 => exact News.isTup (by k_asm) (by k_mem)); (case k2 => exact sz_strs (by assumption)); (case k3 => omega); k_whole)
  | (refine' kun_lenL ?k1 ?k2 ?k3 ?_; (case k1 => exact News.isList (by k_asm) (by k_mem)); (case k2 => exact sz_strs (by assumption)); (case k3 => omega); k_whole))))
local macro_rules | `(tactic| walk_at "call builtin:iter") => `(tactic| (k_here; (with_reducible show wpAny _ _ (call (Value.builtin "iter") [Value.ref _]) _ _ _); k_dflt (refine' x_iter ?k1 ?k2 ?k3 ?_; (case k1 => k_asm); (case k2 => k_asm); (case k3 => exact News.isList (by k_asm) (by k_mem)); k_whole); intro I' h' F' N' l1; (try k_lt l1); (try k_sweep)))
local macro_rules | `(tactic| walk_at "call builtin:next") => `(tactic| (k_here; (with_reducible show wpAny _ _ (call (Value.builtin "next") [Value.ref _]) _ _ _); k_dflt (refine' x_next ?k1 ?k2 ?k3 ?k4 ?k5 ?_; (case k1 => k_asm); (case k2 => k_asm); (case k3 => k_updF); (case k4 => exact News.isList (by k_asm) (by k_mem)); (case k5 => first | assumption | exact rfl); k_whole); intro h' F' N'; (try dsimp only at N'); (try k_sweep)))
local macro_rules | `(tactic| k_handed) => `(tactic| assumption)
local macro_rules | `(tactic| walk_at "truthy ref") => `(tactic| (k_here; k_dflt (refine' x_truthyT ?k1 ?k2 ?k3 ?k4 ?_; (case k1 => exact News.isTup (by k_asm) (by k_mem)); (case k2 => assumption); (case k3 => assumption); (case k4 => assumption); k_whole); intro _))

local macro_rules | `(tactic| k_enter) => `(tactic| (kp_kind "rest"; (refine' kp_rest ?k1 ?k2 ?k3 ?k4 ?k5 ?kA ?kF ?kK ?k6 ?k7 ?k8 ?kV ?kP ?kG ?kB ?_ ?c2 ?c3 ?c4 ?c5; (case kA => exact rfl); (case kF => exact rfl); (case kK => first | exact rfl | assumption); (case k1 => k_asm); (case k2 => k_asm); (case k3 => k_asm); (case k4 => k_asm); (case k5 => k_asm); (case k6 => k_is); (case k7 => k_is); (case k8 => k_room); (case kV => exact rfl); (case kP => exact rfl); (case kG => exact fun _ => rfl); (case kB => exact fun _ => locs rfl); (case c5 => decide); (case c2 => exact rfl); (case c3 => exact rfl); (case c4 => exact rfl); k_whole; intro D' g' L' h' l1 FG' F' N' B' X' T'; (try k_lt l1); (try dsimp only); (try k_lift B'); (try k_fold))))

section
variable {w : World} {mean : ExcName → Option Value} {mg mb : Str → Option Value} {dp un : Nat} {gd : Option (List Code)} {cn : Str} {cs : Scope} {a : Addr} {ccd : Value} {cl : List (Str × Addr)} {outer : List Env} {A₀ : Around} {base h₀ : Heap} {L : Addr} {m : Str → Option Value} {s : Shared} {Q E : Value → Shared → Prop} {news rest : List (Addr × Obj)}
theorem c_cycleC {lo ld row it : Addr} {k : Nat} {o : Obj} {vs : List Value} {us : List Str}
   (B : Below A₀ base outer h₀) (F : Fr h₀ L s.heap m) (X : (hd.heap_39 w.params).In h₀) (T : TopF mean mg mb h₀) (hk : cs.kind = .function)
   (N : News h₀ L s.heap news) (H : LoopAt row it (k + 1) o)
   (m1 : (lo, instObj 342 ld) ∈ news) (m2 : (ld, o) ∈ news)
   (hs : StrsAre vs us) (h0 : 0 < us.length) (hw : us.length ≤ 4)
   (hd : dp + 3 < recursionLimit) (hu : un + 8 < cLine)
   (ret : ∀ h' tk' t1, Fr h₀ L h' m → News h₀ L h' news → Q (.str (us.getD (k % us.length) Str.empty) t1) { s with heap := h', toks := tk' }) :
   codeAny (model (RowW.prog (OpenRow.toRowW (OpenLaw.row PySem.Challenge.rw_bw0014_01))) w) (ktrTop dp un gd cn cs L a ccd cl outer) (.call (.ref 304) ⟨.ref lo :: vs, []⟩) (fun r s' => match r with | .ok (.ret v) => Q v s' | .ok _ => False | .error e => E e s') s := by
  revert X
  k_fill
  intro X
  cases H with
  | later hj hk hv =>
    have hl := hs.length
    have ej := prev_is hj
    subst ej
    have ek : (Int.fmod (k : Int) (us.length : Int)).toNat = k % us.length := by rw [fm_nat, Int.toNat_natCast]
    rw [← ek] at ret
    rcases vs with _ | ⟨v1, _ | ⟨v2, _ | ⟨v3, _ | ⟨v4, _ | ⟨v5, r⟩⟩⟩⟩⟩
    · exfalso; simp only [List.length_nil] at hl; omega
    · w_strict ((k_dflt k_enter); k_steps; (all_goals exact ret _ _ _ (by k_asm) (News.less (by k_asm))))
    · w_strict ((k_dflt k_enter); k_steps; (all_goals exact ret _ _ _ (by k_asm) (News.less (by k_asm))))
    · w_strict ((k_dflt k_enter); k_steps; (all_goals exact ret _ _ _ (by k_asm) (News.less (by k_asm))))
    · w_strict ((k_dflt k_enter); k_steps; (all_goals exact ret _ _ _ (by k_asm) (News.less (by k_asm))))
    · exfalso; simp only [List.length_cons] at hl; omega
end
end Mine
end
-- part C5
section
open PySem PySem.W PyProof.Rows PySem.Calls
set_option Elab.async false
set_option maxRecDepth 100000
set_option maxHeartbeats 8000000
namespace Mine

local macro_rules | `(tactic| k_room) => `(tactic| ktr_room)
local macro_rules | `(tactic| k_units) => `(tactic| ktr_units)
local macro_rules | `(tactic| k_mem) => `(tactic| assumption)
local macro_rules | `(tactic| k_all) => `(tactic| assumption)
local macro_rules | `(tactic| walk_at "subscriptTail") => `(tactic| (k_here; (with_reducible show wpAny _ _ (subscriptTail _ _ (Value.ref _) (Value.int _ _)) _ _ _); with_unfolding_all (first
  | (refine' KTb.item_tup ?t ?w ?a ?b ?f ?_; (case t => exact News.isTup (by k_asm) (by k_mem)); (case w => assumption); (case a => first | omega | exact fm_lo (by assumption)); (case b => first | omega | exact fm_hi (by assumption)); (case f => first | omega | exact fm_hi63 (by assumption) (by assumption)); k_whole)
  | (refine' KTb.item_list ?t ?w ?a ?b ?f ?_; (case t => exact News.isList (by k_asm) (by k_mem)); (case w => assumption); (case a => first | omega | exact fm_lo (by assumption)); (case b => first | omega | exact fm_hi (by assumption)); (case f => first | omega | exact fm_hi63 (by assumption) (by assumption)); k_whole)); intro _ _))
local macro_rules | `(tactic| walk_at "call builtin:len") => `(tactic| (k_here; (with_reducible show wpAny _ _ (call (Value.builtin "len") [Value.ref _]) _ _ _); k_dflt (first
  | (refine' kun_lenT ?k1 ?k2 ?k3 ?_; (case k1 => exact News.isTup (by k_asm) (by k_mem)); (case k2 => exact sz_strs (by assumption)); (case k3 => omega); k_whole)
  | (refine' kun_lenL ?k1 ?k2 ?k3 ?_; (case k1 => exact News.isList (by k_asm) (by k_mem)); (case k2 => exact sz_strs (by assumption)); (case k3 => omega); k_whole))))
local macro_rules | `(tactic| walk_at "call builtin:iter") => `(tactic| (k_here; (with_reducible show wpAny _ _ (call (Value.builtin "iter") [Value.ref _]) _ _ _); k_dflt (refine' x_iter ?k1 ?k2 ?k3 ?_; (case k1 => k_asm); (case k2 => k_asm); (case k3 => exact News.isList (by k_asm) (by k_mem)); k_whole); intro I' h' F' N' l1; (try k_lt l1); (try k_sweep)))
local macro_rules | `(tactic| walk_at "call builtin:next") => `(tactic| (k_here; (with_reducible show wpAny _ _ (call (Value.builtin "next") [Value.ref _]) _ _ _); k_dflt (refine' x_next ?k1 ?k2 ?k3 ?k4 ?k5 ?_; (case k1 => k_asm); (case k2 => k_asm); (case k3 => k_updF); (case k4 => exact News.isList (by k_asm) (by k_mem)); (case k5 => first | assumption | exact rfl); k_whole); intro h' F' N'; (try dsimp only at N'); (try k_sweep)))
local macro_rules | `(tactic| k_handed) => `(tactic| assumption)
local macro_rules | `(tactic| walk_at "truthy ref") => `(tactic| (k_here; k_dflt (refine' x_truthyT ?k1 ?k2 ?k3 ?k4 ?_; (case k1 => exact News.isTup (by k_asm) (by k_mem)); (case k2 => assumption); (case k3 => assumption); (case k4 => assumption); k_whole); intro _))

local macro_rules | `(tactic| k_enter) => `(tactic| (kp_kind "rest"; (refine' kp_rest ?k1 ?k2 ?k3 ?k4 ?k5 ?kA ?kF ?kK ?k6 ?k7 ?k8 ?kV ?kP ?kG ?kB ?_ ?c2 ?c3 ?c4 ?c5; (case kA => exact rfl); (case kF => exact rfl); (case kK => first | exact rfl | assumption); (case k1 => k_asm); (case k2 => k_asm); (case k3 => k_asm); (case k4 => k_asm); (case k5 => k_asm); (case k6 => k_is); (case k7 => k_is); (case k8 => k_room); (case kV => exact rfl); (case kP => exact rfl); (case kG => exact fun _ => rfl); (case kB => exact fun _ => locs rfl); (case c5 => decide); (case c2 => exact rfl); (case c3 => exact rfl); (case c4 => exact rfl); k_whole; intro D' g' L' h' l1 FG' F' N' B' X' T'; (try k_lt l1); (try dsimp only); (try k_lift B'); (try k_fold))))

section
variable {w : World} {mean : ExcName → Option Value} {mg mb : Str → Option Value} {dp un : Nat} {gd : Option (List Code)} {cn : Str} {cs : Scope} {a : Addr} {ccd : Value} {cl : List (Str × Addr)} {outer : List Env} {A₀ : Around} {base h₀ : Heap} {L : Addr} {m : Str → Option Value} {s : Shared} {Q E : Value → Shared → Prop} {news rest : List (Addr × Obj)}
theorem c_new {vs : List Value} {us : List Str}
   (B : Below A₀ base outer h₀) (F : Fr h₀ L s.heap m) (X : (hd.heap_39 w.params).In h₀) (T : TopF mean mg mb h₀) (hk : cs.kind = .function)
   (N : News h₀ L s.heap news)
   (hs : StrsAre vs us) (h0 : 0 < us.length) (hw : us.length ≤ 4)
   (hd : dp + 3 < recursionLimit) (hu : un + 12 < cLine)
   (ret : ∀ h' tk' cy dc tp hi hp ti tk t1, Fr h₀ L h' m → News h₀ L h' ((cy, instObj 90 dc) :: (dc, cycD hi hp ti tk tp 0 t1) :: (tp, tupOf vs.toArray 0) :: news) → (∀ p ∈ news, @LT.lt Nat _ p.1 dc) → @LT.lt Nat _ dc cy → @LT.lt Nat _ cy tp →
     Q (.ref cy) { s with heap := h', toks := tk' }) :
   wpAny (model (RowW.prog (OpenRow.toRowW (OpenLaw.row PySem.Challenge.rw_bw0014_01))) w) (ktrTop dp un gd cn cs L a ccd cl outer) (call (.ref 90) vs) Q E s := by
  revert X
  k_fill
  intro X
  have hl := hs.length
  rcases vs with _ | ⟨v1, _ | ⟨v2, _ | ⟨v3, _ | ⟨v4, _ | ⟨v5, r⟩⟩⟩⟩⟩
  · exfalso; simp only [List.length_nil] at hl; omega
  · w_strict (k_steps; (all_goals exact ret _ _ _ _ _ _ _ _ _ _ (by k_asm) (News.rot (by k_asm)) (by assumption) (by assumption) (And.left (by assumption))))
  · w_strict (k_steps; (all_goals exact ret _ _ _ _ _ _ _ _ _ _ (by k_asm) (News.rot (by k_asm)) (by assumption) (by assumption) (And.left (by assumption))))
  · w_strict (k_steps; (all_goals exact ret _ _ _ _ _ _ _ _ _ _ (by k_asm) (News.rot (by k_asm)) (by assumption) (by assumption) (And.left (by assumption))))
  · w_strict (k_steps; (all_goals exact ret _ _ _ _ _ _ _ _ _ _ (by k_asm) (News.rot (by k_asm)) (by assumption) (by assumption) (And.left (by assumption))))
  · exfalso; simp only [List.length_cons] at hl; omega
end
end Mine
end
-- part C6
section
open PySem PySem.W PyProof.Rows PySem.Calls
set_option Elab.async false
set_option maxRecDepth 100000
set_option maxHeartbeats 8000000
namespace Mine

local macro_rules | `(tactic| k_room) => `(tactic| ktr_room)
local macro_rules | `(tactic| k_units) => `(tactic| ktr_units)
local macro_rules | `(tactic| k_mem) => `(tactic| assumption)
local macro_rules | `(tactic| k_all) => `(tactic| assumption)
local macro_rules | `(tactic| walk_at "subscriptTail") => `(tactic| (k_here; (with_reducible show wpAny _ _ (subscriptTail _ _ (Value.ref _) (Value.int _ _)) _ _ _); with_unfolding_all (first
  | (refine' KTb.item_tup ?t ?w ?a ?b ?f ?_; (case t => exact News.isTup (by k_asm) (by k_mem)); (case w => assumption); (case a => first | omega | exact fm_lo (by assumption)); (case b => first | omega | exact fm_hi (by assumption)); (case f => first | omega | exact fm_hi63 (by assumption) (by assumption)); k_whole)
  | (refine' KTb.item_list ?t ?w ?a ?b ?f ?_; (case t => exact News.isList (by k_asm) (by k_mem)); (case w => assumption); (case a => first | omega | exact fm_lo (by assumption)); (case b => first | omega | exact fm_hi (by assumption)); (case f => first | omega | exact fm_hi63 (by assumption) (by assumption)); k_whole)); intro _ _))
local macro_rules | `(tactic| walk_at "call builtin:len") => `(tactic| (k_here; (with_reducible show wpAny _ _ (call (Value.builtin "len") [Value.ref _]) _ _ _); k_dflt (first
  | (refine' kun_lenT ?k1 ?k2 ?k3 ?_; (case k1 => exact News.isTup (by k_asm) (by k_mem)); (case k2 => exact sz_strs (by assumption)); (case k3 => omega); k_whole)
  | (refine' kun_lenL ?k1 ?k2 ?k3 ?_; (case k1 => exact News.isList (by k_asm) (by k_mem)); (case k2 => exact sz_strs (by assumption)); (case k3 => omega); k_whole))))
local macro_rules | `(tactic| walk_at "call builtin:iter") => `(tactic| (k_here; (with_reducible show wpAny _ _ (call (Value.builtin "iter") [Value.ref _]) _ _ _); k_dflt (refine' x_iter ?k1 ?k2 ?k3 ?_; (case k1 => k_asm); (case k2 => k_asm); (case k3 => exact News.isList (by k_asm) (by k_mem)); k_whole); intro I' h' F' N' l1; (try k_lt l1); (try k_sweep)))
local macro_rules | `(tactic| walk_at "call builtin:next") => `(tactic| (k_here; (with_reducible show wpAny _ _ (call (Value.builtin "next") [Value.ref _]) _ _ _); k_dflt (refine' x_next ?k1 ?k2 ?k3 ?k4 ?k5 ?_; (case k1 => k_asm); (case k2 => k_asm); (case k3 => k_updF); (case k4 => exact News.isList (by k_asm) (by k_mem)); (case k5 => first | assumption | exact rfl); k_whole); intro h' F' N'; (try dsimp only at N'); (try k_sweep)))
local macro_rules | `(tactic| k_handed) => `(tactic| assumption)
local macro_rules | `(tactic| walk_at "truthy ref") => `(tactic| (k_here; k_dflt (refine' x_truthyT ?k1 ?k2 ?k3 ?k4 ?_; (case k1 => exact News.isTup (by k_asm) (by k_mem)); (case k2 => assumption); (case k3 => assumption); (case k4 => assumption); k_whole); intro _))

local macro_rules | `(tactic| walk_at "InitBack") => `(tactic| (dsimp only [InitBack]))
section
variable {w : World} {mean : ExcName → Option Value} {mg mb : Str → Option Value} {dp un : Nat} {gd : Option (List Code)} {cn : Str} {cs : Scope} {a : Addr} {ccd : Value} {cl : List (Str × Addr)} {outer : List Env} {A₀ : Around} {base h₀ : Heap} {L : Addr} {m : Str → Option Value} {s : Shared} {Q E : Value → Shared → Prop} {news rest : List (Addr × Obj)}
theorem c_bare
   (B : Below A₀ base [] h₀) (F : Fr h₀ L s.heap m) (X : (hd.heap_39 w.params).In h₀) (T : TopF mean mg mb h₀) (hk : cs.kind = .function) (XB : (hd.heap_39 w.params).In base) (TB : TopF mean mg mb base)
   (N : News h₀ L s.heap [])
   (hd : dp + 4 < recursionLimit) (hu : un + 16 < cLine)
   (ret : ∀ h' tk', Fr h₀ L h' m → Q (.bool true) { s with heap := h', toks := tk' }) :
   wpAny (model (RowW.prog (OpenRow.toRowW (OpenLaw.row PySem.Challenge.rw_bw0014_01))) w) (ktrTop dp un gd cn cs L a ccd [] []) (call (.ref 469) []) Q E s := by
  revert X
  k_fill
  intro X
  refine wpAny_call ?_
  refine' code_defS0 ?k1 ?k2 ?k3 ?k4 ?k5 ?kA ?k6 ?k7 ?k8 ?k9 ?kB ?_ ?cK ?c2 ?c3 ?c4 ?c5
  (case kA => exact rfl); (case k2 => k_asm); (case k1 => k_asm); (case k3 => k_asm); (case k4 => k_asm); (case k5 => k_asm); (case k6 => k_is); (case k7 => k_is); (case k8 => k_room)
  (case k9 => first | exact binds_K (by k_in) rfl (by k_is) rfl rfl rfl | exact BindsTo.of_eq rfl | fail "kts_go: no rule for these arguments"); (case kB => exact locs rfl); (case cK => exact hk); (case c2 => exact rfl); (case c3 => exact rfl); (case c4 => exact rfl); (case c5 => decide)
  intro g' L' h' FG' F' N' B' X' T' D'; (try dsimp only); (try k_lift B'); (try k_fold)
  w_strict k_steps
  all_goals exact ret _ _ (by k_asm)
end
end Mine
end
-- part C7
section
open PySem PySem.W PyProof.Rows PySem.Calls
set_option Elab.async false
set_option maxRecDepth 100000
set_option maxHeartbeats 8000000
namespace Mine

local macro_rules | `(tactic| k_room) => `(tactic| ktr_room)
local macro_rules | `(tactic| k_units) => `(tactic| ktr_units)
local macro_rules | `(tactic| k_mem) => `(tactic| assumption)
local macro_rules | `(tactic| k_all) => `(tactic| assumption)
local macro_rules | `(tactic| walk_at "subscriptTail") => `(tactic| (k_here; (with_reducible show wpAny _ _ (subscriptTail _ _ (Value.ref _) (Value.int _ _)) _ _ _); with_unfolding_all (first
  | (refine' KTb.item_tup ?t ?w ?a ?b ?f ?_; (case t => exact News.isTup (by k_asm) (by k_mem)); (case w => assumption); (case a => first | omega | exact fm_lo (by assumption)); (case b => first | omega | exact fm_hi (by assumption)); (case f => first | omega | exact fm_hi63 (by assumption) (by assumption)); k_whole)
  | (refine' KTb.item_list ?t ?w ?a ?b ?f ?_; (case t => exact News.isList (by k_asm) (by k_mem)); (case w => assumption); (case a => first | omega | exact fm_lo (by assumption)); (case b => first | omega | exact fm_hi (by assumption)); (case f => first | omega | exact fm_hi63 (by assumption) (by assumption)); k_whole)); intro _ _))
local macro_rules | `(tactic| walk_at "call builtin:len") => `(tactic| (k_here; (with_reducible show wpAny _ _ (call (Value.builtin "len") [Value.ref _]) _ _ _); k_dflt (first
  | (refine' kun_lenT ?k1 ?k2 ?k3 ?_; (case k1 => exact News.isTup (by k_asm) (by k_mem)); (case k2 => exact sz_strs (by assumption)); (case k3 => omega); k_whole)
  | (refine' kun_lenL ?k1 ?k2 ?k3 ?_; (case k1 => exact News.isList (by k_asm) (by k_mem)); (case k2 => exact sz_strs (by assumption)); (case k3 => omega); k_whole))))
local macro_rules | `(tactic| walk_at "call builtin:iter") => `(tactic| (k_here; (with_reducible show wpAny _ _ (call (Value.builtin "iter") [Value.ref _]) _ _ _); k_dflt (refine' x_iter ?k1 ?k2 ?k3 ?_; (case k1 => k_asm); (case k2 => k_asm); (case k3 => exact News.isList (by k_asm) (by k_mem)); k_whole); intro I' h' F' N' l1; (try k_lt l1); (try k_sweep)))
local macro_rules | `(tactic| walk_at "call builtin:next") => `(tactic| (k_here; (with_reducible show wpAny _ _ (call (Value.builtin "next") [Value.ref _]) _ _ _); k_dflt (refine' x_next ?k1 ?k2 ?k3 ?k4 ?k5 ?_; (case k1 => k_asm); (case k2 => k_asm); (case k3 => k_updF); (case k4 => exact News.isList (by k_asm) (by k_mem)); (case k5 => first | assumption | exact rfl); k_whole); intro h' F' N'; (try dsimp only at N'); (try k_sweep)))
local macro_rules | `(tactic| k_handed) => `(tactic| assumption)
local macro_rules | `(tactic| walk_at "truthy ref") => `(tactic| (k_here; k_dflt (refine' x_truthyT ?k1 ?k2 ?k3 ?k4 ?_; (case k1 => exact News.isTup (by k_asm) (by k_mem)); (case k2 => assumption); (case k3 => assumption); (case k4 => assumption); k_whole); intro _))

local macro_rules | `(tactic| k_enter) => `(tactic| (refine' code_def ?k1 ?k2 ?k3 ?k4 ?k5 ?kA ?kF ?kK ?k6 ?k7 ?k8 ?k9 ?kB ?_ ?c2 ?c3 ?c4 ?c5; (case kA => exact rfl); (case kF => exact rfl); (case kK => assumption); (case k1 => k_asm); (case k2 => k_asm); (case k3 => k_asm); (case k4 => k_asm); (case k5 => k_asm); (case k6 => k_is); (case k7 => k_is); (case k8 => ktr_room); (case k9 => first | exact BindsTo.of_eq rfl | exact binds_K (by k_in) rfl (by k_is) rfl rfl rfl); (case c5 => decide); (case kB => exact locs rfl); (case c2 => exact rfl); (case c3 => exact rfl); (case c4 => exact rfl); k_whole; intro g' L' h' FG' F' N' B' X' T'; (try dsimp only); (try k_lift B'); (try k_fold)))

local macro_rules | `(tactic| k_mem) => `(tactic| (with_reducible (repeat (first | assumption | exact List.mem_append_right _ (by assumption) | exact List.mem_cons_self | refine List.mem_cons_of_mem _ ?_)); done))

section
variable {w : World} {mean : ExcName → Option Value} {mg mb : Str → Option Value} {dp un : Nat} {gd : Option (List Code)} {cn : Str} {cs : Scope} {a : Addr} {ccd : Value} {cl : List (Str × Addr)} {outer : List Env} {A₀ : Around} {base h₀ : Heap} {L : Addr} {m : Str → Option Value} {s : Shared} {Q E : Value → Shared → Prop} {news rest : List (Addr × Obj)}
theorem c_loopnew {row : Addr} {items : Array Value} {n0 : Nat}
   (B : Below A₀ base outer h₀) (F : Fr h₀ L s.heap m) (X : (hd.heap_39 w.params).In h₀) (T : TopF mean mg mb h₀) (hk : cs.kind = .function)
   (N : News h₀ L s.heap news) (m1 : (row, listOf items n0) ∈ news)
   (hd : dp + 4 < recursionLimit) (_hu : un + 16 < cLine)
   (ret : ∀ h' tk' lo ld it o, Fr h₀ L h' m → News h₀ L h' ((it, litO row 0) :: (lo, instObj 342 ld) :: (ld, o) :: news) → LoopAt row it 0 o → (∀ p ∈ news, @LT.lt Nat _ p.1 ld) → @LT.lt Nat _ ld lo → (@LT.lt Nat _ lo it ∧ @LT.lt Nat _ ld it ∧ AllLt it news) →
     Q (.ref lo) { s with heap := h', toks := tk' }) :
   wpAny (model (RowW.prog (OpenRow.toRowW (OpenLaw.row PySem.Challenge.rw_bw0014_01))) w) (ktrTop dp un gd cn cs L a ccd cl outer) (call (.ref 342) [.ref row, .ref 451]) Q E s := by
  revert X
  k_fill
  intro X
  w_strict k_steps
  all_goals exact ret _ _ _ _ _ _ (by k_asm) (by k_asm) .start (by assumption) (by assumption) (by assumption)
theorem c_joinnew0
   (B : Below A₀ base outer h₀) (F : Fr h₀ L s.heap m) (X : (hd.heap_39 w.params).In h₀) (T : TopF mean mg mb h₀) (hk : cs.kind = .function)
   (N : News h₀ L s.heap news)
   (hd : dp + 4 < recursionLimit) (_hu : un + 16 < cLine)
   (ret : ∀ h' tk' jo jd hi hp ti tk ts, Fr h₀ L h' m → News h₀ L h' ((jo, instObj 119 jd) :: (jd, joinD hi hp ti tk (Str.ofString ", ") ts false) :: news) → (∀ p ∈ news, @LT.lt Nat _ p.1 jd) → @LT.lt Nat _ jd jo →
     Q (.ref jo) { s with heap := h', toks := tk' }) :
   wpAny (model (RowW.prog (OpenRow.toRowW (OpenLaw.row PySem.Challenge.rw_bw0014_01))) w) (ktrTop dp un gd cn cs L a ccd cl outer) (call (.ref 119) []) Q E s := by
  revert X
  k_fill
  intro X
  w_strict k_steps
  all_goals exact ret _ _ _ _ _ _ _ _ _ (by k_asm) (by k_asm) (by assumption) (by assumption)
theorem c_joinnew1 {sep : Str} {ts : Tok}
   (B : Below A₀ base outer h₀) (F : Fr h₀ L s.heap m) (X : (hd.heap_39 w.params).In h₀) (T : TopF mean mg mb h₀) (hk : cs.kind = .function)
   (N : News h₀ L s.heap news)
   (hd : dp + 4 < recursionLimit) (_hu : un + 16 < cLine)
   (ret : ∀ h' tk' jo jd hi hp ti tk ts, Fr h₀ L h' m → News h₀ L h' ((jo, instObj 119 jd) :: (jd, joinD hi hp ti tk sep ts false) :: news) → (∀ p ∈ news, @LT.lt Nat _ p.1 jd) → @LT.lt Nat _ jd jo →
     Q (.ref jo) { s with heap := h', toks := tk' }) :
   wpAny (model (RowW.prog (OpenRow.toRowW (OpenLaw.row PySem.Challenge.rw_bw0014_01))) w) (ktrTop dp un gd cn cs L a ccd cl outer) (call (.ref 119) [.str sep ts]) Q E s := by
  revert X
  k_fill
  intro X
  w_strict k_steps
  all_goals exact ret _ _ _ _ _ _ _ _ _ (by k_asm) (by k_asm) (by assumption) (by assumption)
end
end Mine
end
-- part C8
section
open PySem PySem.W PyProof.Rows PySem.Calls
set_option Elab.async false
set_option maxRecDepth 100000
set_option maxHeartbeats 8000000
namespace Mine

local macro_rules | `(tactic| k_room) => `(tactic| ktr_room)
local macro_rules | `(tactic| k_units) => `(tactic| ktr_units)
local macro_rules | `(tactic| k_mem) => `(tactic| assumption)
local macro_rules | `(tactic| k_all) => `(tactic| assumption)
local macro_rules | `(tactic| walk_at "subscriptTail") => `(tactic| (k_here; (with_reducible show wpAny _ _ (subscriptTail _ _ (Value.ref _) (Value.int _ _)) _ _ _); with_unfolding_all (first
  | (refine' KTb.item_tup ?t ?w ?a ?b ?f ?_; (case t => exact News.isTup (by k_asm) (by k_mem)); (case w => assumption); (case a => first | omega | exact fm_lo (by assumption)); (case b => first | omega | exact fm_hi (by assumption)); (case f => first | omega | exact fm_hi63 (by assumption) (by assumption)); k_whole)
  | (refine' KTb.item_list ?t ?w ?a ?b ?f ?_; (case t => exact News.isList (by k_asm) (by k_mem)); (case w => assumption); (case a => first | omega | exact fm_lo (by assumption)); (case b => first | omega | exact fm_hi (by assumption)); (case f => first | omega | exact fm_hi63 (by assumption) (by assumption)); k_whole)); intro _ _))
local macro_rules | `(tactic| walk_at "call builtin:len") => `(tactic| (k_here; (with_reducible show wpAny _ _ (call (Value.builtin "len") [Value.ref _]) _ _ _); k_dflt (first
  | (refine' kun_lenT ?k1 ?k2 ?k3 ?_; (case k1 => exact News.isTup (by k_asm) (by k_mem)); (case k2 => exact sz_strs (by assumption)); (case k3 => omega); k_whole)
  | (refine' kun_lenL ?k1 ?k2 ?k3 ?_; (case k1 => exact News.isList (by k_asm) (by k_mem)); (case k2 => exact sz_strs (by assumption)); (case k3 => omega); k_whole))))
local macro_rules | `(tactic| walk_at "call builtin:iter") => `(tactic| (k_here; (with_reducible show wpAny _ _ (call (Value.builtin "iter") [Value.ref _]) _ _ _); k_dflt (refine' x_iter ?k1 ?k2 ?k3 ?_; (case k1 => k_asm); (case k2 => k_asm); (case k3 => exact News.isList (by k_asm) (by k_mem)); k_whole); intro I' h' F' N' l1; (try k_lt l1); (try k_sweep)))
local macro_rules | `(tactic| walk_at "call builtin:next") => `(tactic| (k_here; (with_reducible show wpAny _ _ (call (Value.builtin "next") [Value.ref _]) _ _ _); k_dflt (refine' x_next ?k1 ?k2 ?k3 ?k4 ?k5 ?_; (case k1 => k_asm); (case k2 => k_asm); (case k3 => k_updF); (case k4 => exact News.isList (by k_asm) (by k_mem)); (case k5 => first | assumption | exact rfl); k_whole); intro h' F' N'; (try dsimp only at N'); (try k_sweep)))
local macro_rules | `(tactic| k_handed) => `(tactic| assumption)
local macro_rules | `(tactic| walk_at "truthy ref") => `(tactic| (k_here; k_dflt (refine' x_truthyT ?k1 ?k2 ?k3 ?k4 ?_; (case k1 => exact News.isTup (by k_asm) (by k_mem)); (case k2 => assumption); (case k3 => assumption); (case k4 => assumption); k_whole); intro _))

section
variable {w : World} {mean : ExcName → Option Value} {mg mb : Str → Option Value} {dp un : Nat} {gd : Option (List Code)} {cn : Str} {cs : Scope} {a : Addr} {ccd : Value} {cl : List (Str × Addr)} {outer : List Env} {A₀ : Around} {base h₀ : Heap} {L : Addr} {m : Str → Option Value} {s : Shared} {Q E : Value → Shared → Prop} {news rest : List (Addr × Obj)}
theorem c_reset0 {cy dc tp : Addr} {hi hp : Int} {ti tk tk1 : Tok} {p : Int}
   (B : Below A₀ base outer h₀) (F : Fr h₀ L s.heap m) (X : (hd.heap_39 w.params).In h₀) (T : TopF mean mg mb h₀) (hk : cs.kind = .function)
   (N : News h₀ L s.heap ((dc, cycD hi hp ti tk tp p tk1) :: rest))
   (m1 : (cy, instObj 90 dc) ∈ rest) (off : ∀ q ∈ rest, q.1 ≠ dc)
   (hd : dp + 2 < recursionLimit) (hu : un + 8 < cLine)
   (ret : ∀ h' tk' t1, Fr h₀ L h' m → News h₀ L h' ((dc, cycD hi hp ti tk tp 0 t1) :: rest) → Q .none { s with heap := h', toks := tk' }) :
   wpAny (model (RowW.prog (OpenRow.toRowW (OpenLaw.row PySem.Challenge.rw_bw0014_01))) w) (ktrTop dp un gd cn cs L a ccd cl outer) (call (.ref 72) [.ref cy]) Q E s := by
  revert X
  k_fill
  intro X
  refine wpAny_call ?_
  w_strict (k_dflt cell_enter)
  w_strict k_steps
  all_goals exact ret _ _ _ (by k_asm) (by k_asm)
end
end Mine
end
-- part G0
section
open PySem PySem.W PyProof.Rows PySem.Calls
set_option Elab.async false
set_option maxRecDepth 100000
set_option maxHeartbeats 8000000
namespace Mine

section
variable {M : Model} {A : Around} {R : GenEnd} {Y : Protocol} {n : Nat} {s₀ : Shared} {c : Code} {fs : List Frame} {s : Shared} {env : Env}
  {K : Flow → Sem PySem.Fin} {H : Value → Sem PySem.Fin} {gd : Bool → Bool} {lv : List Value → List Value}
theorem g_If {test : Expr} {body orelse : List Stmt} {pos : Pos}
    (h : wpAny M (A.over c fs) (isTrue test env (eval test env)) (fun b s' => Seg M A R Y n s₀ c ((execs (if b = true then body else orelse) env).wrap K H gd lv) fs s')
      (fun x s' => Seg M A R Y n s₀ c (H x) fs s') s) :
    Seg M A R Y n s₀ c ((exec (.If test body orelse pos) env).wrap K H gd lv) fs s := by
  show Seg M A R Y n s₀ c (.at pos fun _ => (isTrue test env (eval test env) >>= fun b => if b = true then execs body env else execs orelse env).wrap K H gd lv) fs s
  refine seg_at ?_
  rw [Sem.bind_eq_wrap', Sem.wrap_wrap]
  refine seg_wrap (wpAny_mono h (fun b s' hb => ?_) fun _ _ x => x)
  cases b <;> exact hb
theorem g_stmt {st : Stmt}
    (h : wpAny M (A.over c fs) (exec st env) (fun f s' => Seg M A R Y n s₀ c (K f) fs s') (fun x s' => Seg M A R Y n s₀ c (H x) fs s') s) :
    Seg M A R Y n s₀ c ((exec st env).wrap K H gd lv) fs s := seg_wrap h
theorem g_For {target iter : Expr} {body orelse : List Stmt} {pos : Pos} (hs : ∀ x, foldedSetIterable iter env x = pure x)
    (h : wpAny M (A.over c fs) (eval iter env) (fun x s₁ => wpAny M (A.over c fs) (pyIter x) (fun it s₂ =>
      ∀ p, Seg M A R Y n s₀ (.forLoop target it body orelse env) (M.den (.forLoop target it body orelse env))
      (.ret (fun r => ((match r with | .ok f => (.pure f : Sem Flow) | .error e => .raise e).onRaise fun (x : Value) => do
        if (← field x 1) == Value.none then unsupported "frame.own-activation:exception-without-traceback"
        setFlight x env.frame).wrap K H gd lv) none (gd false) (lv []) c p [] :: fs) s₂) (fun x s' => Seg M A R Y n s₀ c (H x) fs s') s₁)
      (fun x s' => Seg M A R Y n s₀ c (H x) fs s') s) :
    Seg M A R Y n s₀ c ((exec (.For target iter body orelse pos) env).wrap K H gd lv) fs s := by
  show Seg M A R Y n s₀ c (.at pos fun _ => (eval iter env >>= fun y => foldedSetIterable iter env y >>= fun x => standAt iter.pos >>= fun _ => holding [x] (pyIter x) >>= fun it => runOwn (.forLoop target it body orelse env) env).wrap K H gd lv) fs s
  refine seg_at ?_
  rw [Sem.bind_eq_wrap', Sem.wrap_wrap]
  refine seg_wrap (wpAny_mono h (fun x s₁ h₁ => ?_) fun _ _ x => x)
  rw [Sem.bind_eq_wrap', Sem.wrap_wrap]
  refine seg_wrap (wpAny_of_eq (hs x) ?_)
  rw [Sem.bind_eq_wrap', Sem.wrap_wrap]
  refine seg_wrap (wpAny_standAt ?_)
  rw [Sem.bind_eq_wrap', Sem.wrap_wrap]
  refine seg_wrap (wpAny_holding (wpAny_mono h₁ (fun it s₂ h₂ => ?_) fun _ _ x => x))
  exact seg_call h₂
end
section
variable {prog : Program} {w : World} {A : Around} {R : GenEnd} {Y : Protocol} {n : Nat} {s₀ : Shared} {fs : List Frame} {s : Shared} {env : Env}
abbrev forK (target : PySem.Expr) (it : Value) (body orelse : List Stmt) (env : Env) (f : Flow) : Sem PySem.Fin := match f with
  | .next | .cont => .pure (.again (.forLoop target it body orelse env))
  | .brk => .pure (.done .next)
  | .ret v => .pure (.done (.ret v))
abbrev noteH (env : Env) (e : Value) : Sem PySem.Fin := (do noteFrame e env; theTreesLotGoes e : Sem Unit).wrap (fun _ => .raise e) .raise id id
theorem g_forLoop {target : PySem.Expr} {it : Value} {body orelse : List Stmt}
    (h : wpAny (model prog w) (A.over (.forLoop target it body orelse env) fs) (pyNext it) (fun r s₁ => match r with
      | none => Seg (model prog w) A R Y n s₀ (.forLoop target it body orelse env) (.pure (.again (.block orelse env))) fs s₁
      | some v => wpAny (model prog w) (A.over (.forLoop target it body orelse env) fs) (letOwnedTupleGo target it v) (fun _ s₂ =>
          wpAny (model prog w) (A.over (.forLoop target it body orelse env) fs) (assign target env v) (fun _ s₃ =>
            Seg (model prog w) A R Y n s₀ (.forLoop target it body orelse env) ((execs body env).wrap (forK target it body orelse env) (noteH env) id id) fs s₃)
            (fun _ _ => False) s₂) (fun _ _ => False) s₁) (fun _ _ => False) s) :
    Seg (model prog w) A R Y n s₀ (.forLoop target it body orelse env) ((model prog w).den (.forLoop target it body orelse env)) fs s := by
  show Seg _ A R Y n s₀ _ ((forTurn target it body orelse env).onRaise (fun x => do noteFrame x env; theTreesLotGoes x)) fs s
  unfold forTurn
  rw [Sem.onRaise_eq_wrap, Sem.bind_eq_wrap', Sem.wrap_wrap]
  refine seg_wrap (wpAny_standAt ?_)
  rw [Sem.bind_eq_wrap', Sem.wrap_wrap]
  refine seg_wrap (wpAny_onRaise (wpAny_mono h (fun r s₁ h₁ => ?_) fun _ _ x => x.elim))
  cases r with
  | none => exact h₁
  | some v =>
    show Seg _ A R Y n s₀ _ (Sem.wrap _ _ _ _ (letOwnedTupleGo target it v >>= _)) fs s₁
    rw [Sem.bind_eq_wrap', Sem.wrap_wrap]
    refine seg_wrap (wpAny_mono h₁ (fun _ s₂ h₂ => ?_) fun _ _ x => x.elim)
    rw [Sem.bind_eq_wrap', Sem.wrap_wrap]
    refine seg_wrap (wpAny_mono h₂ (fun _ s₃ h₃ => ?_) fun _ _ x => x.elim)
    rw [Sem.bind_eq_wrap', Sem.wrap_wrap]
    rw [Sem.wrap_congr (execs body env) _ _ (K' := forK target it body orelse env) (H' := noteH env)
        (fun f => by cases f <;> rfl)
        (fun e => by first | exact Sem.bind_eq_wrap _ _ | (show (do noteFrame e env; theTreesLotGoes e : Sem Unit).bind (fun _ => .raise e) = _; rw [Sem.bind_eq_wrap]))]
    exact h₃
theorem g_loopList {x : Str} {px : Pos} {it : Addr} {vs : List Value} {body : List Stmt} (J : Nat → Nat → Shared → Shared → Prop)
    (turn : ∀ i n s₀ s, i < vs.length → J i n s₀ s → wpAny (model prog w) (A.over (.forLoop (.Name x px) (.ref it) body [] env) fs) (pyNext (.ref it)) (fun r s₁ => ∃ v, r = some v ∧
      wpAny (model prog w) (A.over (.forLoop (.Name x px) (.ref it) body [] env) fs) (assign (.Name x px) env v) (fun _ s₂ =>
        (∀ n' s₀' s', J (i + 1) n' s₀' s' → Seg (model prog w) A R Y n' s₀' (.forLoop (.Name x px) (.ref it) body [] env) (.pure (.again (.forLoop (.Name x px) (.ref it) body [] env))) fs s') →
        Seg (model prog w) A R Y n s₀ (.forLoop (.Name x px) (.ref it) body [] env) ((execs body env).wrap (forK (.Name x px) (.ref it) body [] env) (noteH env) id id) fs s₂) (fun _ _ => False) s₁) (fun _ _ => False) s)
    (done : ∀ n s₀ s, J vs.length n s₀ s → wpAny (model prog w) (A.over (.forLoop (.Name x px) (.ref it) body [] env) fs) (pyNext (.ref it)) (fun r s₁ => r = none ∧
      Seg (model prog w) A R Y n s₀ (.forLoop (.Name x px) (.ref it) body [] env) (.pure (.again (.block [] env))) fs s₁) (fun _ _ => False) s) :
    ∀ k i n s₀ s, vs.length - i = k → i ≤ vs.length → J i n s₀ s → Seg (model prog w) A R Y n s₀ (.forLoop (.Name x px) (.ref it) body [] env) ((model prog w).den (.forLoop (.Name x px) (.ref it) body [] env)) fs s := by
  intro k
  induction k with
  | zero =>
    intro i n s₀ s hk hi hJ
    have e : i = vs.length := by omega
    subst e
    refine g_forLoop (wpAny_mono (done n s₀ s hJ) (fun r s₁ h => ?_) fun _ _ x => x)
    obtain ⟨rfl, h⟩ := h
    exact h
  | succ k ih =>
    intro i n s₀ s hk hi hJ
    refine g_forLoop (wpAny_mono (turn i n s₀ s (by omega) hJ) (fun r s₁ h => ?_) fun _ _ x => x)
    obtain ⟨v, rfl, h⟩ := h
    refine wpAny_pure ?_
    refine wpAny_mono h (fun _ s₂ h₂ => ?_) fun _ _ x => x
    exact h₂ fun n' s₀' s' hJ' => seg_again rfl (ih (i + 1) n' s₀' s' (by omega) (by omega) hJ')
theorem g_block {c : Code} (h : Seg (model prog w) A R Y n s₀ (.block [] env) (.pure (.done .next)) fs s) : Seg (model prog w) A R Y n s₀ c (.pure (.again (.block [] env))) fs s := by
  refine seg_again rfl ?_
  show Seg _ A R Y n s₀ _ ((execs [] env).onRaise _ >>= fun f => pure (.done f)) fs s
  exact h
end
section
variable {prog : Program} {w : World} {A : Around} {E : Value → Shared → Prop} {s : Shared} {h₀ : Heap} {L l it : Addr} {m : Str → Option Value} {news rest : List (Addr × Obj)} {g : Obj → List (Addr × Obj)} {items : Array Value} {i : Nat} {x : Value}
theorem x_pyNext {Q : Option Value → Shared → Prop} (F : Fr h₀ L s.heap m) (N : News h₀ L s.heap news) (U : UpdF it (litO l i) news g) (hl : s.heap.IsList l items) (hx : items[i]? = some x)
    (h : ∀ h', Fr h₀ L h' m → News h₀ L h' (g (litO l (i + 1))) → Q (some x) { s with heap := h' }) :
    wpAny (model prog w) A (pyNext (.ref it)) Q E s := by
  obtain ⟨pre, post, hl', hg, a, b⟩ := U.split
  have hmem : (it, litO l i) ∈ news := by rw [hl']; exact List.mem_append_right _ (.head _)
  have hm := N (it, litO l i) hmem
  unfold pyNext
  refine wpAny_bind (wpAny_attempt (x_special hm.1 hl hx fun h' hit' hs => ?_))
  exact wpAny_pure (h h' (F.change hs hm.2.1 hm.2.2) (hg _ ▸ (show News h₀ L s.heap (pre ++ (it, litO l i) :: post) from hl' ▸ N).setIn a b hs hit'))
theorem x_pyEnd {Q : Option Value → Shared → Prop} (hh : A.handled = none) (F : Fr h₀ L s.heap m) (N : News h₀ L s.heap ((it, litO l i) :: rest)) (off : ∀ q ∈ rest, q.1 ≠ it) (hl : s.heap.IsList l items) (hx : items[i]? = none)
    (h : ∀ h', Fr h₀ L h' m → News h₀ L h' rest → Q none { s with heap := h' }) :
    wpAny (model prog w) A (pyNext (.ref it)) Q E s := by
  have hm := N (it, litO l i) (.head _)
  refine wpAny_pyNext_list_end hh (l := l) (i := i) (items := items) ⟨_, hm.1, rfl, rfl⟩ hl hx fun h' he => ?_
  refine h h' ⟨F.ns.at' fun o e => he _ o (Ne.symm hm.2.1) e, fun b o e => he b o (fun q => by rw [q, hm.2.2] at e; cases e) (F.keep b o e), F.above⟩ fun p hp => ⟨he _ _ (off p hp) (N p (.tail _ hp)).1, (N p (.tail _ hp)).2⟩
end
end Mine
end
-- part G1
section
open PySem PySem.W PyProof.Rows PySem.Calls
set_option Elab.async false
set_option maxRecDepth 100000
set_option maxHeartbeats 8000000
namespace Mine

local macro_rules | `(tactic| k_room) => `(tactic| ktr_room)
local macro_rules | `(tactic| k_units) => `(tactic| ktr_units)
local macro_rules | `(tactic| k_mem) => `(tactic| assumption)
local macro_rules | `(tactic| k_all) => `(tactic| assumption)
local macro_rules | `(tactic| walk_at "subscriptTail") => `(tactic| (k_here; (with_reducible show wpAny _ _ (subscriptTail _ _ (Value.ref _) (Value.int _ _)) _ _ _); with_unfolding_all (first
  | (refine' KTb.item_tup ?t ?w ?a ?b ?f ?_; (case t => exact News.isTup (by k_asm) (by k_mem)); (case w => assumption); (case a => first | omega | exact fm_lo (by assumption)); (case b => first | omega | exact fm_hi (by assumption)); (case f => first | omega | exact fm_hi63 (by assumption) (by assumption)); k_whole)
  | (refine' KTb.item_list ?t ?w ?a ?b ?f ?_; (case t => exact News.isList (by k_asm) (by k_mem)); (case w => assumption); (case a => first | omega | exact fm_lo (by assumption)); (case b => first | omega | exact fm_hi (by assumption)); (case f => first | omega | exact fm_hi63 (by assumption) (by assumption)); k_whole)); intro _ _))
local macro_rules | `(tactic| walk_at "call builtin:len") => `(tactic| (k_here; (with_reducible show wpAny _ _ (call (Value.builtin "len") [Value.ref _]) _ _ _); k_dflt (first
  | (refine' kun_lenT ?k1 ?k2 ?k3 ?_; (case k1 => exact News.isTup (by k_asm) (by k_mem)); (case k2 => exact sz_strs (by assumption)); (case k3 => omega); k_whole)
  | (refine' kun_lenL ?k1 ?k2 ?k3 ?_; (case k1 => exact News.isList (by k_asm) (by k_mem)); (case k2 => exact sz_strs (by assumption)); (case k3 => omega); k_whole))))
local macro_rules | `(tactic| walk_at "call builtin:iter") => `(tactic| (k_here; (with_reducible show wpAny _ _ (call (Value.builtin "iter") [Value.ref _]) _ _ _); k_dflt (refine' x_iter ?k1 ?k2 ?k3 ?_; (case k1 => k_asm); (case k2 => k_asm); (case k3 => exact News.isList (by k_asm) (by k_mem)); k_whole); intro I' h' F' N' l1; (try k_lt l1); (try k_sweep)))
local macro_rules | `(tactic| walk_at "call builtin:next") => `(tactic| (k_here; (with_reducible show wpAny _ _ (call (Value.builtin "next") [Value.ref _]) _ _ _); k_dflt (refine' x_next ?k1 ?k2 ?k3 ?k4 ?k5 ?_; (case k1 => k_asm); (case k2 => k_asm); (case k3 => k_updF); (case k4 => exact News.isList (by k_asm) (by k_mem)); (case k5 => first | assumption | exact rfl); k_whole); intro h' F' N'; (try dsimp only at N'); (try k_sweep)))
local macro_rules | `(tactic| k_handed) => `(tactic| assumption)
local macro_rules | `(tactic| walk_at "truthy ref") => `(tactic| (k_here; k_dflt (refine' x_truthyT ?k1 ?k2 ?k3 ?k4 ?_; (case k1 => exact News.isTup (by k_asm) (by k_mem)); (case k2 => assumption); (case k3 => assumption); (case k4 => assumption); k_whole); intro _))

local macro_rules | `(tactic| walk_at "call builtin:len") => `(tactic| (k_here; (with_reducible show wpAny _ _ (call (Value.builtin "len") [Value.ref _]) _ _ _); k_dflt (refine' kun_lenL ?k1 ?k2 ?k3 ?_; (case k1 => exact News.isList (by k_asm) (by k_mem)); (case k2 => exact sz_any _); (case k3 => omega); k_whole)))
local macro_rules | `(tactic| walk_at "truthy ref") => `(tactic| (k_here; k_dflt (refine' x_truthyL ?k1 ?k2 ?_; (case k1 => exact News.isList (by k_asm) (by k_mem)); (case k2 => omega); k_whole); intro _))
def chunkGo (n : Nat) : List Value → List Value → List (List Value)
  | cur, [] => if cur = [] then [] else [cur]
  | cur, y :: ys => if cur.length = n then cur :: chunkGo n [y] ys else chunkGo n (cur ++ [y]) ys
abbrev chunksOf (n : Nat) (vs : List Value) : List (List Value) := chunkGo n [] vs
abbrev NotLit (o : Obj) : Prop := ∀ l i, o ≠ litO l i
theorem notLit_list {its : Array Value} {n : Nat} : NotLit (listOf its n) := fun l i e => by injection e with e; revert e; decide
theorem notLit_dict {o : Obj} {es : Array DictEntry} {n : Nat} (h : o.data = .dict es n) : NotLit o := fun l i e => by rw [e] at h; cases h
structure GKeep (h₀ : Heap) (C : Addr) (s₀ s' : Shared) : Prop where
  same : ∃ h tk, s' = { s₀ with heap := h, toks := tk }
  kept : ∀ b o, b ≠ C → (NotLit o ∨ h₀.get? b ≠ none) → s₀.heap.get? b = some o → s'.heap.get? b = some o
abbrev GLive (h : Heap) (b : Addr) : Prop := ∃ o, h.get? b = some o ∧ NotLit o
structure GCont (D CF : Addr) (s' s'' : Shared) : Prop where
  d : GLive s''.heap D
  c : GLive s''.heap CF
  kept : ∀ b o, b ≠ D → b ≠ CF → s'.heap.get? b = some o → s''.heap.get? b = some o
def GY (h₀ : Heap) (C D CF : Addr) (chs : List (List Value)) : Protocol := fun m s₀ v s' kap =>
  ∃ (t : Addr) (c : List Value) (ne : Nat), v = .ref t ∧ t ≠ D ∧ t ≠ CF ∧ t ≠ C ∧ chs.reverse[m]? = some c ∧ s'.heap.get? t = some (listOf c.toArray ne) ∧ h₀.get? t = none ∧ GKeep h₀ C s₀ s' ∧ ∀ s'', GCont D CF s' s'' → kap (.send .none) s''
abbrev GP (h₀ : Heap) (C : Addr) : Nat → Shared → Shared → Prop := fun m s₀ s₁ => m = 0 ∧ GKeep h₀ C s₀ s₁
/-- the generator may be woken anew: what it does from here on -/
def GReady (prog : Program) (w : World) (h₀ : Heap) (C : Addr) (chs : List (List Value)) (hc : Heap) (gs : GenState) : Prop :=
  ∀ (A : Around) (D CF : Addr) (s : Shared), A.handled = none → (∀ b o, hc.get? b = some o → s.heap.get? b = some o) → GLive s.heap D → GLive s.heap CF → hc.get? D = none → hc.get? CF = none →
    gs.Goes (model prog w) A (fun n s₀ r s₁ => r = .ok (.ret .none) ∧ GP h₀ C n s₀ s₁) (GY h₀ C D CF chs) chs.length (.send .none) s
def extL (h₀ : Heap) (av : List Addr) (h : Heap) : List (Addr × Obj) := (List.range h.objs.size).filterMap fun b => match h.get? b with
  | some o => if b ∈ av ∨ (h₀.get? b).isSome = true then none else some (b, o)
  | none => none
theorem mem_extL {h₀ h : Heap} {av : List Addr} {b : Addr} {o : Obj} : (b, o) ∈ extL h₀ av h ↔ h.get? b = some o ∧ b ∉ av ∧ h₀.get? b = none := by
  unfold extL
  rw [List.mem_filterMap]
  constructor
  · rintro ⟨x, _, hx⟩
    cases e : h.get? x with
    | none => rw [e] at hx; cases hx
    | some o' =>
      rw [e] at hx
      simp only at hx
      split at hx
      · cases hx
      · rename_i hn
        injection hx with hx
        injection hx with h1 h2
        subst h1; subst h2
        refine ⟨e, fun q => hn (.inl q), ?_⟩
        cases q : h₀.get? x with
        | none => rfl
        | some z => exact absurd (.inr (by rw [q]; rfl)) hn
  · rintro ⟨e, h1, h2⟩
    refine ⟨b, List.mem_range.mpr (Heap.lt_size e), ?_⟩
    rw [e]
    simp only
    rw [if_neg (by rintro (q | q); exact h1 q; rw [h2] at q; cases q)]
abbrev gm0 (row : Addr) (n : Nat) (t0 : Tok) : Str → Option Value := fun y => List.lookup y [(Str.ofString "fill_with", Value.none), (Str.ofString "linecount", .int (n : Int) t0), (Str.ofString "value", .ref row)]
abbrev gmap (row : Addr) (n : Nat) (t0 : Tok) (u : Option Value) (t : Addr) : Str → Option Value := fun y => if y = Str.ofString "item" then u else if y = Str.ofString "tmp" then some (.ref t) else gm0 row n t0 y
def GJ (h₀ : Heap) (C D CF it row : Addr) (n n0 : Nat) (t0 : Tok) (vs : List Value) (chs : List (List Value)) (i k : Nat) (s₀ s : Shared) : Prop :=
  ∃ (t : Addr) (cur : List Value) (ne : Nat) (u : Option Value) (ext : List (Addr × Obj)),
   Fr h₀ C s.heap (gmap row n t0 u t) ∧ News h₀ C s.heap ((t, listOf cur.toArray ne) :: (it, litO row i) :: ext) ∧ (∀ q ∈ ext, q.1 ≠ t) ∧ (∀ q ∈ ext, q.1 ≠ it) ∧ @Ne Nat it t ∧ (row, listOf vs.toArray n0) ∈ ext ∧ (∃ o, (D, o) ∈ ext) ∧ (∃ o, (CF, o) ∈ ext) ∧ cur.length ≤ n ∧ k = (chunkGo n cur (vs.drop i)).length ∧ (∃ dn, chs = dn ++ chunkGo n cur (vs.drop i)) ∧ (∃ h tk, s = { s₀ with heap := h, toks := tk }) ∧ (∀ b o, h₀.get? b = some o → s₀.heap.get? b = some o) ∧
   (∀ b o, s₀.heap.get? b = some o → b ≠ C → h₀.get? b = none → NotLit o → (b, o) ∈ ext)
theorem g_keep {h₀ : Heap} {C L' : Addr} {s₀ s : Shared} {m : Str → Option Value} {ext news : List (Addr × Obj)} (F : Fr h₀ C s.heap m) (N : News h₀ L' s.heap news) (sub : ∀ q ∈ ext, q ∈ news) (same : ∃ h tk, s = { s₀ with heap := h, toks := tk })
    (hs0 : ∀ b o, h₀.get? b = some o → s₀.heap.get? b = some o) (hext : ∀ b o, s₀.heap.get? b = some o → b ≠ C → h₀.get? b = none → NotLit o → (b, o) ∈ ext) : GKeep h₀ C s₀ s where
  same := same
  kept := fun b o hb hc e => by
    cases q : h₀.get? b with
    | some o' =>
      have e' := hs0 b o' q
      rw [e] at e'
      injection e' with e'
      subst e'
      exact F.keep b o q
    | none => exact (N _ (sub _ (hext b o e hb q (hc.resolve_right fun z => z q)))).1
theorem call_genK {prog : Program} {w : World} {A : Around} {s : Shared} {K : Frag} {L : Addr} {h₀ : Heap} {m mg mb : Str → Option Value} {p : Program} {loose : List Str} {mean : ExcName → Option Value}
    {R : Result → Shared → Prop} {name qual : Str} {params : Arguments} {body : List Stmt} {scope : Scope} {dV kV doc pm cdv ct oc : Value} {an od : Option Addr} {osl : Array (Option Value)} {f : Addr} {args : Args} {binds : List (Str × Value)}
    (F : Fr h₀ L s.heap m) (X₀ : K.In h₀) (T : Top p loose mean mg mb h₀)
    (ho : K.lookup f = some ⟨oc, od, .func (fnOf name qual params body scope dV kV doc pm an cdv ct), osl⟩) (hcd : codeIn K cdv qual = true) (hroom : A.depth < recursionLimit)
    (hbind : BindsTo s (fnOf name qual params body scope dV kV doc pm an cdv ct) args binds) (hloc : ∀ y ∈ binds, scope.names.lookup y.1 = some .local)
    (hco : scope.isCoroutine = false) (hgen : scope.isGenerator = true) (hk : scope.kind = .function) (hcell : ∀ x ∈ scope.names, x.2 ≠ .cell)
    (h : ∀ (hg : Heap) (tk : Nat), hg.Ns s.heap.objs.size (fun x => binds.reverse.lookup x) → (∀ b o, s.heap.get? b = some o → hg.get? b = some o) → hg.objs.size = s.heap.objs.size + 2 → hg.IsGen (s.heap.objs.size + 1) s.gens.size →
      R (.ok (.ret (.ref (s.heap.objs.size + 1)))) { s with gens := s.gens.push (.fresh (.func body (envOf qual scope s.heap.objs.size f cdv))), toks := tk, heap := hg }) :
    codeAny (model prog w) A (.call (.ref f) args) R s := by
  refine codeAny_call_generator (fd := fnOf name qual params body scope dV kV doc pm an cdv ct) (body := body) hroom ((X₀.keeps F.keep) _ _ ho) rfl hco hgen rfl (codeRec_of (X₀.keeps F.keep) hcd) ?_
  refine hbind _ _ _ _ ?_
  refine wpAny_newFunctionEnv hcell hloc (fun h' hns hsb => ⟨(T.nolimit.keeps F.keep).fresh _ hsb, ?_⟩) hk
  have hsz : h'.objs.size = s.heap.objs.size + 1 := by rw [hsb.1, Heap.size_push]
  have hk2 : ∀ b o, s.heap.get? b = some o → h'.get? b = some o := fun b o e => hsb.extBut b o (Nat.ne_of_lt (Heap.lt_size e)) (Heap.get?_push_of_some _ e)
  have z := h (h'.push { cls := .type "generator", data := .fields #[.int s.gens.size 0, .str name (s.toks + binds.length), .str qual (s.toks + binds.length + 1)] }) (s.toks + binds.length + 1 + 1) (hns.at' fun o e => Heap.get?_push_of_some _ e)
    (fun b o e => Heap.get?_push_of_some _ (hk2 b o e)) (by rw [Heap.size_push, hsz]) (hsz ▸ ⟨_, _, _, Heap.get?_push_size _ rfl, rfl, rfl, rfl⟩)
  rw [← hsz] at z
  exact z
section
variable {w : World} {mean : ExcName → Option Value} {mg mb : Str → Option Value} {dp un : Nat} {gd : Option (List Code)} {cn : Str} {cs : Scope} {a : Addr} {ccd : Value} {cl : List (Str × Addr)} {outer : List Env} {A₀ : Around} {base h₀ : Heap} {L : Addr} {m : Str → Option Value} {s : Shared} {Q E : Value → Shared → Prop} {news rest : List (Addr × Obj)}
theorem x_gencall {row : Addr} {vs : List Value} {n n0 : Nat} {t : Tok}
   (B : Below A₀ base outer h₀) (F : Fr h₀ L s.heap m) (X : (hd.heap_39 w.params).In h₀) (T : TopF mean mg mb h₀) (hk : cs.kind = .function)
   (N : News h₀ L s.heap news) (m1 : (row, listOf vs.toArray n0) ∈ news) (hn : 0 < n) (hv : n ≤ 4)
   (hd : dp + 3 < recursionLimit) (hu : un + 12 < cLine)
   (ret : ∀ h' tk' C G gs, Fr h₀ L h' m → News h₀ L h' news → (∃ o, h'.get? C = some o) → (∀ p ∈ news, p.1 ≠ C) → L ≠ C → G ≠ C → h₀.get? C = none → h'.IsGen G s.gens.size → GReady (RowW.prog (OpenRow.toRowW (OpenLaw.row PySem.Challenge.rw_bw0014_01))) w h₀ C (chunksOf n vs) h' gs → Q (.ref G) { s with heap := h', gens := s.gens.push gs, toks := tk' }) :
   wpAny (model (RowW.prog (OpenRow.toRowW (OpenLaw.row PySem.Challenge.rw_bw0014_01))) w) (ktrTop dp un gd cn cs L a ccd cl outer) (call (.ref 131) [.ref row, .int (n : Int) t]) Q E s := by
  revert X
  k_fill
  intro X
  refine wpAny_call ?_
  refine' call_genK F X T ?ho ?hcd ?hroom ?hb ?hl ?hco ?hgen ?hk ?hcell ?_
  (case ho => w_strict k_is)
  (case hcd => w_strict k_is)
  (case hroom => w_strict k_room)
  (case hb => exact binds_K (Frag.In.keeps X F.keep) rfl (by w_strict k_is) rfl rfl rfl)
  (case hl => exact locs rfl)
  (case hco => exact rfl)
  (case hgen => exact rfl)
  (case hk => exact rfl)
  (case hcell => decide)
  intro h' tk' hns hkeep hsz hgen
  have hLlt := F.ns.lt
  have habove := F.above
  refine ret h' tk' s.heap.objs.size _ _ (F.keeps hkeep) (fun p hp => ⟨hkeep _ _ (N p hp).1, (N p hp).2⟩) (by obtain ⟨o, es, n, e, _⟩ := hns; exact ⟨o, e⟩) (fun p hp => Nat.ne_of_lt (Heap.lt_size (N p hp).1)) (Nat.ne_of_lt hLlt) (Nat.ne_of_gt (Nat.lt_succ_self _)) (by
    cases q : h₀.get? s.heap.objs.size with
    | none => rfl
    | some o => exact absurd (Heap.lt_size (F.keep _ _ q)) (Nat.lt_irrefl _)) hgen ?_
  clear ret
  intro A1 D CF s1 hA1 hk1 hD hCF hD0 hCF0
  have hCrow : row ≠ s.heap.objs.size := Nat.ne_of_lt (Heap.lt_size (N _ m1).1)
  have hab : h₀.objs.size ≤ s.heap.objs.size := Nat.le_trans habove (Nat.le_of_lt hLlt)
  revert hns
  generalize s.heap.objs.size = C at hab hCrow ⊢
  intro hns
  have hk2 : ∀ b o, s.heap.get? b = some o → s1.heap.get? b = some o := fun b o e => hk1 b o (hkeep b o e)
  have hns1 : s1.heap.Ns C (gm0 row n t) := hns.at' fun o e => hk1 _ o e
  have hCD : D ≠ C ∧ CF ≠ C := by
    obtain ⟨oC, _, _, hoC, _⟩ := hns
    exact ⟨fun q => (by rw [q, hoC] at hD0; cases hD0), fun q => (by rw [q, hoC] at hCF0; cases hCF0)⟩
  have hDh : h₀.get? D = none ∧ h₀.get? CF = none := by
    constructor
    · cases q : h₀.get? D with
      | none => rfl
      | some o => exact absurd (hD0.symm.trans (hkeep _ _ (F.keep _ _ q))) (fun y => nomatch y)
    · cases q : h₀.get? CF with
      | none => rfl
      | some o => exact absurd (hCF0.symm.trans (hkeep _ _ (F.keep _ _ q))) (fun y => nomatch y)
  have hrow := (N _ m1)
  have hrD : row ≠ D ∧ row ≠ CF := ⟨fun q => (by have z := hkeep _ _ hrow.1; rw [q, hD0] at z; cases z), fun q => (by have z := hkeep _ _ hrow.1; rw [q, hCF0] at z; cases z)⟩
  have F1 : Fr h₀ C s1.heap (gm0 row n t) := ⟨hns1, fun b o e => hk2 b o (F.keep b o e), hab⟩
  have N1 : News h₀ C s1.heap (extL h₀ [C] s1.heap) := fun p hp => by
    obtain ⟨b, o⟩ := p
    obtain ⟨e1, e2, e3⟩ := mem_extL.mp hp
    exact ⟨e1, fun q => e2 (q ▸ List.mem_singleton.mpr rfl), e3⟩
  have hext : ∀ b o, s1.heap.get? b = some o → b ≠ C → h₀.get? b = none → NotLit o → (b, o) ∈ extL h₀ [C] s1.heap := fun b o e h1 h2 _ => mem_extL.mpr ⟨e, fun q => h1 (List.mem_singleton.mp q), h2⟩
  have hs0 : ∀ b o, h₀.get? b = some o → s1.heap.get? b = some o := F1.keep
  have mrow : (row, listOf vs.toArray n0) ∈ extL h₀ [C] s1.heap := hext _ _ (hk2 _ _ hrow.1) hCrow hrow.2.2 notLit_list
  obtain ⟨oD, hoD, hcD⟩ := hD
  obtain ⟨oF, hoF, hcF⟩ := hCF
  have mD : (D, oD) ∈ extL h₀ [C] s1.heap := hext _ _ hoD hCD.1 hDh.1 hcD
  have mF : (CF, oF) ∈ extL h₀ [C] s1.heap := hext _ _ hoF hCD.2 hDh.2 hcF
  generalize extL h₀ [C] s1.heap = ext at N1 hext mrow mD mF
  clear hns hsz hkeep hk1 hk2 hD0 hCF0 hns1 N m1 F hrow habove hLlt hDh
  refine ⟨rfl, seg_func ?_⟩
  refine seg_execs_cons (g_stmt ?_)
  w_strict k_steps
  refine seg_execs_cons (g_For (fun _ => rfl) ?_)
  w_strict k_steps
  rename Fr h₀ C _ _ => F2
  rename News h₀ C _ _ => N2
  rename (∀ (p : Addr × Obj), p ∈ ext → p.1 < _) => l2
  rename_i t2 _ h2
  refine wpAny_pyIter_list (News.isList N2 (.tail _ mrow)) ?_
  intro pos
  have F3 := F2.push (litO row 0)
  have N3 := N2.push F2 (litO row 0)
  have hit : ∀ q ∈ ext, @LT.lt Nat _ q.1 h2.objs.size := fun q hq => Heap.lt_size (N2 q (.tail _ hq)).1
  have hitt : @LT.lt Nat _ t2 h2.objs.size := Heap.lt_size (N2 _ (.head _)).1
  dsimp only
  generalize h2.objs.size = it at N3 hit hitt ⊢
  refine g_loopList (vs := vs) (GJ h₀ C D CF it row n n0 t vs (chunksOf n vs)) ?turn ?done _ 0 _ _ _ rfl (Nat.zero_le _) ?start
  case start =>
    refine ⟨t2, [], 0, none, ext, ?_, ?_, fun q hq => Nat.ne_of_lt (l2 q hq), fun q hq => Nat.ne_of_lt (hit q hq), Nat.ne_of_gt hitt, mrow, ⟨_, mD⟩, ⟨_, mF⟩, Nat.zero_le _, rfl, ⟨[], rfl⟩, ⟨_, _, rfl⟩, hs0, hext⟩
    · have e : gmap row n t none t2 = fun y => if y = Str.ofString "tmp" then some (Value.ref t2) else gm0 row n t y := by
        funext y
        by_cases hy : y = Str.ofString "item"
        · subst hy; rfl
        · simp only [gmap, if_neg hy]
      rw [e]; exact F3
    · intro q hq
      refine N3 q ?_
      simp only [List.mem_cons] at hq ⊢
      rcases hq with h | h | h
      · exact .inr (.inl h)
      · exact .inl h
      · exact .inr (.inr h)
  case done =>
    clear F2 N2 N3 F3 l2 hext mrow mD mF hs0
    intro k s₀ s2 hJ
    obtain ⟨t3, cur, ne, u, ext, F, N, ot, oi, hit, mrow, ⟨oD, mD⟩, ⟨oF, mF⟩, hcl, hk, ⟨dn, hdn⟩, ⟨hh, tk, rfl⟩, hs0, hext⟩ := hJ
    have N' : News h₀ C hh ((it, litO row vs.length) :: (t3, listOf cur.toArray ne) :: ext) := fun q hq => N q (by
      simp only [List.mem_cons] at hq ⊢
      rcases hq with h | h | h
      · exact .inr (.inl h)
      · exact .inl h
      · exact .inr (.inr h))
    refine x_pyEnd (by simp only [Around.over, marksOver, List.foldr_cons, List.foldr_nil, Frame.marks, hA1]; rfl) F N' (fun q hq => ?_) (News.isList N (.tail _ (.tail _ mrow))) (by simp) fun h3 F3 N3 => ⟨rfl, g_block (seg_leaf (.ok .next) ?_)⟩
    · rcases List.mem_cons.mp hq with rfl | hq
      · exact Ne.symm hit
      · exact oi q hq
    rw [List.drop_length] at hk hdn
    refine seg_execs_cons (g_If ?_)
    refine isTrue_plain (ld F3 rfl ?_)
    refine x_truthyL (News.isList N3 (.head _)) (by omega) fun tk3 => ?_
    cases cur with
    | nil =>
      simp only [chunkGo, if_true, List.length_nil] at hk
      subst hk
      refine seg_execs_nil (seg_execs_nil (seg_end (.ok (.ret .none)) ⟨rfl, rfl, ?_⟩))
      exact g_keep F3 N3 (fun q hq => .tail _ hq) ⟨_, _, rfl⟩ hs0 hext
    | cons y ys =>
      simp only [chunkGo, reduceCtorEq, if_false, List.length_cons, List.length_nil] at hk hdn
      subst hk
      refine seg_execs_cons (g_If ?_)
      w_strict k_steps
      refine seg_execs_nil (seg_execs_cons (seg_Expr_Yield rfl rfl rfl (ld F3 rfl ?_)))
      intro kap hkap
      refine ⟨t3, y :: ys, ne, rfl, fun q => ot _ mD q.symm, fun q => ot _ mF q.symm, (N3 _ (.head _)).2.1, ?_, (N3 _ (.head _)).1, (N3 _ (.head _)).2.2, g_keep F3 N3 (fun q hq => .tail _ hq) ⟨_, _, rfl⟩ hs0 hext, fun s'' hcont => hkap .none s'' ?_⟩
      · rw [hdn, List.reverse_append]; rfl
      · exact seg_execs_nil (seg_execs_nil (seg_end (.ok (.ret .none)) ⟨rfl, rfl, ⟨s''.heap, s''.toks, rfl⟩, fun _ _ _ _ e => e⟩))
  case turn =>
    clear F2 N2 N3 F3 l2 hext mrow mD mF hs0
    intro i k s₀ s2 hi hJ
    obtain ⟨t3, cur, ne, u, ext, F, N, ot, oi, hit, mrow, ⟨oD, mD⟩, ⟨oF, mF⟩, hcl, hk, ⟨dn, hdn⟩, ⟨hh, tk, rfl⟩, hs0, hext⟩ := hJ
    refine x_pyNext F N (.tail (Ne.symm hit) (.head oi)) (News.isList N (.tail _ (.tail _ mrow))) (x := vs[i]) (by simp [hi]) fun h3 F3 N3 => ⟨_, rfl, ?_⟩
    refine wpAny_assign_Name (stN F3 N3 fun h4 F4 N4 again => ?_)
    refine seg_execs_cons (g_If ?_)
    w_strict k_steps
    have hch : vs.drop i = vs[i] :: vs.drop (i + 1) := List.drop_eq_getElem_cons hi
    split
    · rename_i hc
      have hc' : cur.length = n := by
        have z : (cur.length : Int) = (n : Int) := by simpa using hc
        omega
      rw [hch, chunkGo, if_pos hc'] at hk hdn
      rw [List.length_cons] at hk
      subst hk
      refine seg_execs_cons (seg_Expr_Yield rfl rfl rfl ?_)
      refine ld F4 rfl ?_
      intro kap hkap
      refine ⟨t3, cur, ne, rfl, fun q => ot _ mD q.symm, fun q => ot _ mF q.symm, (N4 _ (.head _)).2.1, ?idx, (N4 _ (.head _)).1, (N4 _ (.head _)).2.2, g_keep F4 N4 (fun q hq => .tail _ (.tail _ hq)) ⟨_, _, rfl⟩ hs0 hext, fun s'' hcont => hkap .none s'' ?_⟩
      case idx =>
        rw [hdn, List.reverse_append, List.reverse_cons, List.append_assoc, List.getElem?_append_right (by rw [List.length_reverse]; exact Nat.le_refl _), List.length_reverse, Nat.sub_self]
        rfl
      have nD := N4 _ (.tail _ (.tail _ mD))
      have nF := N4 _ (.tail _ (.tail _ mF))
      have nR := N4 _ (.tail _ (.tail _ mrow))
      have nI := N4 _ (.tail _ (.head _))
      have hns5 : s''.heap.Ns C _ := F4.ns.at' fun o e => hcont.kept _ o (Ne.symm nD.2.1) (Ne.symm nF.2.1) e
      have hs5 : ∀ b o, h₀.get? b = some o → s''.heap.get? b = some o := fun b o e => hcont.kept b o (fun q => by rw [q, nD.2.2] at e; cases e) (fun q => by rw [q, nF.2.2] at e; cases e) (F4.keep b o e)
      have F5 : Fr h₀ C s''.heap (gmap row n t (some vs[i]) t3) := by
        refine ⟨?_, hs5, F4.above⟩
        have e : (gmap row n t (some vs[i]) t3) = fun y => if y = Str.ofString "item" then some vs[i] else gmap row n t u t3 y := by
          funext y
          by_cases hy : y = Str.ofString "item"
          · simp only [gmap, if_pos hy]
          · simp only [gmap, if_neg hy]
        rw [e]; exact hns5
      have e5 : s''.heap.get? it = some (litO row (i + 1)) := hcont.kept _ _ (fun q => oi _ mD q.symm) (fun q => oi _ mF q.symm) nI.1
      have r5 : s''.heap.get? row = some (listOf vs.toArray n0) := hcont.kept _ _ hrD.1 hrD.2 nR.1
      have hext5 : ∀ b o, s''.heap.get? b = some o → b ≠ C → h₀.get? b = none → NotLit o → (b, o) ∈ extL h₀ [C, it] s''.heap := fun b o e h1 h2 h3 => mem_extL.mpr ⟨e, fun q => by
        rcases List.mem_cons.mp q with q | q
        · exact h1 q
        · rw [List.mem_singleton.mp q, e5] at e
          injection e with e
          exact h3 _ _ e.symm, h2⟩
      have mrow5 := hext5 _ _ r5 hCrow nR.2.2 notLit_list
      obtain ⟨oD5, hD5, cD5⟩ := hcont.d
      obtain ⟨oF5, hF5, cF5⟩ := hcont.c
      have mD5 := hext5 _ _ hD5 nD.2.1 nD.2.2 cD5
      have mF5 := hext5 _ _ hF5 nF.2.1 nF.2.2 cF5
      have N5 : News h₀ C s''.heap ((it, litO row (i + 1)) :: extL h₀ [C, it] s''.heap) := fun p hp => by
        rcases List.mem_cons.mp hp with rfl | hp
        · exact ⟨e5, nI.2⟩
        · obtain ⟨b, o⟩ := p
          obtain ⟨e1, e2, e3⟩ := mem_extL.mp hp
          exact ⟨e1, fun q => e2 (List.mem_cons.mpr (.inl q)), e3⟩
      have oi5 : ∀ q ∈ extL h₀ [C, it] s''.heap, q.1 ≠ it := fun q hq z => by
        obtain ⟨b, o⟩ := q
        exact (mem_extL.mp hq).2.1 (List.mem_cons.mpr (.inr (List.mem_singleton.mpr z)))
      generalize extL h₀ [C, it] s''.heap = ext5 at hext5 mrow5 mD5 mF5 N5 oi5
      clear F N F3 N3 F4 N4 hext mrow mD mF ot oi hs0 hkap hcont nD nF nR nI e5 r5 hD5 hF5 hns5
      refine seg_execs_cons (g_stmt ?_)
      w_strict k_steps
      rename (@LT.lt Nat _ it _ ∧ AllLt _ ext5) => l5
      rename Fr h₀ C _ _ => F6
      rename News h₀ C _ _ => N6
      have ot5 := allLt_all l5.2
      have it5 := l5.1
      refine seg_execs_nil (seg_execs_cons (g_stmt ?_))
      w_strict k_steps
      rename Fr h₀ C _ _ => F7
      rename News h₀ C _ _ => N7
      refine seg_execs_nil (again _ _ _ ⟨_, [vs[i]], _, some vs[i], ext5, ?_, N7, ot5, oi5, Nat.ne_of_lt it5, mrow5, ⟨_, mD5⟩, ⟨_, mF5⟩, hn, rfl, ⟨dn ++ [cur], by rw [hdn]; simp⟩, ⟨_, _, rfl⟩, hs5, hext5⟩)
      refine Fr.cong (fun y => ?_) F7
      by_cases hy : y = Str.ofString "item"
      · subst hy; rfl
      · by_cases hz : y = Str.ofString "tmp"
        · subst hz; rfl
        · simp only [gmap, if_neg hy, if_neg hz]
    · rename_i hc
      have hc' : cur.length ≠ n := fun q => hc (by simp [q])
      rw [hch, chunkGo, if_neg hc'] at hk hdn
      refine seg_execs_nil (seg_execs_cons (g_stmt ?_))
      w_strict k_steps
      rename Fr h₀ C _ _ => F7
      rename News h₀ C _ _ => N7
      refine seg_execs_nil (again _ _ _ ⟨_, cur ++ [vs[i]], _, some vs[i], ext, ?_, (List.push_toArray cur vs[i] ▸ N7), ot, oi, hit, mrow, ⟨_, mD⟩, ⟨_, mF⟩, (by rw [List.length_append, List.length_singleton]; omega), hk, ⟨dn, hdn⟩, ⟨_, _, rfl⟩, hs0, hext⟩)
      refine Fr.cong (fun y => ?_) F7
      by_cases hy : y = Str.ofString "item"
      · subst hy; rfl
      · simp only [gmap, if_neg hy]
end
end Mine
end
-- part B0
section
open PySem PySem.W PyProof.Rows PySem.Calls
set_option Elab.async false
set_option maxRecDepth 100000
set_option maxHeartbeats 8000000
namespace Mine

theorem push_set (a : Array GenState) (x y : GenState) : (a.push x).setIfInBounds a.size y = a.push y := by
  apply Array.ext'
  simp [Array.toList_setIfInBounds, List.set_append]
section
variable {prog : Program} {w : World} {A : Around} {E : Value → Shared → Prop} {s : Shared} {env : Env}
theorem g_AssignComp {elt iter : PySem.Expr} {x y : Str} {px py : Pos} {scope : Scope} {pos spos : Pos} {Q : Flow → Shared → Prop}
    (hsw : swapsWith (.ListComp elt [⟨.Name x px, iter, [], 0⟩] scope pos) (some (.Name y py)) spos.line env = pure true)
    (hfree : ∀ z ∈ scope.names, z.2 ≠ .free) (hkind : scope.kind = .function)
    (hnames : ∀ z ∈ scope.names, z.2 = .local → scope.names.lookup z.1 = some .local)
    (h : wpAny (model prog w) A (eval iter env) (fun xv s₁ => wpAny (model prog w) A (pyIter xv) (fun it s₂ => wpAny (model prog w) A (newList []) (fun acc s₃ =>
      wpAny (model prog w) A (newFunctionEnv scope env.globals [] [] env.qual none .none (some env)) (fun cenv s₄ =>
        codeAny (model prog w) A (.compStart (.ListComp elt [⟨.Name x px, iter, [], 0⟩] scope pos) 0 it acc { cenv with scope := scope }) (fun r s' => match r with
          | .ok _ => wpAny (model prog w) A (assign (.Name y py) env acc) (fun _ s'' => ∃ m, s''.heap.Ns cenv.locals m ∧ ∀ h', Heap.SameBut cenv.locals s''.heap h' → Q .next { s'' with heap := h' }) E s'
          | .error _ => False) s₄) E s₃) E s₂) E s₁) E s)
    (hs : ∀ x, foldedSetIterable iter env x = pure x := by intro _; rfl) :
    wpAny (model prog w) A (exec (.Assign [.Name y py] (.ListComp elt [⟨.Name x px, iter, [], 0⟩] scope pos) spos) env) Q E s := by
  rw [exec_Assign_Name_used _ _ _ _ hsw]
  refine wpAny_bind (wpAny_standAt (wpAny_bind ?_))
  show wpAny _ A (do let _ ← comprehension (.ListComp elt [⟨.Name x px, iter, [], 0⟩] scope pos) scope env _ (newList []) false (eval iter env) (some (assign (.Name y py) env))) _ _ s
  refine wpAny_bind (wpAny_mono (wpAny_comprehension_use (Q := fun _ s' => Q .next s') rfl hs hfree hkind hnames (wpAny_mono h (fun xv s₁ h₁ => wpAny_mono h₁ (fun it s₂ h₂ => wpAny_mono h₂ (fun acc s₃ h₃ => wpAny_mono h₃ (fun cenv s₄ h₄ => codeAny_mono h₄ fun r s' hr => ?_) fun _ _ e => e) fun _ _ e => e) fun _ _ e => e) fun _ _ e => e))
    (fun _ s' hq => wpAny_pure (wpAny_pure hq)) fun _ _ e => e)
  cases r with
  | ok f => exact hr
  | error e => exact hr.elim
end
theorem x_append {prog : Program} {w : World} {A : Around} {E : Value → Shared → Prop} {s : Shared} {l : Addr} {items : Array Value} {n : Nat} {x : Value} {Q : Value → Shared → Prop} (hl : s.heap.get? l = some (listOf items n)) (hsz : items.size ≤ 2000)
    (hQ : ∀ h', h'.get? l = some (listOf (items.push x) (n + 1)) → Heap.SameBut l s.heap h' → Q .none { s with heap := h' }) :
    wpAny (model prog w) A (call (.builtin "list.append") [.ref l, x]) Q E s := by
  refine wpAny_call_entry slot_list_append ⟨_, hl, rfl⟩ entry_list_append ?_ (args_list_append _ _)
  show wpAny _ _ (updateSeq l (·.push x) >>= fun _ => ret .none) _ _ s
  refine wpAny_bind ?_
  refine wpAny_updateSeq hl rfl (wpAny_pure ⟨.none, rfl, hQ _ ?_ (Heap.SameBut.update ..)⟩) (by rw [sizeLine_eq]; omega)
  have e : Obj.mapSeq (·.push x) (listOf items n) = listOf (items.push x) (n + 1) := by simp [Obj.mapSeq]
  rw [Heap.get?_update_self _ hl (by rw [e]; rfl), e]
def BHeap (h₀ : Heap) (C D CF : Addr) (chs : List (List Value)) (hc : Heap) (h : Heap) (k : Nat) : Prop :=
  ∃ (ts : List Addr) (nD : Nat) (mc : Str → Option Value), ts.length + k = chs.length ∧ h.get? D = some (listOf (ts.map Value.ref).toArray nD) ∧ h.Ns CF mc ∧
    (∀ b o, b ≠ C → (NotLit o ∨ h₀.get? b ≠ none) → hc.get? b = some o → h.get? b = some o) ∧
    (∀ (j : Nat) (t : Addr) (c : List Value), ts[j]? = some t → chs[j]? = some c → (∃ ne, h.get? t = some (listOf c.toArray ne)) ∧ h₀.get? t = none ∧ t ≠ D ∧ t ≠ CF ∧ t ≠ C)
/-- the comprehension over the batches: the state when k batches are still to come -/
def BInv (prog : Program) (w : World) (A : Around) (h₀ : Heap) (C D CF : Addr) (chs : List (List Value)) (hc : Heap) (g0 : Array GenState) (sb : Shared) (k : Nat) (s : Shared) : Prop :=
  ∃ (h : Heap) (tk : Nat) (gs : GenState), s = { sb with heap := h, toks := tk, gens := g0.push gs } ∧ BHeap h₀ C D CF chs hc h k ∧
    ∀ s'', GCont D CF s s'' → gs.Goes (model prog w) A.in1 (fun n s₀ r s₁ => r = .ok (.ret .none) ∧ GP h₀ C n s₀ s₁) (GY h₀ C D CF chs) k (.send .none) s''
theorem goes_keep {h₀ : Heap} {C D CF : Addr} {s s' s'' : Shared} (a : GCont D CF s s') (b : GCont D CF s' s'') : GCont D CF s s'' := ⟨b.d, b.c, fun x o h1 h2 e => b.kept x o h1 h2 (a.kept x o h1 h2 e)⟩
section
variable {prog : Program} {w : World} {A : Around} {s : Shared}
theorem b_loop {h₀ : Heap} {C D CF G : Addr} {chs : List (List Value)} {hc : Heap} {g0 : Array GenState} {sb : Shared} {R : Result → Shared → Prop}
    {x : Str} {px px2 : Pos} {iter : PySem.Expr} {scope : Scope} {pos : Pos} {cenv : Env}
    (hh : A.handled = none) (hroom : A.depth < recursionLimit) (hlim : hc.NoLimit) (hG : hc.IsGen G g0.size) (hGC : G ≠ C) (hDF : D ≠ CF) (hDC : D ≠ C) (hFC : CF ≠ C) (hD0 : hc.get? D = none) (hF0 : hc.get? CF = none)
    (hlc : cenv.locals = CF) (hx : cenv.kindOf x = some .local) (hkind : cenv.scope.kind = .function) (hxd : (x == ("__debug__" : Str)) = false) (hsz : chs.length ≤ 1000)
    (hlimC : ∀ h : Heap, (∀ b o, b ≠ C → (NotLit o ∨ h₀.get? b ≠ none) → hc.get? b = some o → h.get? b = some o) → h.NoLimit)
    (done : ∀ h tk, BHeap h₀ C D CF chs hc h 0 → R (.ok .next) { sb with heap := h, toks := tk, gens := g0.push .finished }) :
    ∀ k s, BInv prog w A h₀ C D CF chs hc g0 sb k s → codeAny (model prog w) A (.compLoop (.ListComp (.Name x px2) [⟨.Name x px, iter, [], 0⟩] scope pos) 0 (.ref G) (.ref D) cenv) R s := by
  intro k s hI
  refine codeAny_compLoop_list (BInv prog w A h₀ C D CF chs hc g0 sb) ?_ k hI
  clear hI k s
  rintro k s ⟨h, tk, gs, rfl, ⟨ts, nD, mc, hlen, hDl, hns, hkeep, hts⟩, hgo⟩
  have hGh : h.IsGen G g0.size := by
    obtain ⟨o, nm, qn, e, e1, e2, e3⟩ := hG
    exact ⟨o, nm, qn, hkeep _ _ hGC (.inl fun l i q => by rw [q] at e1; injection e1 with e1; revert e1; decide) e, e1, e2, e3⟩
  have liveD : GLive h D := ⟨_, hDl, notLit_list⟩
  have liveF : GLive h CF := by obtain ⟨o, es, n, e, e1, _⟩ := hns; exact ⟨o, e, notLit_dict e1⟩
  refine wpAny_pyNext_gen (g := g0.size) (n := k) (gs := gs) (P := GP h₀ C) (Y := GY h₀ C D CF chs) hh (hlimC h hkeep) hroom hGh (by simp) (hgo _ ⟨liveD, liveF, fun b o _ _ e => e⟩) (fun v s₁ gs' hy => ?_) (fun s₁ hp h' hk' => ?_)
  · obtain ⟨t, c, ne, rfl, htD, htF, htC, hch, htc, ht0, hgk, hkap⟩ := hy
    obtain ⟨h1, tk1, rfl⟩ := hgk.same
    cases k with
    | zero => exact (hkap _ ⟨by
        obtain ⟨o, e, q⟩ := liveD
        exact ⟨o, hgk.kept _ _ hDC (.inl q) e, q⟩, by
        obtain ⟨o, e, q⟩ := liveF
        exact ⟨o, hgk.kept _ _ hFC (.inl q) e, q⟩, fun b o _ _ e => e⟩).elim
    | succ k =>
      have kD := hgk.kept _ _ hDC (.inl notLit_list) hDl
      obtain ⟨oF, esF, nF, eF, eF1, eF2⟩ := hns
      have kF : h1.get? CF = some oF := hgk.kept _ _ hFC (.inl (notLit_dict eF1)) eF
      have hns1 : h1.Ns cenv.locals mc := by rw [hlc]; exact ⟨oF, esF, nF, kF, eF1, eF2⟩
      dsimp only
      refine wpAny_assign_Name (wpAny_storeName_local hx hns1 (fun h2 hn2 hs2 => ?_) (by rw [hkind]; rfl))
      refine wpAny_Name (wpAny_loadName_local hkind hx hn2 (v := .ref t) (by simp) ?_) hxd
      rw [hlc] at hs2
      have kD2 : h2.get? D = some (listOf (ts.map Value.ref).toArray nD) := (hs2.2 _ hDF).trans kD
      have hl1 : ts.length ≤ 1000 := by omega
      refine x_append (s := { sb with heap := h2, toks := _, gens := _ }) kD2 (by simp; omega) fun h3 kD3 hs3 => ?_
      have hgens : ((g0.push gs).setIfInBounds g0.size .running).setIfInBounds g0.size gs' = g0.push gs' := by rw [push_set, push_set]
      have htj : ∀ b o, b ≠ D → b ≠ CF → h1.get? b = some o → h3.get? b = some o := fun b o a c e => (hs3.2 _ a).trans ((hs2.2 _ c).trans e)
      refine ⟨k, Nat.lt_succ_self _, h3, tk1 + 1, gs', ?_, ⟨ts ++ [t], nD + 1, (fun z => if z = x then some (.ref t) else mc z), ?_, ?_, ?_, ?_, ?_⟩, ?_⟩
      · show Shared.mk _ _ _ _ _ = Shared.mk _ _ _ _ _
        simp only [Shared.setGen, hgens]
      · rw [List.length_append, List.length_singleton]; omega
      · rw [kD3]; simp
      · rw [hlc] at hn2; exact hn2.sameBut hs3 (Ne.symm hDF)
      · intro b o hb hc' e
        have e1 := hgk.kept b o hb hc' (hkeep b o hb hc' e)
        exact htj b o (fun q => by rw [q, hD0] at e; cases e) (fun q => by rw [q, hF0] at e; cases e) e1
      · intro j t' c' hj hcj
        rcases Nat.lt_or_ge j ts.length with hlt | hge
        · rw [List.getElem?_append_left hlt] at hj
          obtain ⟨⟨ne', e'⟩, q0, q1, q2, q3⟩ := hts j t' c' hj hcj
          exact ⟨⟨ne', htj _ _ q1 q2 (hgk.kept _ _ q3 (.inl notLit_list) e')⟩, q0, q1, q2, q3⟩
        · rw [List.getElem?_append_right hge] at hj
          have hj0 : j - ts.length = 0 := by
            rcases Nat.eq_zero_or_pos (j - ts.length) with h0 | h0
            · exact h0
            · rw [List.getElem?_eq_none (by simp; omega)] at hj; cases hj
          rw [hj0] at hj
          have hj' : t = t' := by simpa using hj
          subst hj'
          have hjl : j = ts.length := by omega
          subst hjl
          have hcc : c = c' := by
            have z := hch
            rw [List.getElem?_reverse (by omega)] at z
            have ei : chs.length - 1 - (k + 1 - 1) = ts.length := by omega
            rw [ei, hcj] at z
            exact (Option.some.inj z).symm
          subst hcc
          exact ⟨⟨ne, htj _ _ htD htF htc⟩, ht0, htD, htF, htC⟩
      · intro s'' hcont
        have : GCont D CF { sb with heap := h1, toks := tk1, gens := g0.push gs' } s'' := ⟨hcont.d, hcont.c, fun b o a c e => hcont.kept b o a c (htj b o a c e)⟩
        exact hkap s'' ⟨this.d, this.c, this.kept⟩
  · obtain ⟨hm, hgk⟩ := hp
    subst hm
    obtain ⟨h1, tk1, rfl⟩ := hgk.same
    have z := done h' tk1 ⟨ts, nD, mc, hlen, hk' _ _ (hgk.kept _ _ hDC (.inl notLit_list) hDl), ?_, fun b o hb hc' e => hk' _ _ (hgk.kept b o hb hc' (hkeep b o hb hc' e)), fun j t' c' hj hcj => ?_⟩
    · simp only [Shared.setGen, push_set] at z ⊢
      exact z
    · obtain ⟨oF, esF, nF, eF, eF1, eF2⟩ := hns
      exact ⟨oF, esF, nF, hk' _ _ (hgk.kept _ _ hFC (.inl (notLit_dict eF1)) eF), eF1, eF2⟩
    · obtain ⟨⟨ne', e'⟩, q0, q1, q2, q3⟩ := hts j t' c' hj hcj
      exact ⟨⟨ne', hk' _ _ (hgk.kept _ _ q3 (.inl notLit_list) e')⟩, q0, q1, q2, q3⟩
end
section
variable {prog : Program} {w : World} {A : Around} {E : Value → Shared → Prop} {s : Shared} {h₀ : Heap} {L a : Addr} {m : Str → Option Value} {cn : Str} {cs : Scope} {ccd : Value}
theorem g_batches {x y : Str} {px px2 py : Pos} {iter : PySem.Expr} {scope : Scope} {pos spos : Pos} {Q : Flow → Shared → Prop} (F₀ : Fr h₀ L s.heap m)
    (hsw : swapsWith (.ListComp (.Name x px2) [⟨.Name x px, iter, [], 0⟩] scope pos) (some (.Name y py)) spos.line (envOf cn cs L a ccd) = pure true)
    (hfree : ∀ z ∈ scope.names, z.2 ≠ .free) (hcell : ∀ z ∈ scope.names, z.2 ≠ .cell) (hkind : scope.kind = .function)
    (hnames : ∀ z ∈ scope.names, z.2 = .local → scope.names.lookup z.1 = some .local) (hx : scope.names.lookup x = some .local) (hxd : (x == ("__debug__" : Str)) = false)
    (hs : ∀ x, foldedSetIterable iter (envOf cn cs L a ccd) x = pure x) (hk : cs.kind = .function) (hy : (envOf cn cs L a ccd).kindOf y = some .local) (hh : A.handled = none) (hroom : A.depth < recursionLimit) (hlim : h₀.NoLimit)
    (h : wpAny (model prog w) A (eval iter (envOf cn cs L a ccd)) (fun v s₁ => ∃ (C G : Addr) (gs : GenState) (g0 : Array GenState) (news : List (Addr × Obj)) (chs : List (List Value)), v = .ref G ∧ s₁.gens = g0.push gs ∧ s₁.heap.IsGen G g0.size ∧ GReady prog w h₀ C chs s₁.heap gs ∧
      Fr h₀ L s₁.heap m ∧ News h₀ L s₁.heap news ∧ (∀ p ∈ news, p.1 ≠ C) ∧ L ≠ C ∧ G ≠ C ∧ h₀.get? C = none ∧ (∃ o, s₁.heap.get? C = some o) ∧ (∀ p ∈ news, NotLit p.2) ∧ chs.length ≤ 1000 ∧
      ∀ h' tk' D ts nD bl, Fr h₀ L h' (fun z => if z = y then some (.ref D) else m z) → News h₀ L h' ((D, listOf (List.map Value.ref ts).toArray nD) :: (bl ++ news)) → ts.length = chs.length →
        (∀ (j : Nat) (t : Addr) (c : List Value), ts[j]? = some t → chs[j]? = some c → ∃ ne, (t, listOf c.toArray ne) ∈ bl) → (∀ p ∈ bl, NotLit p.2) → Q .next { s₁ with heap := h', toks := tk', gens := g0.push .finished }) E s) :
    wpAny (model prog w) A (exec (.Assign [.Name y py] (.ListComp (.Name x px2) [⟨.Name x px, iter, [], 0⟩] scope pos) spos) (envOf cn cs L a ccd)) Q E s := by
  refine g_AssignComp hsw hfree hkind hnames (wpAny_mono h (fun v s₁ hv => ?_) fun _ _ e => e) hs
  obtain ⟨C, G, gs, g0, news, chs, rfl, hg, hG, hready, F, N, hnC, hLC, hGC, hC0, ⟨oC, hoC⟩, hlit, hsz, hQ⟩ := hv
  refine wpAny_pyIter_gen hG ?_
  refine wpAny_newObj_type ?_ (by show ([] : List Value).toArray.size ≤ sizeLine; rw [sizeLine_eq]; simp)
  have hDn : s₁.heap.get? s₁.heap.objs.size = none := by
    cases q : s₁.heap.get? s₁.heap.objs.size with
    | none => rfl
    | some o => exact absurd (Heap.lt_size q) (Nat.lt_irrefl _)
  have hcD : C ≠ s₁.heap.objs.size := Nat.ne_of_lt (Heap.lt_size hoC)
  have hkD : ∀ b o, s₁.heap.get? b = some o → (s₁.heap.push (listOf #[] 0)).get? b = some o := fun b o e => Heap.get?_push_of_some _ e
  have hDat : (s₁.heap.push (listOf #[] 0)).get? s₁.heap.objs.size = some (listOf #[] 0) := Heap.get?_push_size _ rfl
  refine wpAny_newFunctionEnv hcell (fun _ hz => nomatch hz) (fun h2 hns2 hsb2 => ?_) hkind
  have hszF : (s₁.heap.push (listOf #[] 0)).objs.size = s₁.heap.objs.size + 1 := Heap.size_push ..
  have hns3 : h2.Ns (s₁.heap.objs.size + 1) (fun _ => none) := by rw [← hszF]; exact hns2
  have hsb3 : Heap.SameBut (s₁.heap.objs.size + 1) ((s₁.heap.push (listOf #[] 0)).push { cls := .type "dict", data := .dict #[] }) h2 := by rw [← hszF]; exact hsb2
  clear hns2 hsb2
  have hFn : (s₁.heap.push (listOf #[] 0)).get? (s₁.heap.objs.size + 1) = none := by
    cases q : (s₁.heap.push (listOf #[] 0)).get? (s₁.heap.objs.size + 1) with
    | none => rfl
    | some o => exact absurd (Heap.lt_size q) (by rw [hszF]; exact Nat.lt_irrefl _)
  have hFn1 : s₁.heap.get? (s₁.heap.objs.size + 1) = none := by
    cases q : s₁.heap.get? (s₁.heap.objs.size + 1) with
    | none => rfl
    | some o => rw [hkD _ _ q] at hFn; cases hFn
  have hk2 : ∀ b o, (s₁.heap.push (listOf #[] 0)).get? b = some o → h2.get? b = some o := fun b o e =>
    hsb3.extBut b o (fun q => by rw [q, hFn] at e; cases e) (Heap.get?_push_of_some _ e)
  have hD2 := hk2 _ _ hDat
  have hDF : s₁.heap.objs.size ≠ s₁.heap.objs.size + 1 := Nat.ne_of_lt (Nat.lt_succ_self _)
  have hFC : s₁.heap.objs.size + 1 ≠ C := fun q => by rw [← q, hFn1] at hoC; cases hoC
  obtain ⟨oL, esL, nL, hoL, hdL, hmL⟩ := F.ns
  have hLD : L ≠ s₁.heap.objs.size := Nat.ne_of_lt (Heap.lt_size hoL)
  have hLF : L ≠ s₁.heap.objs.size + 1 := fun q => by rw [q, hFn1] at hoL; cases hoL
  have hNF : ∀ p ∈ news, p.1 ≠ s₁.heap.objs.size + 1 := fun p hp q => by have z := (N p hp).1; rw [q, hFn1] at z; cases z
  have h0keep : ∀ h : Heap, (∀ b o, b ≠ C → (NotLit o ∨ h₀.get? b ≠ none) → s₁.heap.get? b = some o → h.get? b = some o) → ∀ b o, h₀.get? b = some o → h.get? b = some o :=
    fun h hk b o e => hk b o (fun q => by rw [q, hC0] at e; cases e) (.inr (by rw [e]; exact fun z => nomatch z)) (F.keep b o e)
  have hDn0 : h₀.get? s₁.heap.objs.size = none := by
    cases q : h₀.get? s₁.heap.objs.size with
    | none => rfl
    | some o => rw [F.keep _ _ q] at hDn; cases hDn
  have hFn0 : h₀.get? (s₁.heap.objs.size + 1) = none := by
    cases q : h₀.get? (s₁.heap.objs.size + 1) with
    | none => rfl
    | some o => rw [F.keep _ _ q] at hFn1; cases hFn1
  have hLn0 : h₀.get? L = none := by
    cases q : h₀.get? L with
    | none => rfl
    | some o => exact absurd F.above (Nat.not_le_of_lt (Heap.lt_size q))
  have done : ∀ h tk, BHeap h₀ C s₁.heap.objs.size (s₁.heap.objs.size + 1) chs s₁.heap h 0 →
      wpAny (model prog w) A (assign (.Name y py) (envOf cn cs L a ccd) (.ref s₁.heap.objs.size)) (fun _ s'' => ∃ m, s''.heap.Ns (s₁.heap.objs.size + 1) m ∧ ∀ h', Heap.SameBut (s₁.heap.objs.size + 1) s''.heap h' → Q .next { s'' with heap := h' }) E { s₁ with heap := h, toks := tk, gens := g0.push .finished } := by
    rintro h tk ⟨ts, nD, mc, hlen, hDl, hnc, hkeep, hts⟩
    have hLh : h.get? L = some oL := hkeep _ _ hLC (.inl (notLit_dict hdL)) hoL
    have hnL : h.Ns (envOf cn cs L a ccd).locals m := ⟨oL, esL, nL, hLh, hdL, hmL⟩
    refine wpAny_assign_Name (wpAny_storeName_local hy hnL (fun h3 hn3 hs3 => ?_) (by rw [show (envOf cn cs L a ccd).scope.kind = cs.kind from rfl, hk]; rfl))
    refine ⟨_, hnc.sameBut hs3 (Ne.symm hLF), fun h' hs' => ?_⟩
    have hk' : ∀ b o, b ≠ L → b ≠ s₁.heap.objs.size + 1 → h.get? b = some o → h'.get? b = some o := fun b o h1 h2 e => (hs'.2 _ h2).trans ((hs3.2 _ h1).trans e)
    have hblk : ∀ (j : Nat) (t : Addr), ts[j]? = some t → ∃ c ne, chs[j]? = some c ∧ h.get? t = some (listOf c.toArray ne) ∧ h₀.get? t = none ∧ t ≠ s₁.heap.objs.size + 1 := fun j t ht => by
      have hj : j < ts.length := by
        rcases Nat.lt_or_ge j ts.length with q | q
        · exact q
        · rw [List.getElem?_eq_none q] at ht; cases ht
      obtain ⟨⟨ne, e⟩, q0, q1, q2, q3⟩ := hts j t chs[j] ht (List.getElem?_eq_getElem (by omega))
      exact ⟨_, ne, List.getElem?_eq_getElem (by omega), e, q0, q2⟩
    have hmem : ∀ t ∈ ts, ∃ c ne, h.get? t = some (listOf (List.toArray c) ne) ∧ h₀.get? t = none ∧ t ≠ s₁.heap.objs.size + 1 := fun t ht => by
      obtain ⟨j, hj, rfl⟩ := List.mem_iff_getElem.mp ht
      obtain ⟨c, ne, _, e⟩ := hblk j _ (List.getElem?_eq_getElem hj)
      exact ⟨c, ne, e⟩
    refine hQ h' (tk + 1) _ ts nD (ts.map fun t => (t, (h.get? t).getD (listOf #[] 0))) ⟨hn3.sameBut hs' hLF, fun b o e => hk' b o (fun q => by rw [q, hLn0] at e; cases e) (fun q => by rw [q, hFn0] at e; cases e) (h0keep h hkeep b o e), F.above⟩ ?_ (by omega) ?_ ?_
    · intro p hp
      rcases List.mem_cons.mp hp with rfl | hp
      · exact ⟨hk' _ _ (Ne.symm hLD) hDF hDl, Ne.symm hLD, hDn0⟩
      · rcases List.mem_append.mp hp with hp | hp
        · obtain ⟨t, ht, rfl⟩ := List.mem_map.mp hp
          obtain ⟨c, ne, e, e0, eF⟩ := hmem t ht
          have htL : t ≠ L := fun q => by
            rw [q, hLh] at e; injection e with e; subst e; cases hdL
          refine ⟨?_, htL, e0⟩
          rw [e]; exact hk' _ _ htL eF e
        · obtain ⟨e, eL, e0⟩ := N p hp
          exact ⟨hk' _ _ eL (hNF p hp) (hkeep _ _ (hnC p hp) (.inl (hlit p hp)) e), eL, e0⟩
    · intro j t c ht hc
      obtain ⟨c', ne, hc', e, _⟩ := hblk j t ht
      rw [hc] at hc'; injection hc' with hc'; subst hc'
      refine ⟨ne, List.mem_map.mpr ⟨t, List.mem_of_getElem? ht, ?_⟩⟩
      rw [e]; rfl
    · intro p hp
      obtain ⟨t, ht, rfl⟩ := List.mem_map.mp hp
      obtain ⟨c, ne, e, _⟩ := hmem t ht
      show NotLit ((h.get? t).getD _)
      rw [e]; exact notLit_list
  have start : ∀ tk, BInv prog w A h₀ C s₁.heap.objs.size (s₁.heap.objs.size + 1) chs s₁.heap g0 s₁ chs.length { s₁ with heap := h2, toks := tk } := by
    intro tk
    refine ⟨h2, tk, gs, by rw [← hg], ⟨[], 0, _, by simp, hD2, hns3, fun b o _ _ e => hk2 _ _ (hkD _ _ e), fun j t c h => by simp at h⟩, fun s'' hc => ?_⟩
    exact hready A.in1 _ _ s'' hh (fun b o e => hc.kept b o (fun q => by rw [q, hDn] at e; cases e) (fun q => by rw [q, hFn1] at e; cases e) (hk2 _ _ (hkD _ _ e))) hc.d hc.c hDn hFn1
  have hGh : h2.IsGen G g0.size := by
    obtain ⟨o, nm, qn, e, e1, e2, e3⟩ := hG
    exact ⟨o, nm, qn, hk2 _ _ (hkD _ _ e), e1, e2, e3⟩
  refine codeAny_compStart_list ?_ (wpAny_pyIter_gen hGh ?_)
  all_goals exact b_loop hh hroom (hlim.keeps F.keep) hG hGC hDF (Ne.symm hcD) hFC hDn hFn1 (by exact hszF) (by exact hx) hkind hxd hsz (fun h hkp => hlim.keeps (h0keep h hkp)) (fun h tk hb => by have z := done h tk hb; rw [← hszF] at z; exact z) _ _ (start _)
end
end Mine
end
-- part R0
section
open PySem PySem.W PyProof.Rows PySem.Calls
set_option Elab.async false
set_option maxRecDepth 100000
set_option maxHeartbeats 8000000
namespace Mine

def Hold (p : Prop) : Prop := p
theorem hold_in {p : Prop} (h : p) : Hold p := h
theorem ex_stop {p : Prop} (h : Hold p) : p := h
def txt (sep : Str) (b : Bool) (ns : List Int) : Nat → Str
  | 0 => Str.ofString ""
  | k + 1 => txt sep b ns k ++ ((if b || decide (0 < k) then sep else Str.ofString "") ++ Str.ofString (toString (ns.getD k 0)))
theorem ints_get {rs : List Value} {ns : List Int} (h : IntsAre rs ns) : ∀ (k : Nat), k < rs.length → ∃ t, rs[k]? = some (.int (ns.getD k 0) t) := by
  induction h with
  | nil => intro k hk; exact absurd hk (Nat.not_lt_zero _)
  | cons n t r ih =>
    intro k hk
    cases k with
    | zero => exact ⟨t, rfl⟩
    | succ k => exact ih k (by simpa using hk)
def rmap (mB : Str → Option Value) (text : Str) (tt : Tok) (parted : Str) (tq : Tok) (u1 u2 u3 u4 u5 : Option Value) : Str → Option Value := fun y =>
  if y = Str.ofString "parted" then some (.str parted tq) else if y = Str.ofString "text" then some (.str text tt) else if y = Str.ofString "due" then u5 else if y = Str.ofString "word" then u4
  else if y = Str.ofString "same" then u3 else if y = Str.ofString "item" then u2 else if y = Str.ofString "k" then u1 else mB y
theorem rmap_start {mB : Str → Option Value} {x y : Str} {tx ty : Tok} (e1 : mB (Str.ofString "parted") = some (.str x tx)) (e2 : mB (Str.ofString "text") = some (.str y ty)) :
    mB = rmap mB y ty x tx (mB (Str.ofString "k")) (mB (Str.ofString "item")) (mB (Str.ofString "same")) (mB (Str.ofString "word")) (mB (Str.ofString "due")) := by
  funext z
  unfold rmap
  by_cases q1 : z = Str.ofString "parted"
  · rw [if_pos q1, q1]; exact e1
  · rw [if_neg q1]
    by_cases q2 : z = Str.ofString "text"
    · rw [if_pos q2, q2]; exact e2
    · rw [if_neg q2]
      by_cases q3 : z = Str.ofString "due"
      · rw [if_pos q3, q3]
      · rw [if_neg q3]
        by_cases q4 : z = Str.ofString "word"
        · rw [if_pos q4, q4]
        · rw [if_neg q4]
          by_cases q5 : z = Str.ofString "same"
          · rw [if_pos q5, q5]
          · rw [if_neg q5]
            by_cases q6 : z = Str.ofString "item"
            · rw [if_pos q6, q6]
            · rw [if_neg q6]
              by_cases q7 : z = Str.ofString "k"
              · rw [if_pos q7, q7]
              · rw [if_neg q7]
theorem rmap_end {m' mB : Str → Option Value} {x y : Str} {tx ty : Tok} (e1 : m' (Str.ofString "parted") = some (.str x tx)) (e2 : m' (Str.ofString "text") = some (.str y ty))
    (e : ∀ z, z ≠ Str.ofString "parted" → z ≠ Str.ofString "text" → z ≠ Str.ofString "due" → z ≠ Str.ofString "word" → z ≠ Str.ofString "same" → z ≠ Str.ofString "item" → z ≠ Str.ofString "k" → m' z = mB z) :
    m' = rmap mB y ty x tx (m' (Str.ofString "k")) (m' (Str.ofString "item")) (m' (Str.ofString "same")) (m' (Str.ofString "word")) (m' (Str.ofString "due")) := by
  rw [rmap_start e1 e2]
  funext z
  unfold rmap
  by_cases q1 : z = Str.ofString "parted"
  · rw [if_pos q1, if_pos q1]
  · rw [if_neg q1, if_neg q1]
    by_cases q2 : z = Str.ofString "text"
    · rw [if_pos q2, if_pos q2]
    · rw [if_neg q2, if_neg q2]
      by_cases q3 : z = Str.ofString "due"
      · rw [if_pos q3, if_pos q3]; rfl
      · rw [if_neg q3, if_neg q3]
        by_cases q4 : z = Str.ofString "word"
        · rw [if_pos q4, if_pos q4]; rfl
        · rw [if_neg q4, if_neg q4]
          by_cases q5 : z = Str.ofString "same"
          · rw [if_pos q5, if_pos q5]; rfl
          · rw [if_neg q5, if_neg q5]
            by_cases q6 : z = Str.ofString "item"
            · rw [if_pos q6, if_pos q6]; rfl
            · rw [if_neg q6, if_neg q6]
              by_cases q7 : z = Str.ofString "k"
              · rw [if_pos q7, if_pos q7]; rfl
              · rw [if_neg q7, if_neg q7]; exact e z q1 q2 q3 q4 q5 q6 q7
def tagO (o : Obj) : Nat := match o.data with
  | .dict es _ => if 3 ≤ es.size then 1 else (match es[0]? with | some e => (match e.val with | Value.ref _ => 2 | _ => 3) | none => 4)
  | .fields vs => (match vs[0]? with | some (Value.ref _) => 5 | _ => 8)
  | .seq _ _ => 6
  | _ => 7
theorem tne {h₀ h : Heap} {L x y : Addr} {o o' : Obj} {l : List (Addr × Obj)} {i j : Nat} (N : News h₀ L h l) (hx : (x, o) ∈ l) (hy : (y, o') ∈ l) (ei : tagO o = i) (ej : tagO o' = j) (ho : i ≠ j) : x ≠ y :=
  news_ne N hx hy fun e => ho (by rw [← ei, ← ej, e])
theorem LoopAt.tag {row it : Addr} {k : Nat} {o : Obj} (h : LoopAt row it k o) : tagO o = 1 := by cases h <;> rfl
abbrev ritO (i : Nat) (n : Nat) : Obj := { cls := .type "range_iterator", dict := none, data := .fields #[rawInt (0 + (i : Int) * 1), rawInt ((n : Int) - (i : Int)), rawInt 1], slots := #[] }
theorem t_cyc {hi hp : Int} {ti tk : Tok} {tp : Addr} {p : Int} {t1 : Tok} : tagO (cycD hi hp ti tk tp p t1) = 2 := rfl
theorem t_join {hi hp : Int} {ti tk : Tok} {sep : Str} {ts : Tok} {b : Bool} : tagO (joinD hi hp ti tk sep ts b) = 3 := rfl
theorem t_lit {l : Addr} {i : Nat} : tagO (litO l i) = 5 := rfl
theorem t_rit {i n : Nat} : tagO (ritO i n) = 8 := rfl
theorem t_inst {C d : Addr} : tagO (instObj C d) = 7 := rfl
theorem t_list {its : Array Value} {n : Nat} : tagO (listOf its n) = 6 := rfl
theorem t_tup {its : Array Value} {n : Nat} : tagO (tupOf its n) = 6 := rfl
structure RowC where
  (row wl cy dc tp jo jd lo ld it io idd D I : Addr)
  (nr nw ntp nD : Nat)
  (rs vs : List Value)
  (ts : List Addr)
  (chs : List (List Value))
  (hi hp hi2 hp2 hi3 hp3 : Int)
  (ti tk ti2 tk2 tsp ti3 tk3 ts3 : Tok)
  (sep : Str)
  (news0 : List (Addr × Obj))
structure RowIm (c : RowC) (news : List (Addr × Obj)) : Prop where
  mrow : (c.row, listOf c.rs.toArray c.nr) ∈ news
  mwl : (c.wl, listOf c.vs.toArray c.nw) ∈ news
  mcy : (c.cy, instObj 90 c.dc) ∈ news
  mtp : (c.tp, tupOf c.vs.toArray c.ntp) ∈ news
  mjo : (c.jo, instObj 119 c.jd) ∈ news
  mlo : (c.lo, instObj 342 c.ld) ∈ news
  mio : (c.io, instObj 119 c.idd) ∈ news
  mD : (c.D, listOf (List.map Value.ref c.ts).toArray c.nD) ∈ news
  mts : ∀ (j : Nat) (t : Addr) (x : List Value), c.ts[j]? = some t → c.chs[j]? = some x → ∃ ne, (t, listOf x.toArray ne) ∈ news
  old : ∀ q ∈ c.news0, q.1 ≠ c.dc → q.1 ≠ c.jd → q ∈ news
  fresh : ∀ q ∈ c.news0, q.1 ≠ c.ld ∧ q.1 ≠ c.it ∧ q.1 ≠ c.idd ∧ q.1 ≠ c.I
  jj : c.jd ≠ c.idd
theorem RowIm.keep {c : RowC} {news news' : List (Addr × Obj)} {h₀ h : Heap} {L : Addr} (R : RowIm c news) (N : News h₀ L h news) (moved : List (Addr × Obj)) (hm : ∀ p ∈ moved, p ∈ news ∧ tagO p.2 ≠ 6 ∧ tagO p.2 ≠ 7 ∧ (p.1 = c.ld ∨ p.1 = c.it ∨ p.1 = c.idd ∨ p.1 = c.I ∨ p.1 = c.dc ∨ p.1 = c.jd))
    (k : ∀ q ∈ news, (∀ p ∈ moved, q.1 ≠ p.1) → q ∈ news') : RowIm c news' := by
  have hk : ∀ x o, (x, o) ∈ news → (tagO o = 6 ∨ tagO o = 7) → (x, o) ∈ news' := fun x o hx ht => k _ hx fun p hp e => by
    have z := hm p hp
    exact tne N hx z.1 rfl rfl (by rcases ht with ht | ht <;> rw [ht]; exact Ne.symm z.2.1; exact Ne.symm z.2.2.1) e
  refine ⟨hk _ _ R.mrow (.inl rfl), hk _ _ R.mwl (.inl rfl), hk _ _ R.mcy (.inr rfl), hk _ _ R.mtp (.inl rfl), hk _ _ R.mjo (.inr rfl), hk _ _ R.mlo (.inr rfl), hk _ _ R.mio (.inr rfl), hk _ _ R.mD (.inl rfl), fun j t x ht hx => ?_, fun q hq h1 h2 => k q (R.old q hq h1 h2) fun p hp e => ?_, R.fresh, R.jj⟩
  · obtain ⟨ne, e⟩ := R.mts j t x ht hx
    exact ⟨ne, hk _ _ e (.inl rfl)⟩
  · obtain ⟨f1, f2, f3, f4⟩ := R.fresh q hq
    rcases (hm p hp).2.2.2 with z | z | z | z | z | z
    · exact f1 (e.trans z)
    · exact f2 (e.trans z)
    · exact f3 (e.trans z)
    · exact f4 (e.trans z)
    · exact h1 (e.trans z)
    · exact h2 (e.trans z)
structure RowLed (c : RowC) (news : List (Addr × Obj)) (i k : Nat) (p : Int) (b1 b2 : Bool) : Prop where
  im : RowIm c news
  mld : ∃ o, (c.ld, o) ∈ news ∧ LoopAt c.row c.it k o
  mit : (c.it, litO c.row k) ∈ news
  mdc : ∃ t1, (c.dc, cycD c.hi c.hp c.ti c.tk c.tp p t1) ∈ news
  mjd : (c.jd, joinD c.hi2 c.hp2 c.ti2 c.tk2 c.sep c.tsp b1) ∈ news
  midd : (c.idd, joinD c.hi3 c.hp3 c.ti3 c.tk3 (Str.ofString ", ") c.ts3 b2) ∈ news
  mI : (c.I, ritO i c.rs.length) ∈ news
section
variable {c : RowC} {news news' : List (Addr × Obj)} {h₀ h h' : Heap} {L : Addr} {i k : Nat} {p : Int} {b1 b2 : Bool}
theorem RowLed.to {p' : Int} {b1' b2' : Bool} (R : RowLed c news i k p b1 b2) (e1 : p = p') (e2 : b1 = b1') (e3 : b2 = b2') : RowLed c news i k p' b1' b2' := by
  subst e1 e2 e3; exact R
theorem RowLed.mono (R : RowLed c news i k p b1 b2) (s : ∀ q ∈ news, q ∈ news') : RowLed c news' i k p b1 b2 where
  im := ⟨s _ R.im.mrow, s _ R.im.mwl, s _ R.im.mcy, s _ R.im.mtp, s _ R.im.mjo, s _ R.im.mlo, s _ R.im.mio, s _ R.im.mD, fun j t x a b => (R.im.mts j t x a b).imp fun _ z => s _ z, fun q hq a b => s _ (R.im.old q hq a b), R.im.fresh, R.im.jj⟩
  mld := R.mld.imp fun _ z => ⟨s _ z.1, z.2⟩
  mit := s _ R.mit
  mdc := R.mdc.imp fun _ z => s _ z
  mjd := s _ R.mjd
  midd := s _ R.midd
  mI := s _ R.mI
theorem RowLed.step {o' : Obj} (R : RowLed c news i k p b1 b2) (N : News h₀ L h news) (k1 : ∀ q ∈ news, q.1 ≠ c.ld → q.1 ≠ c.it → q ∈ news') (a : (c.ld, o') ∈ news') (b : LoopAt c.row c.it (k + 1) o') (d : (c.it, litO c.row (k + 1)) ∈ news') : RowLed c news' i (k + 1) p b1 b2 := by
  obtain ⟨o, mo, ho⟩ := R.mld
  obtain ⟨t1, mc⟩ := R.mdc
  refine ⟨R.im.keep N [(c.ld, o), (c.it, litO c.row k)] ?_ ?_, ⟨_, a, b⟩, d, ⟨t1, k1 _ mc (tne N mc mo t_cyc ho.tag (by decide)) (tne N mc R.mit t_cyc t_lit (by decide))⟩, k1 _ R.mjd (tne N R.mjd mo t_join ho.tag (by decide)) (tne N R.mjd R.mit t_join t_lit (by decide)), k1 _ R.midd (tne N R.midd mo t_join ho.tag (by decide)) (tne N R.midd R.mit t_join t_lit (by decide)), k1 _ R.mI (tne N R.mI mo t_rit ho.tag (by decide)) (tne N R.mI R.mit t_rit t_lit (by decide))⟩
  · intro q hq
    simp only [List.mem_cons, List.not_mem_nil, or_false] at hq
    rcases hq with rfl | rfl
    · exact ⟨mo, by rw [ho.tag]; decide, by rw [ho.tag]; decide, .inl rfl⟩
    · exact ⟨R.mit, by show (5 : Nat) ≠ 6; decide, by show (5 : Nat) ≠ 7; decide, .inr (.inl rfl)⟩
  · exact fun q hq hn => k1 q hq (hn _ (.head _)) (hn _ (.tail _ (.head _)))
theorem RowLed.next {p' : Int} {t' : Tok} (R : RowLed c news i k p b1 b2) (N : News h₀ L h news) (k1 : ∀ q ∈ news, q.1 ≠ c.dc → q ∈ news') (a : (c.dc, cycD c.hi c.hp c.ti c.tk c.tp p' t') ∈ news') : RowLed c news' i k p' b1 b2 := by
  obtain ⟨o, mo, ho⟩ := R.mld
  obtain ⟨t1, mc⟩ := R.mdc
  refine ⟨R.im.keep N [(c.dc, cycD c.hi c.hp c.ti c.tk c.tp p t1)] ?_ ?_, ⟨_, k1 _ mo (tne N mo mc ho.tag t_cyc (by decide)), ho⟩, k1 _ R.mit (tne N R.mit mc t_lit t_cyc (by decide)), ⟨_, a⟩, k1 _ R.mjd (tne N R.mjd mc t_join t_cyc (by decide)), k1 _ R.midd (tne N R.midd mc t_join t_cyc (by decide)), k1 _ R.mI (tne N R.mI mc t_rit t_cyc (by decide))⟩
  · intro q hq
    simp only [List.mem_cons, List.not_mem_nil, or_false] at hq
    rcases hq with rfl
    exact ⟨mc, by show (2 : Nat) ≠ 6; decide, by show (2 : Nat) ≠ 7; decide, .inr (.inr (.inr (.inr (.inl rfl))))⟩
  · exact fun q hq hn => k1 q hq (hn _ (.head _))
theorem RowLed.join {b' : Bool} (R : RowLed c news i k p b1 b2) (N : News h₀ L h news) (k1 : ∀ q ∈ news, q.1 ≠ c.jd → q ∈ news') (a : (c.jd, joinD c.hi2 c.hp2 c.ti2 c.tk2 c.sep c.tsp b') ∈ news') : RowLed c news' i k p b' b2 := by
  obtain ⟨o, mo, ho⟩ := R.mld
  obtain ⟨t1, mc⟩ := R.mdc
  refine ⟨R.im.keep N [(c.jd, joinD c.hi2 c.hp2 c.ti2 c.tk2 c.sep c.tsp b1)] ?_ ?_, ⟨_, k1 _ mo (tne N mo R.mjd ho.tag t_join (by decide)), ho⟩, k1 _ R.mit (tne N R.mit R.mjd t_lit t_join (by decide)), ⟨_, k1 _ mc (tne N mc R.mjd t_cyc t_join (by decide))⟩, a, k1 _ R.midd (Ne.symm R.im.jj), k1 _ R.mI (tne N R.mI R.mjd t_rit t_join (by decide))⟩
  · intro q hq
    simp only [List.mem_cons, List.not_mem_nil, or_false] at hq
    rcases hq with rfl
    exact ⟨R.mjd, by show (3 : Nat) ≠ 6; decide, by show (3 : Nat) ≠ 7; decide, .inr (.inr (.inr (.inr (.inr rfl))))⟩
  · exact fun q hq hn => k1 q hq (hn _ (.head _))
theorem RowLed.inner {b' : Bool} (R : RowLed c news i k p b1 b2) (N : News h₀ L h news) (k1 : ∀ q ∈ news, q.1 ≠ c.idd → q ∈ news') (a : (c.idd, joinD c.hi3 c.hp3 c.ti3 c.tk3 (Str.ofString ", ") c.ts3 b') ∈ news') : RowLed c news' i k p b1 b' := by
  obtain ⟨o, mo, ho⟩ := R.mld
  obtain ⟨t1, mc⟩ := R.mdc
  refine ⟨R.im.keep N [(c.idd, joinD c.hi3 c.hp3 c.ti3 c.tk3 (Str.ofString ", ") c.ts3 b2)] ?_ ?_, ⟨_, k1 _ mo (tne N mo R.midd ho.tag t_join (by decide)), ho⟩, k1 _ R.mit (tne N R.mit R.midd t_lit t_join (by decide)), ⟨_, k1 _ mc (tne N mc R.midd t_cyc t_join (by decide))⟩, k1 _ R.mjd R.im.jj, a, k1 _ R.mI (tne N R.mI R.midd t_rit t_join (by decide))⟩
  · intro q hq
    simp only [List.mem_cons, List.not_mem_nil, or_false] at hq
    rcases hq with rfl
    exact ⟨R.midd, by show (3 : Nat) ≠ 6; decide, by show (3 : Nat) ≠ 7; decide, .inr (.inr (.inl rfl))⟩
  · exact fun q hq hn => k1 q hq (hn _ (.head _))
theorem RowLed.turn (R : RowLed c news i k p b1 b2) (N : News h₀ L h news) (k1 : ∀ q ∈ news, q.1 ≠ c.I → q ∈ news') (a : (c.I, ritO (i + 1) c.rs.length) ∈ news') : RowLed c news' (i + 1) k p b1 b2 := by
  obtain ⟨o, mo, ho⟩ := R.mld
  obtain ⟨t1, mc⟩ := R.mdc
  refine ⟨R.im.keep N [(c.I, ritO i c.rs.length)] ?_ ?_, ⟨_, k1 _ mo (tne N mo R.mI ho.tag t_rit (by decide)), ho⟩, k1 _ R.mit (tne N R.mit R.mI t_lit t_rit (by decide)), ⟨_, k1 _ mc (tne N mc R.mI t_cyc t_rit (by decide))⟩, k1 _ R.mjd (tne N R.mjd R.mI t_join t_rit (by decide)), k1 _ R.midd (tne N R.midd R.mI t_join t_rit (by decide)), a⟩
  · intro q hq
    simp only [List.mem_cons, List.not_mem_nil, or_false] at hq
    rcases hq with rfl
    exact ⟨R.mI, by show (8 : Nat) ≠ 6; decide, by show (8 : Nat) ≠ 7; decide, .inr (.inr (.inr (.inl rfl)))⟩
  · exact fun q hq hn => k1 q hq (hn _ (.head _))
theorem RowLed.fin (R : RowLed c news i k p b1 b2) (N : News h₀ L h news) : RowIm c (offL c.I news) ∧ (∃ t1, (c.dc, cycD c.hi c.hp c.ti c.tk c.tp p t1) ∈ offL c.I news) ∧ (c.jd, joinD c.hi2 c.hp2 c.ti2 c.tk2 c.sep c.tsp b1) ∈ offL c.I news := by
  obtain ⟨t1, mc⟩ := R.mdc
  have k1 : ∀ q ∈ news, q.1 ≠ c.I → q ∈ offL c.I news := fun q hq hn => offL_mem (x := q.1) (o := q.2) hq hn
  refine ⟨R.im.keep N [(c.I, ritO i c.rs.length)] ?_ ?_, ⟨_, k1 _ mc (tne N mc R.mI t_cyc t_rit (by decide))⟩, k1 _ R.mjd (tne N R.mjd R.mI t_join t_rit (by decide))⟩
  · intro q hq
    simp only [List.mem_cons, List.not_mem_nil, or_false] at hq
    rcases hq with rfl
    exact ⟨R.mI, by show (8 : Nat) ≠ 6; decide, by show (8 : Nat) ≠ 7; decide, .inr (.inr (.inr (.inl rfl)))⟩
  · exact fun q hq hn => k1 q hq (hn _ (.head _))
theorem News.out {d : Addr} {o : Obj} {l : List (Addr × Obj)} (N : News h₀ L h l) (m : (d, o) ∈ l) : News h₀ L h ((d, o) :: offL d l) := fun q hq => by
  rcases List.mem_cons.mp hq with rfl | hq
  · exact N _ m
  · exact N _ (List.mem_filter.mp hq).1
theorem offL_in {d : Addr} {l : List (Addr × Obj)} : ∀ q ∈ l, q.1 ≠ d → q ∈ offL d l := fun q hq hn => offL_mem (x := q.1) (o := q.2) hq hn
end
section
variable {w : World} {mean : ExcName → Option Value} {mg mb : Str → Option Value} {dp un : Nat} {gd : Option (List Code)} {cn : Str} {cs : Scope} {a : Addr} {ccd : Value} {cl : List (Str × Addr)} {outer : List Env} {A₀ : Around} {base h₀ : Heap} {L : Addr} {m : Str → Option Value} {s : Shared} {Q E : Value → Shared → Prop} {news rest : List (Addr × Obj)}
variable {c : RowC} {us : List Str} {i k : Nat} {p : Int} {b1 b2 : Bool} {x : Value}
theorem r_step
   (B : Below A₀ base outer h₀) (F : Fr h₀ L s.heap m) (X : (hd.heap_39 w.params).In h₀) (T : TopF mean mg mb h₀) (hk : cs.kind = .function)
   (N : News h₀ L s.heap news) (R : RowLed c news i k p b1 b2) (hx : c.rs[k]? = some x) (hh : handedIn x = true)
   (hd : dp + 3 < recursionLimit) (hu : un + 8 < cLine)
   (ret : ∀ h' tk' t' news', Fr h₀ L h' m → News h₀ L h' news' → (t', tupOf [x, .ref c.lo].toArray 0) ∈ news' → RowLed c news' i (k + 1) p b1 b2 → Q (.ref t') { s with heap := h', toks := tk' }) :
   wpAny (model (RowW.prog (OpenRow.toRowW (OpenLaw.row PySem.Challenge.rw_bw0014_01))) w) (ktrTop dp un gd cn cs L a ccd cl outer) (call (.ref 353) [.ref c.lo]) Q E s := by
  obtain ⟨o, mo, ho⟩ := R.mld
  have n1 : c.ld ≠ c.it := tne N mo R.mit ho.tag t_lit (by decide)
  have hin : ∀ q ∈ news, q.1 ≠ c.ld → q.1 ≠ c.it → q ∈ offL c.it (offL c.ld news) := fun q hq h1 h2 => offL_in _ (offL_in _ hq h1) h2
  have N1 : News h₀ L s.heap ((c.ld, o) :: (c.it, litO c.row k) :: offL c.it (offL c.ld news)) := fun q hq => N q (by
    simp only [List.mem_cons] at hq
    rcases hq with rfl | rfl | hq
    · exact mo
    · exact R.mit
    · exact (List.mem_filter.mp (List.mem_filter.mp hq).1).1)
  refine c_step0 B F X T hk N1 ho (hin _ R.im.mlo (tne N R.im.mlo mo t_inst ho.tag (by decide)) (tne N R.im.mlo R.mit t_inst t_lit (by decide))) (hin _ R.im.mrow (tne N R.im.mrow mo t_list ho.tag (by decide)) (tne N R.im.mrow R.mit t_list t_lit (by decide))) n1 (fun q hq => offL_off q (List.mem_filter.mp hq).1) offL_off (by simpa using hx) hh hd hu fun h' tk' t' o' F' N' ho' hl => ?_
  exact ret _ _ _ _ F' N' (.head _) (R.step N (fun q hq h1 h2 => .tail _ (.tail _ (.tail _ (hin q hq h1 h2)))) (.tail _ (.head _)) ho' (.tail _ (.tail _ (.head _))))
theorem r_cycleC
   (B : Below A₀ base outer h₀) (F : Fr h₀ L s.heap m) (X : (hd.heap_39 w.params).In h₀) (T : TopF mean mg mb h₀) (hk : cs.kind = .function)
   (N : News h₀ L s.heap news) (R : RowLed c news i (k + 1) p b1 b2) (hs : StrsAre c.vs us) (h0 : 0 < us.length) (hw : us.length ≤ 4)
   (hd : dp + 3 < recursionLimit) (hu : un + 8 < cLine)
   (ret : ∀ h' tk' t1, Fr h₀ L h' m → News h₀ L h' news → Q (.str (us.getD (k % us.length) Str.empty) t1) { s with heap := h', toks := tk' }) :
   codeAny (model (RowW.prog (OpenRow.toRowW (OpenLaw.row PySem.Challenge.rw_bw0014_01))) w) (ktrTop dp un gd cn cs L a ccd cl outer) (.call (.ref 304) ⟨.ref c.lo :: c.vs, []⟩) (fun r s' => match r with | .ok (.ret v) => Q v s' | .ok _ => False | .error e => E e s') s := by
  obtain ⟨o, mo, ho⟩ := R.mld
  exact c_cycleC B F X T hk N ho R.im.mlo mo hs h0 hw hd hu ret
theorem r_next
   (B : Below A₀ base outer h₀) (F : Fr h₀ L s.heap m) (X : (hd.heap_39 w.params).In h₀) (T : TopF mean mg mb h₀) (hk : cs.kind = .function)
   (N : News h₀ L s.heap news) (R : RowLed c news i k p b1 b2) (hs : StrsAre c.vs us) (h0 : 0 ≤ p) (h1 : p < us.length) (hw : us.length ≤ 4)
   (hd : dp + 3 < recursionLimit) (hu : un + 8 < cLine)
   (ret : ∀ h' tk' t2 news', Fr h₀ L h' m → News h₀ L h' news' → RowLed c news' i k (Int.fmod (p + 1) us.length) b1 b2 → Q (.str (us.getD p.toNat Str.empty) t2) { s with heap := h', toks := tk' }) :
   wpAny (model (RowW.prog (OpenRow.toRowW (OpenLaw.row PySem.Challenge.rw_bw0014_01))) w) (ktrTop dp un gd cn cs L a ccd cl outer) (call (.ref 87) [.ref c.cy]) Q E s := by
  obtain ⟨t1, mc⟩ := R.mdc
  refine c_next0 B F X T hk (News.out N mc) (offL_mem R.im.mcy (tne N R.im.mcy mc t_inst t_cyc (by decide))) (offL_mem R.im.mtp (tne N R.im.mtp mc t_tup t_cyc (by decide))) offL_off hs h0 h1 hw (by omega) hu fun h' tk' t1 t2 F' N' => ?_
  exact ret _ _ _ _ F' N' (R.next N (fun q hq h1 => .tail _ (offL_in q hq h1)) (.head _))
theorem r_join
   (B : Below A₀ base outer h₀) (F : Fr h₀ L s.heap m) (X : (hd.heap_39 w.params).In h₀) (T : TopF mean mg mb h₀) (hk : cs.kind = .function)
   (N : News h₀ L s.heap news) (R : RowLed c news i k p b1 b2)
   (hd : dp + 3 < recursionLimit) (hu : un + 8 < cLine)
   (ret : ∀ h' tk' t2 news', Fr h₀ L h' m → News h₀ L h' news' → RowLed c news' i k p true b2 → Q (.str (if b1 then c.sep else Str.ofString "") t2) { s with heap := h', toks := tk' }) :
   wpAny (model (RowW.prog (OpenRow.toRowW (OpenLaw.row PySem.Challenge.rw_bw0014_01))) w) (ktrTop dp un gd cn cs L a ccd cl outer) (call (.ref c.jo) []) Q E s := by
  refine c_join0 B F X T hk (News.out N R.mjd) (offL_mem R.im.mjo (tne N R.im.mjo R.mjd t_inst t_join (by decide))) offL_off (by omega) hu fun h' tk' t1 F' N' => ?_
  exact ret _ _ _ _ F' N' (R.join N (fun q hq h1 => .tail _ (offL_in q hq h1)) (.head _))
theorem r_inner
   (B : Below A₀ base outer h₀) (F : Fr h₀ L s.heap m) (X : (hd.heap_39 w.params).In h₀) (T : TopF mean mg mb h₀) (hk : cs.kind = .function)
   (N : News h₀ L s.heap news) (R : RowLed c news i k p b1 b2)
   (hd : dp + 3 < recursionLimit) (hu : un + 8 < cLine)
   (ret : ∀ h' tk' t2 news', Fr h₀ L h' m → News h₀ L h' news' → RowLed c news' i k p b1 true → Q (.str (if b2 then (Str.ofString ", ") else Str.ofString "") t2) { s with heap := h', toks := tk' }) :
   wpAny (model (RowW.prog (OpenRow.toRowW (OpenLaw.row PySem.Challenge.rw_bw0014_01))) w) (ktrTop dp un gd cn cs L a ccd cl outer) (call (.ref c.io) []) Q E s := by
  refine c_join0 B F X T hk (News.out N R.midd) (offL_mem R.im.mio (tne N R.im.mio R.midd t_inst t_join (by decide))) offL_off (by omega) hu fun h' tk' t1 F' N' => ?_
  exact ret _ _ _ _ F' N' (R.inner N (fun q hq h1 => .tail _ (offL_in q hq h1)) (.head _))
end
end Mine
end
-- part L0
section
open PySem PySem.W PyProof.Rows PySem.Calls
set_option Elab.async false
set_option maxRecDepth 100000
set_option maxHeartbeats 8000000
namespace Mine

section
variable {prog : Program} {w : World} {A : Around} {E : Value → Shared → Prop} {s : Shared} {h₀ : Heap} {L a : Addr} {m : Str → Option Value} {cn : Str} {cs : Scope} {ccd : Value}
theorem g_ForRange {x : Str} {px : Pos} {iter : PySem.Expr} {body : List Stmt} {pos : Pos} {Q : Flow → Shared → Prop}
    (F₀ : Fr h₀ L s.heap m) (hh : A.handled = none) (hx : (envOf cn cs L a ccd).kindOf x = some .local) (hk : cs.kind = .function)
    (hs : ∀ x, foldedSetIterable iter (envOf cn cs L a ccd) x = pure x)
    (hE : PassesOwn (model prog w) A (envOf cn cs L a ccd) E)
    (h : wpAny (model prog w) A (eval iter (envOf cn cs L a ccd)) (fun v s₁ => ∃ (r : Addr) (t u v' : Tok) (n : Nat) (m₁ : Str → Option Value) (news : List (Addr × Obj)) (J : Addr → Nat → (Str → Option Value) → List (Addr × Obj) → Prop),
      v = .ref r ∧ IsRange s₁.heap r 0 (n : Int) 1 t u v' ∧ Fr h₀ L s₁.heap m₁ ∧ News h₀ L s₁.heap news ∧ n ≤ 1000 ∧
      ∀ I, (∀ p ∈ news, @LT.lt Nat _ p.1 I) → J I 0 m₁ ((I, ritO 0 n) :: news) ∧
        (∀ i h tk m news', i < n → J I i m news' → News h₀ L h news' → (I, ritO i n) ∈ news' → ∀ h', Fr h₀ L h' (fun y => if y = x then some (.int (i : Int) tk) else m y) → News h₀ L h' ((I, ritO (i + 1) n) :: offL I news') →
          wpAny (model prog w) A (execs body (envOf cn cs L a ccd)) (fun f s₃ => Hold (f = .next ∧ ∃ h3 tk3 m3 news3, s₃ = { s₁ with heap := h3, toks := tk3 } ∧ Fr h₀ L h3 m3 ∧ News h₀ L h3 news3 ∧ (I, ritO (i + 1) n) ∈ news3 ∧ J I (i + 1) m3 news3)) E { s₁ with heap := h', toks := tk + 1 + 1 }) ∧
        (∀ h tk m news', J I n m news' → (∃ h0, News h₀ L h0 news') → Fr h₀ L h m → News h₀ L h (offL I news') → Q .next { s₁ with heap := h, toks := tk })) E s) :
    wpAny (model prog w) A (exec (.For (.Name x px) iter body [] pos) (envOf cn cs L a ccd)) Q E s := by
  refine wpAny_For (wpAny_mono h (fun v s₁ h₁ => ?_) fun _ _ e => e) hs
  obtain ⟨r, t, u, v', n, m₁, news, J, rfl, hr, F, N, hn, hJ⟩ := h₁
  refine wpAny_pyIter_range hr (small_one (by omega) (by omega) (by omega) (by omega)) ?_
  have hsz : Builtin.Range.rangeSize 0 (n : Int) 1 = (n : Int) := by rw [rangeSize_nat]; omega
  rw [hsz]
  have F1 := F.push (ritO 0 n)
  have N1 := N.push F (ritO 0 n) rfl
  have hlt : ∀ p ∈ news, @LT.lt Nat _ p.1 s₁.heap.objs.size := fun p hp => Heap.lt_size (N p hp).1
  have eR : ({ cls := .type "range_iterator", data := .fields #[rawInt 0, rawInt (n : Int), rawInt 1] } : Obj) = ritO 0 n := by
    simp [ritO]
  rw [eR]
  generalize s₁.heap.objs.size = I at N1 hlt ⊢
  obtain ⟨hJ0, turn, done⟩ := hJ I hlt
  refine codeAny_forLoop_any (fun k s' => ∃ i h tk m news', k = n - i ∧ i ≤ n ∧ s' = { s₁ with heap := h, toks := tk } ∧ Fr h₀ L h m ∧ News h₀ L h news' ∧ (I, ritO i n) ∈ news' ∧ J I i m news') ?_ n
    ⟨0, _, _, _, _, rfl, Nat.zero_le _, rfl, F1, N1, .head _, hJ0⟩
  rintro k s' ⟨i, h, tk, m', news', rfl, hi, rfl, F2, N2, mI, hJi⟩
  have hI := N2 _ mI
  rcases Nat.lt_or_ge i n with hlt | hge
  · refine wpAny_pyNext_range_item hI.1 (by omega) fun h1 hit1 hs1 => ?_
    refine wpAny_of_eq (a := ()) rfl ?_
    have F3 := F2.change hs1 hI.2.1 hI.2.2
    have e1 : (0 + (i : Int) * 1 : Int) = (i : Int) := by omega
    rw [e1]
    refine wpAny_assign_Name (wpAny_storeName_local hx F3.ns (fun h2 hn2 hs2 => ?_) (by rw [show (envOf cn cs L a ccd).scope.kind = cs.kind from rfl, hk]; rfl))
    have N3 : News h₀ L h1 ((I, ritO (i + 1) n) :: offL I news') := fun q hq => by
      rcases List.mem_cons.mp hq with rfl | hq
      · refine ⟨?_, hI.2⟩
        have ea : (0 + (i : Int) * 1 + 1 : Int) = 0 + ((i + 1 : Nat) : Int) * 1 := by omega
        have eb : ((n : Int) - (i : Int) - 1 : Int) = (n : Int) - ((i + 1 : Nat) : Int) := by omega
        have z : IsRangeIter h1 I (0 + (i : Int) * 1 + 1) ((n : Int) - (i : Int) - 1) 1 := hit1
        rw [ea, eb] at z
        exact z
      · have hq' := List.mem_filter.mp hq
        have hne : q.1 ≠ I := by simpa using hq'.2
        exact ⟨(hs1.2 _ hne).trans (N2 q hq'.1).1, (N2 q hq'.1).2⟩
    have F4 := F3.set hn2 hs2
    have N4 : News h₀ L h2 ((I, ritO (i + 1) n) :: offL I news') := fun q hq => ⟨(hs2.2 _ (N3 q hq).2.1).trans (N3 q hq).1, (N3 q hq).2⟩
    refine wpAny_passesOwn hE (wpAny_mono (turn i h tk m' news' hlt hJi N2 mI h2 F4 N4) (fun f s₃ h₃ => ?_) fun _ _ e => e)
    · obtain ⟨rfl, h3, tk3, m3, news3, rfl, F5, N5, mI3, hJ3⟩ := h₃
      exact ⟨n - (i + 1), by omega, i + 1, h3, tk3, m3, news3, rfl, hlt, rfl, F5, N5, mI3, hJ3⟩
  · have hin : i = n := by omega
    subst hin
    refine wpAny_pyNext_range_end hh hI.1 (by omega) fun h1 he1 => wpAny_execs_nil ?_
    refine done h1 tk m' news' hJi ⟨_, N2⟩ ⟨F2.ns.at' fun o e => he1 _ o (Ne.symm hI.2.1) e, fun b o e => he1 b o (fun q => by rw [q, hI.2.2] at e; cases e) (F2.keep b o e), F2.above⟩ fun q hq => ?_
    have hq' := List.mem_filter.mp hq
    have hne : q.1 ≠ I := by simpa using hq'.2
    exact ⟨he1 _ _ hne (N2 q hq'.1).1, (N2 q hq'.1).2⟩
end
section
variable {M : Model} {A : Around} {E : Value → Shared → Prop} {s : Shared} {env : Env}
theorem MethodCallStar {o : PySem.Expr} {name : Str} {apos pos : Pos} {args : List PySem.Expr} {Q : Value → Shared → Prop}
    (h : wpAny M A (eval o env) (fun ov s₁ => wpAny M A (getAttr ov name true) (fun f s₂ => wpAny M A (callWith pos f [] (backTo pos (starEach args env)) []) Q E s₂) E s₁) E s)
    (he : eval (.Call (.Attribute o name apos) args [] pos) env = (do
      let ov ← eval o env
      standAt apos.atName
      let fx ← holding [ov] (do pure (← getAttr ov name true, ([] : List Value)))
      callWith pos fx.1 fx.2 (backTo pos (starEach args env)) [])) :
    wpAny M A (eval (.Call (.Attribute o name apos) args [] pos) env) Q E s := by
  rw [he]
  refine wpAny_bind (wpAny_mono h (fun ov s₁ h₁ => wpAny_bind (wpAny_standAt (wpAny_bind (wpAny_holding (wpAny_bind (wpAny_mono h₁ (fun f s₂ h₂ => wpAny_pure ?_) fun _ _ x => x)))))) fun _ _ x => x)
  exact h₂
theorem callWith_SM {K : Frag} {h₀ : Heap} {L : Addr} {news : List (Addr × Obj)} {q g : Addr} {self : Value} {e : PySem.Expr} {pos p : Pos} {Q : Value → Shared → Prop} (_X : K.In h₀) (_N : News h₀ L s.heap news) (_q : (q, methodObj (.ref g) self) ∈ news) (hf : fnIn K g = true)
    (h : wpAny M A (eval e env) (fun v s₁ => StarOf M A E v (fun vs s₂ => MethP K q g self s₂.heap ∧ wpAny M A (call (.ref q) ([] ++ vs)) Q E s₂) s₁) E s)
    (he : starEach [.Starred e p] env = [(true, eval e env)] := by rfl) :
    wpAny M A (callWith pos (.ref q) [] (backTo pos (starEach [.Starred e p] env)) []) Q E s := by
  rw [he]
  exact ks_call rfl (keeps_M hf) (ks_lone h)
end
end Mine
end
-- part X0
section
open PySem PySem.W PyProof.Rows PySem.Calls
set_option Elab.async false
set_option maxRecDepth 100000
set_option maxHeartbeats 8000000
namespace Mine

open PySem.SeqAt
theorem chunk_get {n : Nat} (hn : 0 < n) : ∀ (vs cur : List Value), cur.length ≤ n → ∀ i, i < (cur ++ vs).length → ∃ ch, (chunkGo n cur vs)[i / n]? = some ch ∧ ch[i % n]? = (cur ++ vs)[i]? := by
  intro vs
  induction vs with
  | nil =>
    intro cur hc i hi
    rw [List.append_nil] at hi ⊢
    have hne : cur ≠ [] := fun q => by rw [q] at hi; exact absurd hi (Nat.not_lt_zero _)
    have hin : i < n := Nat.lt_of_lt_of_le hi hc
    refine ⟨cur, ?_, ?_⟩
    · rw [chunkGo, if_neg hne, Nat.div_eq_of_lt hin]; rfl
    · rw [Nat.mod_eq_of_lt hin]
  | cons y ys ih =>
    intro cur hc i hi
    rw [chunkGo]
    by_cases e : cur.length = n
    · rw [if_pos e]
      rcases Nat.lt_or_ge i n with hin | hin
      · refine ⟨cur, ?_, ?_⟩
        · rw [Nat.div_eq_of_lt hin]; rfl
        · rw [Nat.mod_eq_of_lt hin, List.getElem?_append_left (by omega)]
      · obtain ⟨i', rfl⟩ : ∃ i', i = i' + n := ⟨i - n, by omega⟩
        obtain ⟨ch, h1, h2⟩ := ih [y] hn i' (by simp only [List.length_append, List.length_cons, List.length_nil] at hi ⊢; omega)
        refine ⟨ch, ?_, ?_⟩
        · rw [Nat.add_div_right _ hn]; exact h1
        · have e3 : (cur ++ y :: ys)[i' + n]? = (y :: ys)[i' + n - cur.length]? := List.getElem?_append_right (by omega)
          have e2 : i' + n - cur.length = i' := by omega
          rw [Nat.add_mod_right, h2, e3, e2]; rfl
    · rw [if_neg e]
      have e2 : cur ++ y :: ys = (cur ++ [y]) ++ ys := by simp
      rw [e2] at hi ⊢
      exact ih (cur ++ [y]) (by simp only [List.length_append, List.length_singleton]; omega) i hi
theorem chunk_sum {n : Nat} : ∀ (vs cur : List Value), ((chunkGo n cur vs).map List.length).sum = (cur ++ vs).length := by
  intro vs
  induction vs with
  | nil =>
    intro cur
    rw [chunkGo]
    by_cases e : cur = []
    · rw [if_pos e, e]; rfl
    · rw [if_neg e]; simp
  | cons y ys ih =>
    intro cur
    rw [chunkGo]
    by_cases e : cur.length = n
    · rw [if_pos e, List.map_cons, List.sum_cons, ih]; simp
    · rw [if_neg e, ih]; simp
theorem chunk_count {n : Nat} (hn : 0 < n) : ∀ (vs cur : List Value), (chunkGo n cur vs).length ≤ (cur ++ vs).length := by
  intro vs
  induction vs with
  | nil =>
    intro cur
    rw [chunkGo, List.append_nil]
    by_cases e : cur = []
    · rw [if_pos e]; exact Nat.zero_le _
    · rw [if_neg e]
      cases cur with
      | nil => exact absurd rfl e
      | cons a r => simp
  | cons y ys ih =>
    intro cur
    rw [chunkGo]
    by_cases e : cur.length = n
    · rw [if_pos e, List.length_cons]
      have := ih [y]
      simp only [List.length_append, List.length_cons, List.length_nil] at this ⊢
      omega
    · rw [if_neg e]
      have := ih (cur ++ [y])
      simp only [List.length_append, List.length_cons, List.length_nil] at this ⊢
      omega
theorem chunk_le {n : Nat} (hn : 0 < n) : ∀ (vs cur : List Value), cur.length ≤ n → ∀ c ∈ chunkGo n cur vs, c.length ≤ n := by
  intro vs
  induction vs with
  | nil =>
    intro cur hc c h
    rw [chunkGo] at h
    by_cases e : cur = []
    · rw [if_pos e] at h; cases h
    · rw [if_neg e] at h; rw [List.mem_singleton.mp h]; exact hc
  | cons y ys ih =>
    intro cur hc c h
    rw [chunkGo] at h
    by_cases e : cur.length = n
    · rw [if_pos e] at h
      rcases List.mem_cons.mp h with rfl | h
      · exact hc
      · exact ih [y] hn c h
    · rw [if_neg e] at h
      exact ih (cur ++ [y]) (by simp only [List.length_append, List.length_singleton]; omega) c h
theorem fd_nat (a n : Nat) : Int.fdiv (a : Int) (n : Int) = ((a / n : Nat) : Int) := by
  rw [Int.fdiv_eq_ediv_of_nonneg _ (Int.natCast_nonneg n)]; rfl
theorem num_len {n : Int} (h : 0 ≤ n ∧ n < 5) : (Str.ofString (toString n)).length ≤ 10 := PySem.W.KT.len_num h.1 (by omega)
theorem txt_len {sep : Str} {b : Bool} {ns : List Int} (hs : sep.length ≤ 4) (hb : ∀ k, 0 ≤ ns.getD k 0 ∧ ns.getD k 0 < 5) : ∀ k, (txt sep b ns k).length ≤ 14 * k := by
  intro k
  induction k with
  | zero => show (Str.ofString "").length ≤ 0; decide
  | succ k ih =>
    have h1 := num_len (hb k)
    have h2 : (if b || decide (0 < k) then sep else Str.ofString "").length ≤ 4 := by
      split
      · exact hs
      · show (Str.ofString "").length ≤ 4; decide
    show (txt sep b ns k ++ ((if b || decide (0 < k) then sep else Str.ofString "") ++ Str.ofString (toString (ns.getD k 0)))).length ≤ _
    rw [Str.length_append, Str.length_append]
    omega
theorem txt_fit {sep : Str} {b : Bool} {ns : List Int} (hs : sep.length ≤ 4) (hb : ∀ k, 0 ≤ ns.getD k 0 ∧ ns.getD k 0 < 5) (i : Nat) (hi : i ≤ 100) :
    (if (b || decide (0 < i)) = true then sep else Str.ofString "").length + (Str.ofString (toString (ns.getD i 0))).length ≤ sizeLine ∧
    (txt sep b ns i).length + ((if (b || decide (0 < i)) = true then sep else Str.ofString "") ++ Str.ofString (toString (ns.getD i 0))).length ≤ sizeLine := by
  have h1 := num_len (hb i)
  have h2 : (if (b || decide (0 < i)) = true then sep else Str.ofString "").length ≤ 4 := by
    split
    · exact hs
    · show (Str.ofString "").length ≤ 4; decide
  have h3 := txt_len (b := b) hs hb i
  rw [sizeLine_eq, Str.length_append]
  constructor <;> omega
theorem mod_zero_iff {c i n : Nat} (hn : 0 < n) : (c + i) % n = i % n ↔ c % n = 0 := by
  rw [Nat.add_mod]
  have h1 := Nat.mod_lt c hn
  have h2 := Nat.mod_lt i hn
  generalize c % n = a at *
  generalize i % n = r at *
  constructor
  · intro h
    rcases Nat.lt_or_ge (a + r) n with q | q
    · rw [Nat.mod_eq_of_lt q] at h; omega
    · rw [Nat.mod_eq_sub_mod q, Nat.mod_eq_of_lt (by omega)] at h; omega
  · intro h
    rw [h, Nat.zero_add, Nat.mod_eq_of_lt h2]
theorem getD_inj {us : List Str} (hnd : us.Nodup) {a b : Nat} (ha : a < us.length) (hb : b < us.length) : (us.getD a Str.empty == us.getD b Str.empty) = decide (a = b) := by
  by_cases q : a = b
  · subst q; simp
  · rw [decide_eq_false q]
    refine beq_eq_false_iff_ne.mpr fun e2 => ?_
    rw [List.getD_eq_getElem?_getD, List.getD_eq_getElem?_getD, List.getElem?_eq_getElem ha, List.getElem?_eq_getElem hb] at e2
    have z := List.pairwise_iff_getElem.mp hnd
    rcases Nat.lt_or_gt_of_ne q with lt | gt
    · exact z a b ha hb lt e2
    · exact z b a hb ha gt e2.symm
theorem due_eq {us : List Str} (hnd : us.Nodup) (h0 : 0 < us.length) (c i : Nat) :
    (us.getD (Int.fmod ((c : Int) + (i : Int)) (us.length : Int)).toNat Str.empty == us.getD (Int.fmod (i : Int) (us.length : Int)).toNat Str.empty) = (Int.fmod (c : Int) (us.length : Int) == 0) := by
  have e1 : (c : Int) + (i : Int) = ((c + i : Nat) : Int) := by push_cast; rfl
  rw [e1, fm_nat, fm_nat, fm_nat, Int.toNat_natCast, Int.toNat_natCast, getD_inj hnd (Nat.mod_lt _ h0) (Nat.mod_lt _ h0)]
  have e2 : ((((c % us.length : Nat) : Int)) == 0) = decide (c % us.length = 0) := by
    by_cases q : c % us.length = 0
    · rw [q]; rfl
    · rw [decide_eq_false q]
      exact beq_eq_false_iff_ne.mpr (by omega)
  rw [e2]
  exact decide_eq_decide.mpr (mod_zero_iff h0)
theorem fm_step (c i n : Nat) : Int.fmod (Int.fmod ((c : Int) + (i : Int)) (n : Int) + 1) (n : Int) = Int.fmod ((c : Int) + ((i + 1 : Nat) : Int)) (n : Int) := by
  have e1 : (c : Int) + (i : Int) = ((c + i : Nat) : Int) := by push_cast; rfl
  have e2 : (c : Int) + ((i + 1 : Nat) : Int) = ((c + i + 1 : Nat) : Int) := by push_cast; omega
  rw [e1, e2, fm_nat, fm_nat]
  have e3 : (((c + i) % n : Nat) : Int) + 1 = (((c + i) % n + 1 : Nat) : Int) := by push_cast; rfl
  rw [e3, fm_nat, Nat.mod_add_mod]
section
variable {prog : Program} {w : World} {A : Around} {E : Value → Shared → Prop} {s : Shared} {Q : Value → Shared → Prop}
theorem x_item {value slice : PySem.Expr} {l : Addr} {vs : List Value} {i : Int} {u : Tok} {x : Value} (hl : s.heap.IsList l vs.toArray) (h0 : 0 ≤ i) (hfit : i < 2 ^ 63) (hx : vs[i.toNat]? = some x) (h : Q x s)
    (hs : subscripted slice false (.ref l) (.int i u) = operate [.ref l, .int i u] (getItem (.ref l) (.int i u)) := by with_unfolding_all rfl) :
    wpAny (model prog w) A (subscriptTail value slice (.ref l) (.int i u)) Q E s :=
  tail_any hl.typeIs slot_list_getitem.lookup (wpAny_getItem_list hl h0 hfit (x := x) (by simpa using hx) h) hs
theorem x_ne_str {x y : Str} {t u : Tok} (e : x = y) (h : Q (.bool false) s) : wpAny (model prog w) A (compareOp .NotEq (.str x t) (.str y u)) Q E s :=
  P.ne_str (by rw [e]; simpa using h)
theorem x_ne_int {x y : Int} {t u : Tok} (e : x = y) (h : Q (.bool false) s) : wpAny (model prog w) A (compareOp .NotEq (.int x t) (.int y u)) Q E s :=
  P.ne_int (by rw [e]; simpa using h)
theorem x_ne_bool {x y : Bool} (e : x = y) (h : Q (.bool false) s) : wpAny (model prog w) A (compareOp .NotEq (.bool x) (.bool y)) Q E s :=
  ne_bool (by rw [e]; simpa using h)
def isTx (x : Str) : Value → Bool
  | .str y _ => y.cps.toList == x.cps.toList
  | _ => false
theorem strs_at {vs : List Value} {us : List Str} (h : StrsAre vs us) : ∀ (k : Nat), k < vs.length → ∃ t, vs[k]? = some (.str (us.getD k Str.empty) t) := by
  induction h with
  | nil => intro k hk; exact absurd hk (Nat.not_lt_zero _)
  | cons n t r ih =>
    intro k hk
    cases k with
    | zero => exact ⟨t, rfl⟩
    | succ k => exact ih k (by simpa using hk)
theorem x_index {l : Addr} {vs : List Value} {us : List Str} {t : Tok} (j : Nat) (hl : s.heap.IsList l vs.toArray) (hi : StrsAre vs us) (hj : j < us.length) (hnd : us.Nodup) (hw : us.length ≤ 4)
    (h : Q (.int ((j : Nat) : Int) s.toks) { s with toks := s.toks + 1 }) : wpAny (model prog w) A (call (.builtin "list.index") [.ref l, .str (us.getD j Str.empty) t]) Q E s := by
  obtain ⟨⟨cls, dd, data, sl⟩, ho, hc, n, hd⟩ := id hl
  simp only at hc hd
  subst hc hd
  have hlen := hi.length
  have hgive : ∀ y, y ∈ vs → EqAt A.in1 s y (.str (us.getD j Str.empty) t) (isTx (us.getD j Str.empty) y) := fun y hy => by
    obtain ⟨k, hk, rfl⟩ := List.mem_iff_getElem.mp hy
    obtain ⟨tk, e⟩ := strs_at hi k hk
    have e' : vs[k] = .str (us.getD k Str.empty) tk := by
      rw [List.getElem?_eq_getElem hk] at e; exact Option.some.inj e
    rw [e']
    exact (SeqRoads2.EqGives.str _ _ _ _).at _ _
  have hat : ∀ m (hm : m < vs.toArray.size), isTx (us.getD j Str.empty) vs.toArray[m] = decide (m = j) := fun m hm => by
    have hm' : m < vs.length := by simpa using hm
    obtain ⟨tk, e⟩ := strs_at hi m hm'
    have e' : vs[m] = .str (us.getD m Str.empty) tk := by
      rw [List.getElem?_eq_getElem hm'] at e; exact Option.some.inj e
    show isTx _ vs[m] = _
    rw [e']
    show ((us.getD m Str.empty).cps.toList == (us.getD j Str.empty).cps.toList) = _
    by_cases q : m = j
    · subst q; simp
    · have hm2 : m < us.length := by omega
      rw [decide_eq_false q]
      have hne : us.getD m Str.empty ≠ us.getD j Str.empty := fun e2 => q (by
        rw [List.getD_eq_getElem?_getD, List.getD_eq_getElem?_getD, List.getElem?_eq_getElem hm2, List.getElem?_eq_getElem hj] at e2
        have z := List.pairwise_iff_getElem.mp hnd
        rcases Nat.lt_or_gt_of_ne q with lt | gt
        · exact absurd e2 (z m j hm2 hj lt)
        · exact absurd e2.symm (z j m hj hm2 gt))
      refine beq_eq_false_iff_ne.mpr fun e3 => hne ?_
      have e4 : (us.getD m Str.empty).cps = (us.getD j Str.empty).cps := Array.toList_inj.mp e3
      exact congrArg Str.mk e4
  refine call_meets PySem.F.slot_list_index ⟨_, ho, rfl⟩ PySem.F.entry_list_index (PySem.F.args_list_index_2 _ _)
    (list_indexAt l vs.toArray n dd sl (.str (us.getD j Str.empty) t) (isTx (us.getD j Str.empty)) j (by simpa [hlen] using hj) (by omega) ?_ ?_) ⟨ho, fun y hy => hgive y (by simpa using hy), h⟩
  · rw [hat]; simp
  · intro m hm hlt
    rw [hat]; exact decide_eq_false (Nat.ne_of_lt hlt)
end
end Mine
end
-- part L1
section
open PySem PySem.W PyProof.Rows PySem.Calls
set_option Elab.async false
set_option maxRecDepth 100000
set_option maxHeartbeats 8000000
namespace Mine

section
variable {prog : Program} {w : World} {A : Around} {E : Value → Shared → Prop} {s : Shared} {h₀ : Heap} {L : Addr} {m : Str → Option Value} {env : Env}
theorem g_CompPureO {elt iter : PySem.Expr} {x : Str} {px : Pos} {scope : Scope} {pos : Pos} {Q : Value → Shared → Prop} (F₀ : Fr h₀ L s.heap m) (hh : A.handled = none)
    (hclos : closureFor scope env = pure []) (hcell : ∀ y ∈ scope.names, y.2 ≠ .cell) (hkind : scope.kind = .function)
    (hnames : ∀ y ∈ scope.names, y.2 = .local → scope.names.lookup y.1 = some .local) (hx : scope.names.lookup x = some .local) (hs : ∀ x, foldedSetIterable iter env x = pure x)
    (h : wpAny (model prog w) A (eval iter env) (fun v s₁ => Hold (∃ (ax : Addr) (its : Array Value) (k : Nat) (news : List (Addr × Obj)) (Rel : Nat → Value → Prop), v = .ref ax ∧ Fr h₀ L s₁.heap m ∧ News h₀ L s₁.heap news ∧ (ax, listOf its k) ∈ news ∧ its.size ≤ sizeLine ∧
      (∀ i v I oI C oC D m₂ ys h tk (E' : Value → Shared → Prop), its[i]? = some v → LCg.NsObj oC m₂ → m₂ x = some v → Fr h₀ L h m → News h₀ L h ((I, oI) :: (C, oC) :: (D, LCg.lst ys) :: news) →
        wpAny (model prog w) A (eval elt (compEnvC scope [] C env)) (fun y s₂ => Hold (Rel i y ∧ ∃ tk', s₂ = { s₁ with heap := h, toks := tk' })) E' { s₁ with heap := h, toks := tk }) ∧
      (∀ ys D h tk, ys.length = its.size → (∀ (i : Nat) (y : Value), ys[i]? = some y → Rel i y) → Fr h₀ L h m → News h₀ L h ((D, LCg.lst ys) :: news) → LCg.Off1 D news → Q (.ref D) { s₁ with heap := h, toks := tk }))) E s) :
    wpAny (model prog w) A (eval (.ListComp elt [⟨.Name x px, iter, [], 0⟩] scope pos) env) Q E s := by
  refine LCg.ListComp_U F₀ hclos hcell hkind hnames hx (wpAny_mono h (fun v s₁ h₁ => ?_) fun _ _ e => e) hs
  obtain ⟨ax, its, k, news, Rel, rfl, F, N, hm, hsz, elem, fin⟩ := h₁
  refine LCg.CompSrc.ledger hh F N hm hsz fun g => ?_
  have key : ∀ n i ys, i + n = its.size → ys.length = i → (∀ (j : Nat) (y : Value), ys[j]? = some y → Rel j y) →
      LCg.CompRest prog w A h₀ L m env elt x scope [] { s₁ with heap := g } (LCg.SrcAt h₀ ax its) (fun i v => its[i]? = some v) (LCg.FinE h₀ L m { s₁ with heap := g } Q) n i ys news := by
    intro n
    induction n with
    | zero =>
      intro i ys hi hy hr
      exact LCg.CompRest.zero fun D h tk F N off => fin ys D h tk (by omega) hr F N off
    | succ n ih =>
      intro i ys hi hy hr
      refine LCg.CompRest.succ ?_
      intro v I oI C oC D m₂ h tk E' hv hC hx F N off ne
      refine wpAny_mono (elem i v I oI C oC D m₂ ys h tk E' hv hC hx F N) (fun y s₂ hq => ?_) fun _ _ e => e
      obtain ⟨hry, tk', e⟩ := hq
      refine ⟨h, tk', news, e, F, N, off, .inr ⟨_, hm, rfl, _, rfl⟩, ih (i + 1) (ys ++ [y]) (by omega) (by simp [hy]) fun j z hz => ?_⟩
      rcases Nat.lt_or_ge j ys.length with q | q
      · rw [List.getElem?_append_left q] at hz; exact hr j z hz
      · rw [List.getElem?_append_right q] at hz
        have hj : j - ys.length = 0 := by
          rcases Nat.eq_zero_or_pos (j - ys.length) with h0 | h0
          · exact h0
          · rw [List.getElem?_eq_none (by simp; omega)] at hz; cases hz
        rw [hj] at hz
        have hz' : y = z := by simpa using hz
        have hji : j = i := by omega
        rw [← hz', hji]; exact hry
  exact key its.size 0 [] (by omega) rfl (fun j y hj => by simp at hj)
theorem g_CompPure {elt iter : PySem.Expr} {x : Str} {px : Pos} {scope : Scope} {pos : Pos} {Q : Value → Shared → Prop} (F₀ : Fr h₀ L s.heap m) (hh : A.handled = none)
    (hclos : closureFor scope env = pure []) (hcell : ∀ y ∈ scope.names, y.2 ≠ .cell) (hkind : scope.kind = .function)
    (hnames : ∀ y ∈ scope.names, y.2 = .local → scope.names.lookup y.1 = some .local) (hx : scope.names.lookup x = some .local) (hs : ∀ x, foldedSetIterable iter env x = pure x)
    (h : wpAny (model prog w) A (eval iter env) (fun v s₁ => Hold (∃ (ax : Addr) (its : Array Value) (k : Nat) (news : List (Addr × Obj)) (Rel : Nat → Value → Prop), v = .ref ax ∧ Fr h₀ L s₁.heap m ∧ News h₀ L s₁.heap news ∧ (ax, listOf its k) ∈ news ∧ its.size ≤ sizeLine ∧
      (∀ i v I oI C oC D m₂ ys h tk (E' : Value → Shared → Prop), its[i]? = some v → LCg.NsObj oC m₂ → m₂ x = some v → Fr h₀ L h m → News h₀ L h ((I, oI) :: (C, oC) :: (D, LCg.lst ys) :: news) →
        wpAny (model prog w) A (eval elt (compEnvC scope [] C env)) (fun y s₂ => Hold (Rel i y ∧ ∃ tk', s₂ = { s₁ with heap := h, toks := tk' })) E' { s₁ with heap := h, toks := tk }) ∧
      (∀ ys D h tk, ys.length = its.size → (∀ (i : Nat) (y : Value), ys[i]? = some y → Rel i y) → Fr h₀ L h m → News h₀ L h ((D, LCg.lst ys) :: news) → Q (.ref D) { s₁ with heap := h, toks := tk }))) E s) :
    wpAny (model prog w) A (eval (.ListComp elt [⟨.Name x px, iter, [], 0⟩] scope pos) env) Q E s := by
  refine g_CompPureO F₀ hh hclos hcell hkind hnames hx hs (wpAny_mono h (fun v s₁ h₁ => ?_) fun _ _ e => e)
  obtain ⟨ax, its, k, news, Rel, e, F, N, hm, hsz, elem, fin⟩ := h₁
  exact hold_in ⟨ax, its, k, news, Rel, e, F, N, hm, hsz, elem, fun ys D h tk a b F N _ => fin ys D h tk a b F N⟩
end
end Mine
end
-- part X1
section
open PySem PySem.W PyProof.Rows PySem.Calls
set_option Elab.async false
set_option maxRecDepth 100000
set_option maxHeartbeats 8000000
namespace Mine

abbrev num (n : Int) : Str := Str.ofString (toString n)
theorem strs_of {ns : List Int} : ∀ (ys : List Value), ys.length = ns.length → (∀ (i : Nat) (y : Value), ys[i]? = some y → ∃ t, y = .str (num (ns.getD i 0)) t) → StrsAre ys (ns.map num) := by
  induction ns with
  | nil =>
    intro ys h _
    cases ys with
    | nil => exact .nil
    | cons a r => simp at h
  | cons n r ih =>
    intro ys h hp
    cases ys with
    | nil => simp at h
    | cons a q =>
      obtain ⟨t, e⟩ := hp 0 a rfl
      rw [e]
      exact .cons _ _ (ih q (by simpa using h) fun i y hi => hp (i + 1) y hi)
theorem ints_of {ks : List Int} : ∀ (ys : List Value), ys.length = ks.length → (∀ (i : Nat) (y : Value), ys[i]? = some y → ∃ t, y = .int (ks.getD i 0) t) → IntsAre ys ks := by
  induction ks with
  | nil =>
    intro ys h _
    cases ys with
    | nil => exact .nil
    | cons a r => simp at h
  | cons n r ih =>
    intro ys h hp
    cases ys with
    | nil => simp at h
    | cons a q =>
      obtain ⟨t, e⟩ := hp 0 a rfl
      rw [e]
      exact .cons _ _ (ih q (by simpa using h) fun i y hi => hp (i + 1) y hi)
abbrev joined (sep : Str) (l : List Int) : Str := Txt.join sep (l.map num)
theorem joined_eq (sep : Str) (l : List Int) : joined sep l = Str.join sep (l.map num) := StrLaws.glued_eq_join sep _
theorem joined_snoc (sep : Str) (l : List Int) (x : Int) : joined sep (l ++ [x]) = if l = [] then num x else joined sep l ++ sep ++ num x := by
  rw [joined_eq, joined_eq, List.map_append, List.map_singleton, FinIter.join_snoc]
  cases l <;> simp
theorem txt_joined (sep : Str) (acc ns : List Int) : ∀ k, k ≤ ns.length → joined sep acc ++ txt sep (decide (acc ≠ [])) ns k = joined sep (acc ++ ns.take k) := by
  intro k
  induction k with
  | zero =>
    intro _
    show joined sep acc ++ Str.empty = _
    rw [Str.append_empty, List.take_zero, List.append_nil]
  | succ k ih =>
    intro hk
    have hlt : k < ns.length := hk
    have e1 : acc ++ ns.take (k + 1) = (acc ++ ns.take k) ++ [ns.getD k 0] := by
      rw [List.take_add_one, List.getElem?_eq_getElem hlt, List.append_assoc, List.getD_eq_getElem?_getD, List.getElem?_eq_getElem hlt]; rfl
    rw [e1, joined_snoc]
    show joined sep acc ++ (txt sep (decide (acc ≠ [])) ns k ++ ((if decide (acc ≠ []) || decide (0 < k) then sep else Str.ofString "") ++ num (ns.getD k 0))) = _
    rw [← Str.append_assoc, ih (by omega)]
    by_cases q : acc ++ ns.take k = []
    · have qa : acc = [] := (List.append_eq_nil_iff.mp q).1
      have qk : k = 0 := by
        have := congrArg List.length (List.append_eq_nil_iff.mp q).2
        rw [List.length_take] at this
        simp only [List.length_nil] at this
        omega
      rw [if_pos q, q, qa, qk]
      show Str.empty ++ (Str.empty ++ num _) = num _
      rw [Str.empty_append, Str.empty_append]
    · have hb : (decide (acc ≠ []) || decide (0 < k)) = true := by
        rw [Bool.or_eq_true]
        by_cases qa : acc = []
        · right
          refine decide_eq_true ?_
          rcases Nat.eq_zero_or_pos k with z | z
          · rw [qa, z] at q; exact absurd rfl q
          · exact z
        · left; exact decide_eq_true qa
      rw [if_neg q, hb, if_pos rfl, ← Str.append_assoc]
theorem txt_join (sep : Str) (ns : List Int) : txt sep false ns ns.length = joined sep ns := by
  have z := txt_joined sep [] ns ns.length (Nat.le_refl _)
  rw [List.take_length, List.nil_append] at z
  rw [← z]
  show _ = Str.empty ++ txt sep false ns ns.length
  rw [Str.empty_append]
theorem chunk_ints {n : Nat} (vs : List Value) : ((chunkGo n [] vs).map fun c => (c.length : Int)).sum = (vs.length : Int) := by
  have z := chunk_sum (n := n) vs []
  rw [List.nil_append] at z
  rw [← z]
  generalize chunkGo n [] vs = l
  induction l with
  | nil => rfl
  | cons a r ih => rw [List.map_cons, List.sum_cons, List.map_cons, List.sum_cons, ih]; push_cast; rfl
section
variable {prog : Program} {w : World} {A : Around} {E : Value → Shared → Prop} {s : Shared} {h₀ : Heap} {L : Addr} {m : Str → Option Value} {news : List (Addr × Obj)} {Q : Value → Shared → Prop}
theorem x_sum {l : Addr} {vs : List Value} {ks : List Int} (F : Fr h₀ L s.heap m) (N : News h₀ L s.heap news) (hh : A.handled = none) (hl : s.heap.IsList l vs.toArray) (hi : IntsAre vs ks)
    (h : ∀ h' tk t', Fr h₀ L h' m → News h₀ L h' news → Q (.int ks.sum t') { s with heap := h', toks := tk }) :
    wpAny (model prog w) A (call (.builtin "sum") [.ref l]) Q E s := by
  obtain ⟨xs, e⟩ := hi.allInts.items
  have hn : numsOf vs.toArray.toList = ks := hi.numsOf
  rw [e, nums_intItems] at hn
  rw [e] at hl
  refine sum_intListG hh hl fun h' tk t' hk => ?_
  have z := h h' tk t' (F.keeps hk) (News.grown N hk)
  rw [preSum_eq, List.take_of_length_le (by simp), hn]; exact z
theorem x_join {D : Addr} {ys : List Value} {ns : List Int} {x : Str} {t : Tok} (hl : s.heap.IsList D ys.toArray) (hi : StrsAre ys (ns.map num)) (hb : ∀ k, 0 ≤ ns.getD k 0 ∧ ns.getD k 0 < 5) (hn : ns.length ≤ 1000) (hx : x.length ≤ 4)
    (h : ∀ t' k, Q (.str (joined x ns) t') { s with toks := k }) : wpAny (model prog w) A (call (.builtin "str.join") [.str x t, .ref D]) Q E s := by
  refine join_madeW (g := num) (l := ns) 10 hl hi.carried (fun a ha => ?_) (by omega) (by omega) h
  obtain ⟨k, hk, rfl⟩ := List.mem_iff_getElem.mp ha
  have z := hb k
  rw [List.getD_eq_getElem?_getD, List.getElem?_eq_getElem hk] at z
  exact num_len z
end
end Mine
end
-- part CR
section
open PySem PySem.W PyProof.Rows PySem.Calls
set_option Elab.async false
set_option maxRecDepth 100000
set_option maxHeartbeats 8000000
namespace Mine

local macro_rules | `(tactic| k_room) => `(tactic| ktr_room)
local macro_rules | `(tactic| k_units) => `(tactic| ktr_units)
local macro_rules | `(tactic| k_mem) => `(tactic| assumption)
local macro_rules | `(tactic| k_all) => `(tactic| assumption)
local macro_rules | `(tactic| walk_at "subscriptTail") => `(tactic| (k_here; (with_reducible show wpAny _ _ (subscriptTail _ _ (Value.ref _) (Value.int _ _)) _ _ _); with_unfolding_all (first
  | (refine' KTb.item_tup ?t ?w ?a ?b ?f ?_; (case t => exact News.isTup (by k_asm) (by k_mem)); (case w => assumption); (case a => first | omega | exact fm_lo (by assumption)); (case b => first | omega | exact fm_hi (by assumption)); (case f => first | omega | exact fm_hi63 (by assumption) (by assumption)); k_whole)
  | (refine' KTb.item_list ?t ?w ?a ?b ?f ?_; (case t => exact News.isList (by k_asm) (by k_mem)); (case w => assumption); (case a => first | omega | exact fm_lo (by assumption)); (case b => first | omega | exact fm_hi (by assumption)); (case f => first | omega | exact fm_hi63 (by assumption) (by assumption)); k_whole)); intro _ _))
local macro_rules | `(tactic| walk_at "call builtin:len") => `(tactic| (k_here; (with_reducible show wpAny _ _ (call (Value.builtin "len") [Value.ref _]) _ _ _); k_dflt (first
  | (refine' kun_lenT ?k1 ?k2 ?k3 ?_; (case k1 => exact News.isTup (by k_asm) (by k_mem)); (case k2 => exact sz_strs (by assumption)); (case k3 => omega); k_whole)
  | (refine' kun_lenL ?k1 ?k2 ?k3 ?_; (case k1 => exact News.isList (by k_asm) (by k_mem)); (case k2 => exact sz_strs (by assumption)); (case k3 => omega); k_whole))))
local macro_rules | `(tactic| walk_at "call builtin:iter") => `(tactic| (k_here; (with_reducible show wpAny _ _ (call (Value.builtin "iter") [Value.ref _]) _ _ _); k_dflt (refine' x_iter ?k1 ?k2 ?k3 ?_; (case k1 => k_asm); (case k2 => k_asm); (case k3 => exact News.isList (by k_asm) (by k_mem)); k_whole); intro I' h' F' N' l1; (try k_lt l1); (try k_sweep)))
local macro_rules | `(tactic| walk_at "call builtin:next") => `(tactic| (k_here; (with_reducible show wpAny _ _ (call (Value.builtin "next") [Value.ref _]) _ _ _); k_dflt (refine' x_next ?k1 ?k2 ?k3 ?k4 ?k5 ?_; (case k1 => k_asm); (case k2 => k_asm); (case k3 => k_updF); (case k4 => exact News.isList (by k_asm) (by k_mem)); (case k5 => first | assumption | exact rfl); k_whole); intro h' F' N'; (try dsimp only at N'); (try k_sweep)))
local macro_rules | `(tactic| k_handed) => `(tactic| assumption)
local macro_rules | `(tactic| walk_at "truthy ref") => `(tactic| (k_here; k_dflt (refine' x_truthyT ?k1 ?k2 ?k3 ?k4 ?_; (case k1 => exact News.isTup (by k_asm) (by k_mem)); (case k2 => assumption); (case k3 => assumption); (case k4 => assumption); k_whole); intro _))

local macro_rules | `(tactic| k_mem) => `(tactic| (with_reducible (repeat (first | assumption | exact List.mem_append_right _ (by assumption) | exact List.mem_cons_self | refine List.mem_cons_of_mem _ ?_)); done))

set_option hygiene false in
local macro_rules | `(tactic| walk_at "exec Assign cons ListComp") => `(tactic| (k_here; k_dflt ((refine g_batches (by k_asm) ?gsw ?gfree ?gcell ?gkind ?gnames ?gx ?gxd ?gs ?gk ?gy ?gh ?groom ?glim ?_); (case gsw => with_unfolding_all rfl); (case gfree => decide); (case gcell => decide); (case gkind => rfl); (case gnames => decide); (case gx => decide); (case gxd => decide); (case gs => intro _; rfl); (case gk => rfl); (case gy => rfl); (case gh => rfl); (case groom => k_room); (case glim => exact Top.nolimit (by k_asm)))))
set_option hygiene false in
local macro_rules | `(tactic| walk_at "call ref") => `(tactic| (k_here; (with_reducible show wpAny _ _ (call (Value.ref 131) _) _ _ _); k_dflt (refine' x_gencall ?k1 ?k2 ?k3 ?k4 ?k5 ?k6 ?k7 ?k8 ?k9 ?ka ?kb ?_; (case k1 => k_asm); (case k2 => k_asm); (case k3 => k_asm); (case k4 => k_asm); (case k5 => rfl); (case k6 => k_asm); (case k7 => k_mem); (case k8 => omega); (case k9 => omega); (case ka => ktr_room); (case kb => ktr_units); k_whole); intro h' tk' C G gs F' N' hC1 hC2 hC3 hC4 hC5 hgen hready; refine ⟨C, G, gs, _, _, _, rfl, rfl, hgen, hready, F', N', hC2, hC3, hC4, hC5, hC1, by assumption, by assumption, ?_⟩; clear hC1 hC2 hC3 hC4 hC5 hgen hready; intro h' tk' D ts nD bl F' N' hts hbl hblL; (try dsimp only)))
set_option hygiene false in
local macro_rules | `(tactic| walk_at "call ref") => `(tactic| (k_here; (with_reducible show wpAny _ _ (call (Value.ref 342) _) _ _ _); k_dflt (refine' c_loopnew ?k1 ?k2 ?k3 ?k4 ?k5 ?k6 ?k7 ?ka ?kb ?_; (case k1 => k_asm); (case k2 => k_asm); (case k3 => k_asm); (case k4 => k_asm); (case k5 => rfl); (case k6 => k_asm); (case k7 => k_mem); (case ka => ktr_room); (case kb => ktr_units); k_whole); intro h' tk' lo ld it oL F' N' hLoop l1 l2 l3))
set_option hygiene false in
local macro_rules | `(tactic| walk_at "call ref") => `(tactic| (k_here; (with_reducible show wpAny _ _ (call (Value.ref 119) _) _ _ _); (try dsimp only [List.nil_append]); k_dflt (refine' c_joinnew0 ?k1 ?k2 ?k3 ?k4 ?k5 ?k6 ?ka ?kb ?_; (case k1 => k_asm); (case k2 => k_asm); (case k3 => k_asm); (case k4 => k_asm); (case k5 => rfl); (case k6 => k_asm); (case ka => ktr_room); (case kb => ktr_units); k_whole); intro h' tk' io idd hi3 hp3 ti3 tk3 ts3 F' N' l4 l5))
local macro_rules | `(tactic| walk_at "call builtin:len") => `(tactic| (k_here; (with_reducible show wpAny _ _ (call (Value.builtin "len") [Value.ref _]) _ _ _); k_dflt (first
  | (refine' kun_lenL ?k1 ?k2 ?k3 ?_; (case k1 => exact News.isList (by k_asm) (by k_mem)); (case k2 => first | exact sz_strs (by assumption) | exact sz_any _); (case k3 => omega); k_whole))))
set_option hygiene false in
local macro_rules | `(tactic| walk_at "exec For Name Call cons nil") => `(tactic| (k_here; k_dflt ((refine g_ForRange (by k_asm) ?gh ?gx ?gk ?gs ?gE ?_); (case gh => rfl); (case gx => rfl); (case gk => rfl); (case gs => intro _; rfl); (case gE => passes_own))))
set_option hygiene false in
local macro_rules | `(tactic| walk_at "call type:range") => `(tactic| (k_here; k_dflt (refine' range1_rows ?k1 ?k2 ?_; (case k1 => k_asm); (case k2 => k_asm); k_whole); intro h' tk' t₁ u₁ v₁ hRg F' N' _; refine ex_stop ?_))

set_option hygiene false in
local macro_rules | `(tactic| walk_at "call ref") => `(tactic| (k_here; (with_reducible show wpAny _ _ (call (Value.ref 353) _) _ _ _); (with_reducible rename RowLed _ _ _ _ _ _ _ => rL); (try dsimp only [List.nil_append]); k_dflt (refine' r_step ?k1 ?k2 ?k3 ?k4 ?k5 ?k6 rL ?x1 ?x2 ?ka ?kb ?_; (case k1 => k_asm); (case k2 => k_asm); (case k3 => k_asm); (case k4 => k_asm); (case k5 => rfl); (case k6 => first | k_asm | exact News.less (by k_asm) | exact News.less (News.less (by k_asm))); (case x1 => assumption); (case x2 => rfl); (case ka => ktr_room); (case kb => ktr_units); k_whole); intro h' tk' tS news' F' N' mT R'; obtain ⟨_, mld, hL⟩ := R'.mld; (k_dflt (cases hL)); have mlo := R'.im.mlo; obtain ⟨neB, mB⟩ := R'.im.mts _ _ _ hB1 hB2; dsimp only at mld mlo mB; clear rL; have mrow := R'.im.mrow; have mjo := R'.im.mjo; have mio := R'.im.mio; have mjd := R'.mjd; have midd := R'.midd; have mwl := R'.im.mwl; have mcy := R'.im.mcy; have mtp := R'.im.mtp; have mD := R'.im.mD; obtain ⟨_, mdc⟩ := R'.mdc; dsimp only at mrow mjo mio mjd midd mwl mcy mtp mD mdc))
local macro_rules | `(tactic| walk_at "eval Call Attribute") => `(tactic| (k_here; (with_reducible show wpAny _ _ (eval (Expr.Call (Expr.Attribute _ _ _) [Expr.Starred _ _] _ _) _) _ _ _); k_dflt (refine MethodCallStar ?_ (by rfl))))
local macro_rules | `(tactic| walk_at "callWith ref") => `(tactic| (k_here; (with_reducible show wpAny _ _ (callWith _ (Value.ref _) _ (backTo _ (starEach [Expr.Starred _ _] _)) []) _ _ _); k_dflt (refine' callWith_SM ?kX ?kN ?kq ?k2 ?_; (case kX => k_asm); (case kN => k_asm); (case kq => k_mem); (case k2 => k_is))))
local macro_rules | `(tactic| walk_at "StarOf ref") => `(tactic| (k_here; k_dflt (refine' star_seq ?k1 ?k2 ?m ?c ?d ?T ?e ?z ?_; (case k1 => k_asm); (case k2 => k_asm); (case m => k_mem); (case c => exact rfl); (case d => exact rfl); (case T => first | exact .inl rfl | exact .inr rfl); (case e => exact List.toList_toArray); (case z => exact vs_fit (by assumption) (by assumption)); k_whole); intro h' F' N'; (try dsimp only [List.nil_append])))
set_option hygiene false in
local macro_rules | `(tactic| walk_at "call ref") => `(tactic| (k_here; (with_reducible rename RowLed _ _ _ _ _ _ _ => rL); (try dsimp only [List.nil_append]); k_dflt (refine' call_meth ?y1 ?y2 ?_; (case y1 => k_asm); (case y2 => k_mem); refine' r_cycleC ?k1 ?k2 ?k3 ?k4 ?k5 ?k6 rL ?x1 ?x2 ?x3 ?ka ?kb ?_; (case k1 => k_asm); (case k2 => k_asm); (case k3 => k_asm); (case k4 => k_asm); (case k5 => rfl); (case k6 => first | k_asm | exact News.less (by k_asm) | exact News.less (News.less (by k_asm))); (case x1 => assumption); (case x2 => assumption); (case x3 => assumption); (case ka => ktr_room); (case kb => ktr_units); k_whole); intro h' tk' t1 F' N'))
set_option hygiene false in
local macro_rules | `(tactic| walk_at "call ref") => `(tactic| (k_here; (with_reducible show wpAny _ _ (call (Value.ref 87) _) _ _ _); (with_reducible rename RowLed _ _ _ _ _ _ _ => rL); (try dsimp only [List.nil_append]); k_dflt (refine' r_next ?k1 ?k2 ?k3 ?k4 ?k5 ?k6 rL ?x1 ?x2 ?x3 ?x4 ?ka ?kb ?_; (case k1 => k_asm); (case k2 => k_asm); (case k3 => k_asm); (case k4 => k_asm); (case k5 => rfl); (case k6 => first | k_asm | exact News.less (by k_asm) | exact News.less (News.less (by k_asm))); (case x1 => assumption); (case x2 => exact fm_lo (by assumption)); (case x3 => exact fm_hi (by assumption)); (case x4 => assumption); (case ka => ktr_room); (case kb => ktr_units); k_whole); intro h' tk' t2 news' F' N' R'; clear rL; have mrow := R'.im.mrow; have mjo := R'.im.mjo; have mio := R'.im.mio; have mjd := R'.mjd; have midd := R'.midd; have mwl := R'.im.mwl; have mcy := R'.im.mcy; have mtp := R'.im.mtp; have mD := R'.im.mD; obtain ⟨_, mdc⟩ := R'.mdc; dsimp only at mrow mjo mio mjd midd mwl mcy mtp mD mdc))
set_option hygiene false in
local macro_rules | `(tactic| walk_at "call ref") => `(tactic| (k_here; (with_reducible show wpAny _ _ (call (Value.ref _) _) _ _ _); (with_reducible rename RowLed _ _ _ _ _ _ _ => rL); (try dsimp only [List.nil_append]); k_dflt (refine' r_join ?k1 ?k2 ?k3 ?k4 ?k5 ?k6 rL  ?ka ?kb ?_; (case k1 => k_asm); (case k2 => k_asm); (case k3 => k_asm); (case k4 => k_asm); (case k5 => rfl); (case k6 => first | k_asm | exact News.less (by k_asm) | exact News.less (News.less (by k_asm))); (case ka => ktr_room); (case kb => ktr_units); k_whole); intro h' tk' t2 news' F' N' R'; clear rL; have mrow := R'.im.mrow; have mjo := R'.im.mjo; have mio := R'.im.mio; have mjd := R'.mjd; have midd := R'.midd; have mwl := R'.im.mwl; have mcy := R'.im.mcy; have mtp := R'.im.mtp; have mD := R'.im.mD; obtain ⟨_, mdc⟩ := R'.mdc; dsimp only at mrow mjo mio mjd midd mwl mcy mtp mD mdc))
set_option hygiene false in
local macro_rules | `(tactic| walk_at "call ref") => `(tactic| (k_here; (with_reducible show wpAny _ _ (call (Value.ref _) _) _ _ _); (with_reducible rename RowLed _ _ _ _ _ _ _ => rL); (try dsimp only [List.nil_append]); k_dflt (refine' r_inner ?k1 ?k2 ?k3 ?k4 ?k5 ?k6 rL  ?ka ?kb ?_; (case k1 => k_asm); (case k2 => k_asm); (case k3 => k_asm); (case k4 => k_asm); (case k5 => rfl); (case k6 => first | k_asm | exact News.less (by k_asm) | exact News.less (News.less (by k_asm))); (case ka => ktr_room); (case kb => ktr_units); k_whole); intro h' tk' t2 news' F' N' R'; clear rL; have mrow := R'.im.mrow; have mjo := R'.im.mjo; have mio := R'.im.mio; have mjd := R'.mjd; have midd := R'.midd; have mwl := R'.im.mwl; have mcy := R'.im.mcy; have mtp := R'.im.mtp; have mD := R'.im.mD; obtain ⟨_, mdc⟩ := R'.mdc; dsimp only at mrow mjo mio mjd midd mwl mcy mtp mD mdc))
local macro_rules | `(tactic| walk_at "compareOp NotEq str str") => `(tactic| (k_here; k_dflt (refine x_ne_str ?e ?_; (case e => first | rfl | assumption))))
local macro_rules | `(tactic| walk_at "compareOp NotEq int int") => `(tactic| (k_here; k_dflt (refine x_ne_int ?e ?_; (case e => first | rfl | assumption))))
local macro_rules | `(tactic| walk_at "compareOp NotEq bool bool") => `(tactic| (k_here; k_dflt (refine x_ne_bool ?e ?_; (case e => first | rfl | assumption))))
local macro_rules | `(tactic| walk_at "call builtin:list.index") => `(tactic| (k_here; k_dflt (refine' x_index _ ?l ?i ?j ?n ?w ?_; (case l => exact News.isList (by k_asm) (by k_mem)); (case i => assumption); (case j => assumption); (case n => assumption); (case w => assumption))))
local macro_rules | `(tactic| walk_at "subscriptTail") => `(tactic| (k_here; (with_reducible show wpAny _ _ (subscriptTail _ _ (Value.ref _) (Value.int _ _)) _ _ _); with_unfolding_all (refine' x_item ?zl ?za ?zb ?zx ?_; (case zl => exact News.isList (by k_asm) (by k_mem)); (case za => first | omega | assumption); (case zb => first | omega | assumption); (case zx => assumption))))
local macro_rules | `(tactic| walk_at "callWith ref") => `(tactic| (k_here; (with_reducible show wpAny _ _ (callWith _ (Value.ref _) _ (backTo _ (starEach [] _)) []) _ _ _); (with_reducible rename RowLed _ _ _ _ _ _ _ => rL); k_dflt (refine' kco_callWith0 ?k1 ?k2 ?k3 ?k4 ?_; (case k1 => k_in); (case k2 => (refine' InstAt.of_news ?N ?h1 ?h2; (case N => k_asm); (case h1 => k_mem); (case h2 => k_mem))); (case k3 => rfl); (case k4 => k_is); k_whole; (try dsimp only [List.nil_append, List.cons_append]))))
local macro_rules | `(tactic| walk_at "eval ListComp") => `(tactic| (k_here; k_dflt ((refine g_CompPure (by k_asm) ?gh ?gc ?gcell ?gkind ?gnames ?gx ?gs ?_); (case gh => rfl); (case gc => with_unfolding_all rfl); (case gcell => decide); (case gkind => rfl); (case gnames => decide); (case gx => decide); (case gs => intro _; rfl))))
local macro_rules | `(tactic| walk_at "call builtin:str.join") => `(tactic| (k_here; k_dflt (refine' x_join ?l ?i ?b ?n ?x ?_; (case l => exact News.isList (by k_asm) (by k_mem)); (case i => assumption); (case b => assumption); (case n => assumption); (case x => decide)); intro _ _))
local macro_rules | `(tactic| walk_at "call builtin:sum") => `(tactic| (k_here; k_dflt (refine' x_sum ?F ?N ?h ?l ?i ?_; (case F => k_asm); (case N => k_asm); (case h => rfl); (case l => exact News.isList (by k_asm) (by k_mem)); (case i => assumption); k_whole); intro h' tk' t' F' N'))
set_option hygiene false in
local macro_rules | `(tactic| walk_at "binaryOp Add str str") => `(tactic| (k_here; k_dflt ((refine SBL.add (hsz := ?hsz) ?_); (case hsz => first | exact fit1.1 | exact fit1.2 | exact fit2.1 | exact fit2.2)); intro _ _))
set_option hygiene false in
local macro_rules | `(tactic| walk_at "inplaceOp Add str str") => `(tactic| (k_here; k_dflt ((refine SBL.iadd (hsz := ?hsz) ?_); (case hsz => first | exact fit1.1 | exact fit1.2 | exact fit2.1 | exact fit2.2)); intro _ _))

section
variable {w : World} {mean : ExcName → Option Value} {mg mb : Str → Option Value} {dp un : Nat} {gd : Option (List Code)} {cn : Str} {cs : Scope} {a : Addr} {ccd : Value} {cl : List (Str × Addr)} {outer : List Env} {A₀ : Around} {base h₀ : Heap} {L : Addr} {m : Str → Option Value} {s : Shared} {Q E : Value → Shared → Prop} {news rest : List (Addr × Obj)}
theorem c_row {row wl cy dc tp jo jd : Addr} {nr nw ntp : Nat} {rs vs : List Value} {ns : List Int} {us : List Str} {tkn tc1 tcI tcK tjI tjK tsp : Tok} {hi hp hi2 hp2 : Int} {count : Nat} {p : Int} {sep : Str} {b : Bool}
   (B : Below A₀ base outer h₀) (F : Fr h₀ L s.heap m) (X : (hd.heap_39 w.params).In h₀) (T : TopF mean mg mb h₀) (hk : cs.kind = .function)
   (N : News h₀ L s.heap news)
   (m1 : (row, listOf rs.toArray nr) ∈ news) (m2 : (wl, listOf vs.toArray nw) ∈ news) (m3 : (cy, instObj 90 dc) ∈ news) (m4 : (dc, cycD hi hp tcI tcK tp p tc1) ∈ news) (m5 : (tp, tupOf vs.toArray ntp) ∈ news)
   (m6 : (jo, instObj 119 jd) ∈ news) (m7 : (jd, joinD hi2 hp2 tjI tjK sep tsp b) ∈ news)
   (hs : StrsAre vs us) (h0 : 0 < us.length) (hw : us.length ≤ 4) (hlit : ∀ p ∈ news, NotLit p.2) (hsz : (chunksOf us.length rs).length ≤ 1000) (hrs : rs.length ≤ 100) (hsep : sep.length ≤ 4)
   (his : IntsAre rs ns) (hnd : us.Nodup) (hbd : ∀ k, 0 ≤ ns.getD k 0 ∧ ns.getD k 0 < 5) (hp0 : p = Int.fmod (count : Int) (us.length : Int))
   (hd : dp + 8 < recursionLimit) (hu : un + 60 < cLine)
   (ret : ∀ h' tk' t1 t2, Fr h₀ L h' m → News h₀ L h' ((dc, cycD hi hp tcI tcK tp (Int.fmod ((count : Int) + (rs.length : Int)) (us.length : Int)) t1) :: (jd, joinD hi2 hp2 tjI tjK sep tsp (b || decide (0 < rs.length))) :: offL jd (offL dc news)) →
     (∀ b o, s.heap.get? b = some o → b ∉ news.map (·.1) → h'.get? b = some o) → Q (.str (txt sep b ns rs.length) t2) { s with heap := h', gens := s.gens.push .finished, toks := tk' }) :
   wpAny (model (RowW.prog (OpenRow.toRowW (OpenLaw.row PySem.Challenge.rw_bw0014_01))) w) (ktrTop dp un gd cn cs L a ccd cl outer) (call (.ref 474) [.ref row, .ref wl, .ref cy, .int (count : Int) tkn, .ref jo]) Q E s := by
  revert X
  k_fill
  intro X
  refine wpAny_call ?_
  refine' code_defG ?k1 ?k2 ?k3 ?k4 ?k5 ?kA ?kF ?kK ?k6 ?k7 ?k8 ?k9 ?kB ?_ ?c2 ?c3 ?c4 ?c5
  (case kA => exact rfl); (case kF => exact rfl); (case kK => assumption); (case k1 => k_asm); (case k2 => k_asm); (case k3 => k_asm); (case k4 => k_asm); (case k5 => k_asm); (case k6 => k_is); (case k7 => k_is); (case k8 => ktr_room); (case k9 => first | exact BindsTo.of_eq rfl | exact binds_K (by k_in) rfl (by k_is) rfl rfl rfl); (case c5 => decide); (case kB => exact locs rfl); (case c2 => exact rfl); (case c3 => exact rfl); (case c4 => exact rfl)
  k_whole
  intro gR LR hR FG' F' N' B' X' T' GS
  (try dsimp only)
  (try k_lift B')
  (try k_fold)
  w_strict k_steps
  rename Fr _ _ h' _ => F1
  rename News _ _ h' _ => N1
  obtain ⟨mB, hmB, FB⟩ : ∃ mB, mB = _ ∧ Fr _ _ h' mB := ⟨_, rfl, F1⟩
  refine hold_in ⟨_, t₁, u₁, v₁, _, _, _, fun I i m' news' => ∃ (u1 u2 u3 u4 u5 : Option Value) (tt tq : Tok), m' = rmap mB (txt sep b ns i) tt (txt (Str.ofString ", ") false ns i) tq u1 u2 u3 u4 u5 ∧
    RowLed ⟨row, wl, cy, dc, tp, jo, jd, lo, ld, it, io, idd, D, I, nr, nw, ntp, nD, rs, vs, ts, chunksOf us.length rs, hi, hp, hi2, hp2, hi3, hp3, tcI, tcK, tjI, tjK, tsp, ti3, tk3, ts3, sep, news⟩ news' i i (Int.fmod ((count : Int) + (i : Int)) (us.length : Int)) (b || decide (0 < i)) (decide (0 < i)), rfl, hRg, F1, N1, (by omega), fun I hI => ⟨?start, ?turn, ?done⟩⟩
  case start =>
    subst hmB
    refine ⟨_, _, _, _, _, _, _, rmap_start rfl rfl, ?_⟩
    have mm : ∀ q ∈ news, q ∈ bl ++ news := fun q hq => List.mem_append_right _ hq
    refine RowLed.to (p := p) (b1 := b) (b2 := false) ⟨⟨.tail _ (.tail _ (.tail _ (.tail _ (.tail _ (.tail _ (.tail _ (mm _ m1))))))), .tail _ (.tail _ (.tail _ (.tail _ (.tail _ (.tail _ (.tail _ (mm _ m2))))))), .tail _ (.tail _ (.tail _ (.tail _ (.tail _ (.tail _ (.tail _ (mm _ m3))))))), .tail _ (.tail _ (.tail _ (.tail _ (.tail _ (.tail _ (.tail _ (mm _ m5))))))), .tail _ (.tail _ (.tail _ (.tail _ (.tail _ (.tail _ (.tail _ (mm _ m6))))))),
      .tail _ (.tail _ (.tail _ (.tail _ (.head _)))), .tail _ (.head _), .tail _ (.tail _ (.tail _ (.tail _ (.tail _ (.tail _ (.head _)))))), fun j t x e1 e2 => (hbl j t x e1 e2).imp fun _ z => .tail _ (.tail _ (.tail _ (.tail _ (.tail _ (.tail _ (.tail _ (List.mem_append_left _ z))))))), fun q hq _ _ => .tail _ (.tail _ (.tail _ (.tail _ (.tail _ (.tail _ (.tail _ (mm _ hq))))))),
      fun q hq => ⟨Nat.ne_of_lt (l1 q (.tail _ (mm q hq))), allLt_all l3.2.2 q (.tail _ (mm q hq)), Nat.ne_of_lt (l4 q (.tail _ (.tail _ (.tail _ (.tail _ (mm q hq)))))), Nat.ne_of_lt (hI q (.tail _ (.tail _ (.tail _ (.tail _ (.tail _ (.tail _ (mm q hq)))))))) ⟩, Nat.ne_of_lt (l4 (jd, _) (.tail _ (.tail _ (.tail _ (.tail _ (mm _ m7))))))⟩,
      ⟨oL, .tail _ (.tail _ (.tail _ (.tail _ (.tail _ (.head _))))), hLoop⟩, .tail _ (.tail _ (.tail _ (.head _))), ⟨_, .tail _ (.tail _ (.tail _ (.tail _ (.tail _ (.tail _ (.tail _ (mm _ m4)))))))⟩, .tail _ (.tail _ (.tail _ (.tail _ (.tail _ (.tail _ (.tail _ (mm _ m7))))))), .tail _ (.tail _ (.head _)), .head _⟩ (by rw [hp0]; simp) (by simp) (by simp)
  case turn =>
    intro i h tk0 m' news' hlt hJ N2 mI h2 F2 N3
    obtain ⟨u1, u2, u3, u4, u5, tt, tq, rfl, R⟩ := hJ
    have hts1 := hts
    have R1 := R.turn N2 (fun q hq hn => .tail _ (offL_in q hq hn)) (.head _)
    obtain ⟨tx, hx⟩ := ints_get his i hlt
    obtain ⟨chB, hB2, hB3⟩ := chunk_get h0 rs [] (Nat.zero_le _) i hlt
    obtain ⟨tB, hB1⟩ : ∃ tB, ts[i / us.length]? = some tB := by
      rcases Nat.lt_or_ge (i / us.length) ts.length with q | q
      · exact ⟨_, List.getElem?_eq_getElem q⟩
      · rw [hts] at q; rw [List.getElem?_eq_none q] at hB2; cases hB2
    have hD : (List.map Value.ref ts)[(Int.fdiv (i : Int) (us.length : Int)).toNat]? = some (.ref tB) := by rw [fd_nat, Int.toNat_natCast, List.getElem?_map, hB1]; rfl
    have hTB : chB[(((Int.fmod (i : Int) (us.length : Int)).toNat : Nat) : Int).toNat]? = some (.int (ns.getD i 0) tx) := by rw [fm_nat, Int.toNat_natCast, Int.toNat_natCast, hB3]; exact hx
    have hRi : rs[(i : Int).toNat]? = some (.int (ns.getD i 0) tx) := by rw [Int.toNat_natCast]; exact hx
    have hq0 : 0 ≤ Int.fdiv (i : Int) (us.length : Int) := by rw [fd_nat]; exact Int.natCast_nonneg _
    have hq1 : Int.fdiv (i : Int) (us.length : Int) < 2 ^ 63 := by rw [fd_nat]; have := Nat.div_le_self i us.length; omega
    have hj1 : (((Int.fmod (i : Int) (us.length : Int)).toNat : Nat) : Int) < 2 ^ 63 := by have := fm_hi (a := (i : Int)) h0; omega
    have hn0 := (hbd i).1
    have hn1 := (hbd i).2
    have fit1 := txt_fit (b := b) hsep hbd i (by omega)
    have fit2 := txt_fit (sep := Str.ofString ", ") (b := false) (by decide) hbd i (by omega)
    have hbb := due_eq hnd h0 count i
    have hcyc : us.getD (i % us.length) Str.empty = us.getD (Int.fmod (i : Int) (us.length : Int)).toNat Str.empty := by rw [fm_nat, Int.toNat_natCast]
    clear R mI N2 F1 N1 FB hI hRg l1 l2 l3 l4 l5 m1 m2 m3 m4 m5 m6 m7 hLoop hbl hblL hts N hlit
    subst hmB
    generalize offL I news' = nw' at R1 N3
    w_strict k_steps
    rename News _ _ _ news' => NE
    rename Fr _ _ _ _ => FE
    refine hold_in ⟨rfl, _, _, _, _, rfl, FE, NE, R'.mI, _, _, _, _, _, _, _, rmap_end (x := txt (Str.ofString ", ") false ns (i + 1)) (y := txt sep b ns (i + 1)) rfl rfl (fun z q1 q2 q3 q4 q5 q6 q7 => ?_), R'.to (fm_step _ _ _) (by simp) (by simp)⟩
    simp only [if_neg q1, if_neg q2, if_neg q3, if_neg q4, if_neg q5, if_neg q6, if_neg q7, rmap]
  case done =>
    intro h tk0 m' news' hJ hN0 F2 N2
    obtain ⟨u1, u2, u3, u4, u5, tt, tq, rfl, R⟩ := hJ
    obtain ⟨h0', N0⟩ := hN0
    obtain ⟨imE, ⟨tE, mdcE⟩, mjdE⟩ := R.fin N0
    have mrow := imE.mrow
    have mD := imE.mD
    have mts := imE.mts
    dsimp only at mrow mD mts mdcE mjdE imE N2
    clear R N0 F1 N1 FB hI hRg l1 l2 l3 l4 l5 m1 m2 m3 m4 m5 m6 m7 hLoop hbl hblL N hlit
    subst hmB
    generalize offL I news' = ne at imE N2 mdcE mjdE mrow mD mts
    w_strict k_steps
    refine hold_in ⟨row, rs.toArray, nr, ne, fun i y => ∃ t, y = .str (num (ns.getD i 0)) t, rfl, by k_asm, by k_asm, mrow, by (rw [sizeLine_eq, List.size_toArray]; omega), ?el1, ?fin1⟩
    case el1 =>
      intro i v I oI C oC D m₂ ys h tk E' hv hC hx F N
      have hv0 : rs[i]? = some v := by simpa using hv
      obtain ⟨tx, hx'⟩ := ints_get his i (List.getElem?_eq_some_iff.mp hv0).1
      have hv' : v = .int (ns.getD i 0) tx := by
        rw [hx'] at hv0; exact (Option.some.inj hv0).symm
      subst hv'
      have hn0 := (hbd i).1
      have hn1 := (hbd i).2
      w_strict k_steps
      exact hold_in ⟨⟨_, rfl⟩, _, rfl⟩
    case fin1 =>
      intro ys D1 h1 tk1 hlen hr F N
      have hlen' : ys.length = ns.length := by rw [hlen, List.size_toArray, his.length]
      have hsa := strs_of ys hlen' hr
      have hnl : ns.length ≤ 1000 := by rw [← his.length]; omega
      have hpj : txt (Str.ofString ", ") false ns rs.length = joined (Str.ofString ", ") ns := by rw [his.length]; exact txt_join _ _
      have mrow' : (row, listOf rs.toArray nr) ∈ (D1, LCg.lst ys) :: ne := .tail _ mrow
      clear hlen hr
      w_strict k_steps
      refine hold_in ⟨D, (List.map Value.ref ts).toArray, nD, _, fun i y => ∃ t, y = .int (((chunksOf us.length rs).map fun c => (c.length : Int)).getD i 0) t, rfl, by k_asm, by k_asm, .tail _ mD, by (rw [sizeLine_eq, List.size_toArray, List.length_map]; omega), ?el2, ?fin2⟩
      case el2 =>
        intro i v I oI C oC D2 m₂ ys h tk E' hv hC hx F N
        have hv0 : (List.map Value.ref ts)[i]? = some v := by simpa using hv
        rw [List.getElem?_map] at hv0
        obtain ⟨tB, hB1, rfl⟩ := Option.map_eq_some_iff.mp hv0
        have hiB : i < (chunksOf us.length rs).length := by rw [← hts]; exact (List.getElem?_eq_some_iff.mp hB1).1
        obtain ⟨neB, mB⟩ := mts i tB _ hB1 (List.getElem?_eq_getElem hiB)
        have hlB : ((chunksOf us.length rs)[i]).length ≤ us.length := chunk_le h0 rs [] (Nat.zero_le _) _ (List.getElem_mem hiB)
        have hgB : ((chunksOf us.length rs).map fun c => (c.length : Int)).getD i 0 = ((chunksOf us.length rs)[i].length : Int) := by
          rw [List.getD_eq_getElem?_getD, List.getElem?_map, List.getElem?_eq_getElem hiB]; rfl
        w_strict k_steps
        exact hold_in ⟨⟨_, by rw [hgB]⟩, _, rfl⟩
      case fin2 =>
        intro ys2 D2 h2 tk2 hlen2 hr2 F N
        have hia := ints_of (ks := (chunksOf us.length rs).map fun c => (c.length : Int)) ys2 (by rw [hlen2, List.size_toArray, List.length_map, List.length_map]; exact hts) hr2
        have hsum := chunk_ints (n := us.length) rs
        w_strict k_steps
        rename Fr gR LR _ _ => FE
        rename News h₀ L _ _ => NE
        refine ret _ _ tE _ (by k_asm) (fun q hq => NE q (.tail _ (.tail _ ?_))) fun x o e1 e2 => FE.keep x o (GS x o e1 e2)
        rcases List.mem_cons.mp hq with rfl | hq
        · exact mdcE
        · rcases List.mem_cons.mp hq with rfl | hq
          · exact mjdE
          · have q1 := List.mem_filter.mp hq
            have q2 := List.mem_filter.mp q1.1
            exact imE.old q q2.1 (by simpa using q2.2) (by simpa using q1.2)
end
end Mine
end
-- part L2
section
open PySem PySem.W PyProof.Rows PySem.Calls
set_option Elab.async false
set_option maxRecDepth 100000
set_option maxHeartbeats 8000000
namespace Mine

section
variable {prog : Program} {w : World} {A : Around} {E : Value → Shared → Prop} {s : Shared} {h₀ : Heap} {L a : Addr} {m : Str → Option Value} {cn : Str} {cs : Scope} {ccd : Value}
theorem g_ForRangeB {x : Str} {px : Pos} {iter : PySem.Expr} {body : List Stmt} {pos : Pos} {Q : Flow → Shared → Prop}
    (F₀ : Fr h₀ L s.heap m) (hh : A.handled = none) (hx : (envOf cn cs L a ccd).kindOf x = some .local) (hk : cs.kind = .function)
    (hs : ∀ x, foldedSetIterable iter (envOf cn cs L a ccd) x = pure x)
    (hE : PassesOwn (model prog w) A (envOf cn cs L a ccd) E)
    (h : wpAny (model prog w) A (eval iter (envOf cn cs L a ccd)) (fun v s₁ => ∃ (r : Addr) (t u v' : Tok) (n : Nat) (m₁ : Str → Option Value) (news : List (Addr × Obj)) (J : Addr → Nat → (Str → Option Value) → List (Addr × Obj) → Prop) (JB : (Str → Option Value) → List (Addr × Obj) → Prop),
      v = .ref r ∧ IsRange s₁.heap r 0 (n : Int) 1 t u v' ∧ Fr h₀ L s₁.heap m₁ ∧ News h₀ L s₁.heap news ∧ n ≤ 1000 ∧
      ∀ I, (∀ p ∈ news, @LT.lt Nat _ p.1 I) → J I 0 m₁ ((I, ritO 0 n) :: news) ∧
        (∀ i h tk m news', i < n → J I i m news' → News h₀ L h news' → (I, ritO i n) ∈ news' → ∀ h', Fr h₀ L h' (fun y => if y = x then some (.int (i : Int) tk) else m y) → News h₀ L h' ((I, ritO (i + 1) n) :: offL I news') →
          wpAny (model prog w) A (execs body (envOf cn cs L a ccd)) (fun f s₃ => Hold (∃ h3 tk3 m3 news3, s₃ = { s₁ with heap := h3, toks := tk3 } ∧ Fr h₀ L h3 m3 ∧ News h₀ L h3 news3 ∧ ((f = .next ∧ (I, ritO (i + 1) n) ∈ news3 ∧ J I (i + 1) m3 news3) ∨ (f = .brk ∧ JB m3 news3)))) E { s₁ with heap := h', toks := tk + 1 + 1 }) ∧
        (∀ m news', J I n m news' → (I, ritO n n) ∈ news' → (∃ h0, News h₀ L h0 news') → JB m (offL I news')) ∧ (∀ h tk m news', JB m news' → Fr h₀ L h m → News h₀ L h news' → Q .next { s₁ with heap := h, toks := tk })) E s) :
    wpAny (model prog w) A (exec (.For (.Name x px) iter body [] pos) (envOf cn cs L a ccd)) Q E s := by
  refine wpAny_For (wpAny_mono h (fun v s₁ h₁ => ?_) fun _ _ e => e) hs
  obtain ⟨r, t, u, v', n, m₁, news, J, JB, rfl, hr, F, N, hn, hJ⟩ := h₁
  refine wpAny_pyIter_range hr (small_one (by omega) (by omega) (by omega) (by omega)) ?_
  have hsz : Builtin.Range.rangeSize 0 (n : Int) 1 = (n : Int) := by rw [rangeSize_nat]; omega
  rw [hsz]
  have F1 := F.push (ritO 0 n)
  have N1 := N.push F (ritO 0 n) rfl
  have hlt : ∀ p ∈ news, @LT.lt Nat _ p.1 s₁.heap.objs.size := fun p hp => Heap.lt_size (N p hp).1
  have eR : ({ cls := .type "range_iterator", data := .fields #[rawInt 0, rawInt (n : Int), rawInt 1] } : Obj) = ritO 0 n := by
    simp [ritO]
  rw [eR]
  generalize s₁.heap.objs.size = I at N1 hlt ⊢
  obtain ⟨hJ0, turn, doneJ, done⟩ := hJ I hlt
  refine codeAny_forLoop_any (fun k s' => ∃ i h tk m news', k = n - i ∧ i ≤ n ∧ s' = { s₁ with heap := h, toks := tk } ∧ Fr h₀ L h m ∧ News h₀ L h news' ∧ (I, ritO i n) ∈ news' ∧ J I i m news') ?_ n
    ⟨0, _, _, _, _, rfl, Nat.zero_le _, rfl, F1, N1, .head _, hJ0⟩
  rintro k s' ⟨i, h, tk, m', news', rfl, hi, rfl, F2, N2, mI, hJi⟩
  have hI := N2 _ mI
  rcases Nat.lt_or_ge i n with hlt | hge
  · refine wpAny_pyNext_range_item hI.1 (by omega) fun h1 hit1 hs1 => ?_
    refine wpAny_of_eq (a := ()) rfl ?_
    have F3 := F2.change hs1 hI.2.1 hI.2.2
    have e1 : (0 + (i : Int) * 1 : Int) = (i : Int) := by omega
    rw [e1]
    refine wpAny_assign_Name (wpAny_storeName_local hx F3.ns (fun h2 hn2 hs2 => ?_) (by rw [show (envOf cn cs L a ccd).scope.kind = cs.kind from rfl, hk]; rfl))
    have N3 : News h₀ L h1 ((I, ritO (i + 1) n) :: offL I news') := fun q hq => by
      rcases List.mem_cons.mp hq with rfl | hq
      · refine ⟨?_, hI.2⟩
        have ea : (0 + (i : Int) * 1 + 1 : Int) = 0 + ((i + 1 : Nat) : Int) * 1 := by omega
        have eb : ((n : Int) - (i : Int) - 1 : Int) = (n : Int) - ((i + 1 : Nat) : Int) := by omega
        have z : IsRangeIter h1 I (0 + (i : Int) * 1 + 1) ((n : Int) - (i : Int) - 1) 1 := hit1
        rw [ea, eb] at z
        exact z
      · have hq' := List.mem_filter.mp hq
        have hne : q.1 ≠ I := by simpa using hq'.2
        exact ⟨(hs1.2 _ hne).trans (N2 q hq'.1).1, (N2 q hq'.1).2⟩
    have F4 := F3.set hn2 hs2
    have N4 : News h₀ L h2 ((I, ritO (i + 1) n) :: offL I news') := fun q hq => ⟨(hs2.2 _ (N3 q hq).2.1).trans (N3 q hq).1, (N3 q hq).2⟩
    refine wpAny_passesOwn hE (wpAny_mono (turn i h tk m' news' hlt hJi N2 mI h2 F4 N4) (fun f s₃ h₃ => ?_) fun _ _ e => e)
    obtain ⟨h3, tk3, m3, news3, rfl, F5, N5, h₃⟩ := h₃
    rcases h₃ with ⟨rfl, mI3, hJ3⟩ | ⟨rfl, hB3⟩
    · exact ⟨n - (i + 1), by omega, i + 1, h3, tk3, m3, news3, rfl, hlt, rfl, F5, N5, mI3, hJ3⟩
    · exact done h3 tk3 m3 news3 hB3 F5 N5
  · have hin : i = n := by omega
    subst hin
    refine wpAny_pyNext_range_end hh hI.1 (by omega) fun h1 he1 => wpAny_execs_nil ?_
    refine done h1 tk m' _ (doneJ m' news' hJi mI ⟨_, N2⟩) ⟨F2.ns.at' fun o e => he1 _ o (Ne.symm hI.2.1) e, fun b o e => he1 b o (fun q => by rw [q, hI.2.2] at e; cases e) (F2.keep b o e), F2.above⟩ fun q hq => ?_
    have hq' := List.mem_filter.mp hq
    have hne : q.1 ≠ I := by simpa using hq'.2
    exact ⟨he1 _ _ hne (N2 q hq'.1).1, (N2 q hq'.1).2⟩
end
section
variable {prog : Program} {w : World} {A : Around} {E : Value → Shared → Prop} {s : Shared} {h₀ : Heap} {L : Addr} {m : Str → Option Value} {news : List (Addr × Obj)}
theorem x_appendL {l : Addr} {items : Array Value} {n : Nat} {x : Value} {Q : Value → Shared → Prop} (F : Fr h₀ L s.heap m) (N : News h₀ L s.heap news) (hm : (l, listOf items n) ∈ news) (hsz : items.size ≤ 2000)
    (hQ : ∀ h', Fr h₀ L h' m → News h₀ L h' ((l, listOf (items.push x) (n + 1)) :: offL l news) → (∀ q ∈ news, q.2 ≠ listOf items n → q.1 ≠ l) → Q .none { s with heap := h' }) :
    wpAny (model prog w) A (call (.builtin "list.append") [.ref l, x]) Q E s := by
  have hl := N _ hm
  refine x_append hl.1 hsz fun h' e hs => hQ h' (F.change hs hl.2.1 hl.2.2) (fun q hq => ?_) fun q hq hn e' => hn (Option.some.inj ((N q hq).1.symm.trans (e' ▸ hl.1)))
  rcases List.mem_cons.mp hq with rfl | hq
  · exact ⟨e, hl.2⟩
  · have hq' := List.mem_filter.mp hq
    have hne : q.1 ≠ l := by simpa using hq'.2
    exact ⟨(hs.2 _ hne).trans (N q hq'.1).1, (N q hq'.1).2⟩
end
end Mine
end
-- part RW
section
open PySem PySem.W PyProof.Rows PySem.Calls
set_option Elab.async false
set_option maxRecDepth 100000
set_option maxHeartbeats 8000000
namespace Mine

local macro_rules | `(tactic| k_room) => `(tactic| ktr_room)
local macro_rules | `(tactic| k_units) => `(tactic| ktr_units)
local macro_rules | `(tactic| k_mem) => `(tactic| assumption)
local macro_rules | `(tactic| k_all) => `(tactic| assumption)
local macro_rules | `(tactic| walk_at "subscriptTail") => `(tactic| (k_here; (with_reducible show wpAny _ _ (subscriptTail _ _ (Value.ref _) (Value.int _ _)) _ _ _); with_unfolding_all (first
  | (refine' KTb.item_tup ?t ?w ?a ?b ?f ?_; (case t => exact News.isTup (by k_asm) (by k_mem)); (case w => assumption); (case a => first | omega | exact fm_lo (by assumption)); (case b => first | omega | exact fm_hi (by assumption)); (case f => first | omega | exact fm_hi63 (by assumption) (by assumption)); k_whole)
  | (refine' KTb.item_list ?t ?w ?a ?b ?f ?_; (case t => exact News.isList (by k_asm) (by k_mem)); (case w => assumption); (case a => first | omega | exact fm_lo (by assumption)); (case b => first | omega | exact fm_hi (by assumption)); (case f => first | omega | exact fm_hi63 (by assumption) (by assumption)); k_whole)); intro _ _))
local macro_rules | `(tactic| walk_at "call builtin:len") => `(tactic| (k_here; (with_reducible show wpAny _ _ (call (Value.builtin "len") [Value.ref _]) _ _ _); k_dflt (first
  | (refine' kun_lenT ?k1 ?k2 ?k3 ?_; (case k1 => exact News.isTup (by k_asm) (by k_mem)); (case k2 => exact sz_strs (by assumption)); (case k3 => omega); k_whole)
  | (refine' kun_lenL ?k1 ?k2 ?k3 ?_; (case k1 => exact News.isList (by k_asm) (by k_mem)); (case k2 => exact sz_strs (by assumption)); (case k3 => omega); k_whole))))
local macro_rules | `(tactic| walk_at "call builtin:iter") => `(tactic| (k_here; (with_reducible show wpAny _ _ (call (Value.builtin "iter") [Value.ref _]) _ _ _); k_dflt (refine' x_iter ?k1 ?k2 ?k3 ?_; (case k1 => k_asm); (case k2 => k_asm); (case k3 => exact News.isList (by k_asm) (by k_mem)); k_whole); intro I' h' F' N' l1; (try k_lt l1); (try k_sweep)))
local macro_rules | `(tactic| walk_at "call builtin:next") => `(tactic| (k_here; (with_reducible show wpAny _ _ (call (Value.builtin "next") [Value.ref _]) _ _ _); k_dflt (refine' x_next ?k1 ?k2 ?k3 ?k4 ?k5 ?_; (case k1 => k_asm); (case k2 => k_asm); (case k3 => k_updF); (case k4 => exact News.isList (by k_asm) (by k_mem)); (case k5 => first | assumption | exact rfl); k_whole); intro h' F' N'; (try dsimp only at N'); (try k_sweep)))
local macro_rules | `(tactic| k_handed) => `(tactic| assumption)
local macro_rules | `(tactic| walk_at "truthy ref") => `(tactic| (k_here; k_dflt (refine' x_truthyT ?k1 ?k2 ?k3 ?k4 ?_; (case k1 => exact News.isTup (by k_asm) (by k_mem)); (case k2 => assumption); (case k3 => assumption); (case k4 => assumption); k_whole); intro _))

local macro_rules | `(tactic| k_mem) => `(tactic| (with_reducible (repeat (first | assumption | exact List.mem_append_right _ (by assumption) | exact List.mem_cons_self | refine List.mem_cons_of_mem _ ?_)); done))

theorem sz_ints {vs : List Value} {ks : List Int} (h : IntsAre vs ks) : ((vs.toArray.size : Nat) : Int) = (ks.length : Int) := by rw [List.size_toArray, h.length]
set_option hygiene false in
local macro_rules | `(tactic| walk_at "exec For Name Call cons nil") => `(tactic| (k_here; k_dflt ((refine g_ForRangeB (by k_asm) ?gh ?gx ?gk ?gs ?gE ?_); (case gh => rfl); (case gx => rfl); (case gk => rfl); (case gs => intro _; rfl); (case gE => passes_own))))
set_option hygiene false in
local macro_rules | `(tactic| walk_at "call type:range") => `(tactic| (k_here; k_dflt (refine' range1_rows ?k1 ?k2 ?_; (case k1 => k_asm); (case k2 => k_asm); k_whole); intro h' tk' t₁ u₁ v₁ hRg F' N' _; refine ex_stop ?_))
set_option hygiene false in
local macro_rules | `(tactic| walk_at "eval Name") => `(tactic| (k_here; k_dflt (refine' ld ?k1 ?k2 ?_; (case k1 => k_asm); (case k2 => first | exact hv1 | exact hv2 | exact hv3); k_whole)))
local macro_rules | `(tactic| walk_at "call builtin:len") => `(tactic| (k_here; (with_reducible show wpAny _ _ (call (Value.builtin "len") [Value.ref _]) _ _ _); k_dflt (first
  | (refine' kun_lenL ?k1 ?k2 ?k3 ?_; (case k1 => exact News.isList (by k_asm) (by k_mem)); (case k2 => exact sz_ints (by assumption)); (case k3 => omega); k_whole))))
local macro_rules | `(tactic| walk_at "eval ListComp") => `(tactic| (k_here; k_dflt ((refine g_CompPureO (by k_asm) ?gh ?gc ?gcell ?gkind ?gnames ?gx ?gs ?_); (case gh => rfl); (case gc => with_unfolding_all rfl); (case gcell => decide); (case gkind => rfl); (case gnames => decide); (case gx => decide); (case gs => intro _; rfl))))
set_option hygiene false in
local macro_rules | `(tactic| walk_at "subscriptTail Name Slice ref ref") => `(tactic| (k_here; (with_reducible show wpAny _ _ (subscriptTail _ (PySem.Expr.Slice _ _ none _) (Value.ref _) (Value.ref _)) _ _ _); k_dflt (refine' kmk_slice_ints ?F ?N ?l ?p ?q ?i ?m ?c ?_ ?s ?t ?z; (case F => k_asm); (case N => k_asm); (case l => exact News.isList (by k_asm) (by k_mem)); (case p => first | exact IsPart.none | exact IsPart.int _ _); (case q => first | exact IsPart.none | exact IsPart.int _ _); (case i => exact hix); (case m => first | exact kmk_run hix (by omega) (by omega) | exact kmk_upto hix (by omega)); (case c => exact rfl); (case s => with_unfolding_all rfl); (case t => (intro _; with_unfolding_all rfl)); (case z => (rw [List.size_toArray, IntsAre.length hix, sizeLine_eq]; omega))); intro DS wS h' F' N' lS hIS hCS hLS))
set_option hygiene false in
local macro_rules | `(tactic| walk_at "call builtin:list.append") => `(tactic| (k_here; k_dflt (refine' x_appendL ?k1 ?k2 ?k3 ?k4 ?_; (case k1 => k_asm); (case k2 => k_asm); (case k3 => k_mem); (case k4 => assumption); k_whole); intro h' F' N' hNe))
set_option hygiene false in
local macro_rules | `(tactic| walk_at "loadName") => `(tactic| (k_here; k_dflt (refine' ldn ?k1 ?k2 ?_; (case k1 => k_asm); (case k2 => first | exact hv1 | exact hv2 | exact hv3); k_whole)))

def RowAt (rl : Addr) (news : List (Addr × Obj)) (v : Value) (d : Bool × List Int) : Prop :=
  ∃ (t r : Addr) (rs : List Value) (nr : Nat), v = .ref t ∧ (t, tupOf [.bool d.1, .ref r].toArray 0) ∈ news ∧ (r, listOf rs.toArray nr) ∈ news ∧ IntsAre rs d.2 ∧ rs.length ≤ 6 ∧ (∀ k, 0 ≤ d.2.getD k 0 ∧ d.2.getD k 0 < 5) ∧ t ≠ rl ∧ r ≠ rl
def RowsAre (rl : Addr) (news : List (Addr × Obj)) (tv : List Value) (ds : List (Bool × List Int)) : Prop :=
  tv.length = ds.length ∧ ∀ (j : Nat) v d, tv[j]? = some v → ds[j]? = some d → RowAt rl news v d
theorem RowsAre.keep {rl d : Addr} {o : Obj} {i : Nat} {h₀ h : Heap} {L : Addr} {news news' : List (Addr × Obj)} {tv : List Value} {ds : List (Bool × List Int)} (R : RowsAre rl news tv ds) (N : News h₀ L h news) (md : (d, o) ∈ news) (hi : tagO o = i) (h6 : (6 : Nat) ≠ i)
    (k : ∀ q ∈ news, q.1 ≠ d → q ∈ news') : RowsAre rl news' tv ds := ⟨R.1, fun j v x hv hx => by
  obtain ⟨t, r, rs, nr, e, m1, m2, e3, e4, e5, e6, e7⟩ := R.2 j v x hv hx
  exact ⟨t, r, rs, nr, e, k _ m1 (tne N m1 md t_tup hi h6), k _ m2 (tne N m2 md t_list hi h6), e3, e4, e5, e6, e7⟩⟩
theorem RowsAre.sub {rl : Addr} {news news' : List (Addr × Obj)} {tv : List Value} {ds : List (Bool × List Int)} (R : RowsAre rl news tv ds) (k : ∀ q ∈ news, q.1 ≠ rl → q ∈ news') : RowsAre rl news' tv ds := ⟨R.1, fun j v x hv hx => by
  obtain ⟨t, r, rs, nr, e, m1, m2, e3, e4, e5, e6, e7⟩ := R.2 j v x hv hx
  exact ⟨t, r, rs, nr, e, k _ m1 e6, k _ m2 e7, e3, e4, e5, e6, e7⟩⟩
theorem off1_all {D : Addr} : ∀ {l : List (Addr × Obj)}, LCg.Off1 D l → ∀ q ∈ l, q.1 ≠ D
  | [], _, _, h => nomatch h
  | p :: r, h, q, hq => by
    rcases List.mem_cons.mp hq with rfl | hq
    · exact h.1
    · exact off1_all h.2 q hq
theorem tup_ne_list {vs : Array Value} {k : Nat} {ws : Array Value} {n : Nat} : tupOf vs k ≠ listOf ws n := fun e => by injection e with e; injection e with e; revert e; decide
theorem RowsAre.snoc {rl : Addr} {news : List (Addr × Obj)} {tv : List Value} {ds : List (Bool × List Int)} {v : Value} {d : Bool × List Int} (R : RowsAre rl news tv ds) (h : RowAt rl news v d) : RowsAre rl news (tv ++ [v]) (ds ++ [d]) := by
  refine ⟨by simp [R.1], fun j v' d' hv hd => ?_⟩
  rcases Nat.lt_or_ge j tv.length with q | q
  · rw [List.getElem?_append_left q] at hv
    rw [List.getElem?_append_left (by rw [← R.1]; exact q)] at hd
    exact R.2 j v' d' hv hd
  · rw [List.getElem?_append_right q] at hv
    rw [List.getElem?_append_right (by rw [← R.1]; exact q)] at hd
    have hj : j - tv.length = 0 := by
      rcases Nat.eq_zero_or_pos (j - tv.length) with h0 | h0
      · exact h0
      · rw [List.getElem?_eq_none (by simp; omega)] at hv; cases hv
    rw [hj] at hv
    rw [← R.1, hj] at hd
    have e1 : v = v' := by simpa using hv
    have e2 : d = d' := by simpa using hd
    rw [← e1, ← e2]; exact h
theorem fm5 {ms : List Int} : ∀ k, 0 ≤ (ms.map fun x => Int.fmod x 5).getD k 0 ∧ (ms.map fun x => Int.fmod x 5).getD k 0 < 5 := fun k => by
  rw [List.getD_eq_getElem?_getD, List.getElem?_map]
  cases ms[k]? with
  | none => simp
  | some x => exact ⟨fmod_lo _ (by decide), fmod_hi _ (by decide)⟩
theorem place_eq {a b : Int} {t : Tok} (e : a = b) : some (Value.int a t) = some (Value.int b t) := by rw [e]
section
variable {w : World} {mean : ExcName → Option Value} {mg mb : Str → Option Value} {dp un : Nat} {gd : Option (List Code)} {cn : Str} {cs : Scope} {a : Addr} {ccd : Value} {cl : List (Str × Addr)} {outer : List Env} {A₀ : Around} {base h₀ : Heap} {L : Addr} {m : Str → Option Value} {s : Shared} {Q E : Value → Shared → Prop} {news rest : List (Addr × Obj)}
theorem c_rows {sl : Addr} {n0 : Nat} {xs : List Value} {ks : List Int}
   (B : Below A₀ base outer h₀) (F : Fr h₀ L s.heap m) (X : (hd.heap_39 w.params).In h₀) (T : TopF mean mg mb h₀) (hk : cs.kind = .function)
   (N : News h₀ L s.heap news) (m1 : (sl, listOf xs.toArray n0) ∈ news) (hix : IntsAre xs ks) (hlx : ks.length ≤ 29) (hlit : ∀ p ∈ news, NotLit p.2)
   (hd : dp + 8 < recursionLimit) (hu : un + 60 < cLine)
   (ret : ∀ h' tk' rl tv nR ds news', Fr h₀ L h' m → News h₀ L h' news' → (∀ p ∈ news', NotLit p.2) → (rl, listOf (List.toArray tv) nR) ∈ news' → RowsAre rl news' tv ds → ds.length ≤ 4 → (∀ q ∈ news, q ∈ news') → Q (.ref rl) { s with heap := h', toks := tk' }) :
   wpAny (model (RowW.prog (OpenRow.toRowW (OpenLaw.row PySem.Challenge.rw_bw0014_01))) w) (ktrTop dp un gd cn cs L a ccd cl outer) (call (.ref 462) [.ref sl]) Q E s := by
  revert X
  k_fill
  intro X
  refine wpAny_call ?_
  w_strict (k_dflt cell_enter)
  w_strict k_steps
  obtain ⟨rl, mB, tp0, F1, N1, hv1, hv2, hv3, hlt1⟩ : ∃ rl mB tp0, Fr _ _ h' mB ∧ News _ _ h' ((rl, listOf (List.toArray []) 0) :: news) ∧ mB (Str.ofString "script") = some (.ref sl) ∧ mB (Str.ofString "rows") = some (.ref rl) ∧ mB (Str.ofString "place") = some (.int ((1 : Nat) : Int) tp0) ∧ (∀ p ∈ news, @LT.lt Nat _ p.1 rl) := ⟨_, _, _, F', N', rfl, rfl, rfl, by assumption⟩
  have hsr : sl ≠ rl := Nat.ne_of_lt (hlt1 _ m1)
  clear N'
  refine hold_in ⟨_, t₁, u₁, v₁, 4, mB, _, fun I i m' news' => ∃ (p : Nat) (tp : Tok) (tv : List Value) (nR : Nat) (ds : List (Bool × List Int)), m' (Str.ofString "script") = some (.ref sl) ∧ m' (Str.ofString "rows") = some (.ref rl) ∧ m' (Str.ofString "place") = some (.int (p : Int) tp) ∧ 0 < p ∧
      (sl, listOf xs.toArray n0) ∈ news' ∧ (rl, listOf tv.toArray nR) ∈ news' ∧ RowsAre rl news' tv ds ∧ ds.length ≤ i ∧ (∀ q ∈ news, q ∈ news') ∧ (∀ q ∈ news', NotLit q.2) ∧ (∀ q ∈ news, q.1 ≠ I) ∧ rl ≠ I,
    fun m' news' => ∃ (tv : List Value) (nR : Nat) (ds : List (Bool × List Int)), m' (Str.ofString "rows") = some (.ref rl) ∧ (rl, listOf tv.toArray nR) ∈ news' ∧ RowsAre rl news' tv ds ∧ ds.length ≤ 4 ∧ (∀ q ∈ news, q ∈ news') ∧ (∀ q ∈ news', NotLit q.2), rfl, hRg, F1, N1, by omega, fun I hI => ⟨?start, ?turn, ?doneJ, ?done⟩⟩
  case start =>
    refine ⟨1, tp0, [], 0, [], hv1, hv2, hv3, by omega, .tail _ (.tail _ m1), .tail _ (.head _), ⟨rfl, fun j v d h _ => by simp at h⟩, by simp, fun q hq => .tail _ (.tail _ hq), fun q hq => ?_, fun q hq => Nat.ne_of_lt (hI q (.tail _ hq)), Nat.ne_of_lt (hI _ (.head _))⟩
    rcases List.mem_cons.mp hq with rfl | hq
    · exact fun l i e => by injection e with e; revert e; decide
    · rcases List.mem_cons.mp hq with rfl | hq
      · exact notLit_list
      · exact hlit q hq
  case turn =>
    intro i h tk0 m' news' hlt hJ N2 mI h2 F2 N3
    obtain ⟨p, tp, tv, nR, ds, hv1, hv2, hv3, hp0, msl, mrl, hR, hdl, hold, hnl, hnI, hrI⟩ := hJ
    have hk1 : ∀ q ∈ news', q.1 ≠ I → q ∈ offL I news' := fun q hq hn => offL_in q hq hn
    have hR1 := hR.keep N2 mI t_rit (by decide) hk1
    have msl1 := hk1 _ msl (hnI _ m1)
    have mrl1 := hk1 _ mrl hrI
    have hold1 : ∀ q ∈ news, q ∈ offL I news' := fun q hq => hk1 q (hold q hq) (hnI q hq)
    have hnl1 : ∀ q ∈ offL I news', NotLit q.2 := fun q hq => hnl q (List.mem_filter.mp hq).1
    have hoI : ∀ q ∈ offL I news', q.1 ≠ I := offL_off
    clear F1 N1 hR msl mrl hold hnl hk1 mI N2
    generalize offL I news' = nw at hR1 msl1 mrl1 hold1 hnl1 hoI N3
    have hM0 : 0 ≤ Int.fmod (Int.fdiv (ks.getD (Int.toNat (p : Int)) 0) 2) 7 := fmod_lo _ (by decide)
    have hM1 : Int.fmod (Int.fdiv (ks.getD (Int.toNat (p : Int)) 0) 2) 7 < 7 := fmod_hi _ (by decide)
    have htv : tv.toArray.size ≤ 2000 := by rw [List.size_toArray, hR1.1]; omega
    w_strict k_steps
    · rename News _ _ _ ((I, ritO (i + 1) 4) :: nw) => NE
      rename Fr _ _ _ _ => FE
      exact hold_in ⟨_, _, _, (I, ritO (i + 1) 4) :: nw, rfl, FE, NE, .inr ⟨rfl, tv, nR, ds, hv2, .tail _ mrl1, hR1.sub (fun q hq _ => .tail _ hq), by omega, fun q hq => .tail _ (hold1 q hq), fun q hq => by
        rcases List.mem_cons.mp hq with rfl | hq
        · exact fun l i e => by injection e with e; revert e; decide
        · exact hnl1 q hq⟩⟩
    · dsimp only
      rename_i D1 ws h1 F1 N1 hI1 hC1 hL1 l1
      obtain ⟨ms, hms⟩ : ∃ ms, ms = (List.take (min (Int.toNat ((p : Int) + 1 + Int.fmod (Int.fdiv (List.getD ks (Int.toNat (p : Int)) 0) 2) 7)) (List.length ks) - Int.toNat ((p : Int) + 1)) (List.drop (Int.toNat ((p : Int) + 1)) ks)) := ⟨_, rfl⟩
      rw [← hms] at hI1
      have hml : ms.length ≤ 6 := by
        rw [hms]
        refine Nat.le_trans (List.length_take_le _ _) ?_
        omega
      refine hold_in ⟨D1, ws.toArray, 0, _, fun i y => ∃ t, y = .int (Int.fmod (ms.getD i 0) 5) t, rfl, F1, N1, .head _, (by rw [sizeLine_eq, List.size_toArray, hI1.length]; omega), ?el1, ?fin1⟩
      case el1 =>
        intro i v I oI C oC D m₂ ys h tk E' hv hC hx F N
        have hv0 : ws[i]? = some v := by simpa using hv
        obtain ⟨tx, hx'⟩ := ints_get hI1 i (List.getElem?_eq_some_iff.mp hv0).1
        have hv' : v = .int (ms.getD i 0) tx := by
          rw [hx'] at hv0; exact (Option.some.inj hv0).symm
        subst hv'
        w_strict k_steps
        exact hold_in ⟨⟨_, rfl⟩, _, rfl⟩
      case fin1 =>
        intro ys D2 h2 tk2 hlen hr F N hoff
        have hD2 : rl ≠ D2 := off1_all hoff (rl, _) (.tail _ (.tail _ mrl1))
        clear hoff
        have hlen' : ys.length = (ms.map fun x => Int.fmod x 5).length := by rw [hlen, List.size_toArray, List.length_map, hI1.length]
        have hia := ints_of (ks := ms.map fun x => Int.fmod x 5) ys hlen' fun i y hy => by
          obtain ⟨t, e⟩ := hr i y hy
          refine ⟨t, ?_⟩
          rw [e]
          congr 1
          have hi : i < ms.length := by
            have := (List.getElem?_eq_some_iff.mp hy).1
            rw [hlen'] at this; simpa using this
          rw [List.getD_eq_getElem?_getD, List.getD_eq_getElem?_getD, List.getElem?_map, List.getElem?_eq_getElem hi]; rfl
        w_strict k_steps
        dsimp only
        rename News _ _ _ ((rl, _) :: offL rl _) => NE
        rename Fr _ _ _ _ => FE
        obtain ⟨tA, bb, NE, htr⟩ : ∃ (tA : Addr) (bb : Bool), News _ _ _ ((rl, listOf (tv.toArray.push (.ref tA)) (nR + 1)) :: offL rl ((tA, tupOf [.bool bb, .ref D2].toArray 0) :: (D2, LCg.lst ys) :: (D1, listOf ws.toArray 0) :: (I, ritO (i + 1) 4) :: nw)) ∧ tA ≠ rl := ⟨_, _, NE, hNe _ (.head _) tup_ne_list⟩
        have hpe : (p : Int) + (1 + Int.fmod (Int.fdiv (ks.getD (Int.toNat (p : Int)) 0) 2) 7) = ((p + (1 + (Int.fmod (Int.fdiv (ks.getD (Int.toNat (p : Int)) 0) 2) 7).toNat) : Nat) : Int) := by omega
        have kin : ∀ q ∈ nw, q.1 ≠ rl → q ∈ (rl, listOf (tv.toArray.push (.ref tA)) (nR + 1)) :: offL rl ((tA, tupOf [.bool bb, .ref D2].toArray 0) :: (D2, LCg.lst ys) :: (D1, listOf ws.toArray 0) :: (I, ritO (i + 1) 4) :: nw) := fun q hq hn => .tail _ (offL_in q (.tail _ (.tail _ (.tail _ (.tail _ hq)))) hn)
        refine hold_in ⟨_, _, _, _, rfl, FE, NE, .inl ⟨rfl, .tail _ (offL_mem (.tail _ (.tail _ (.tail _ (.head _)))) (Ne.symm hrI)), p + (1 + (Int.fmod (Int.fdiv (ks.getD (Int.toNat (p : Int)) 0) 2) 7).toNat), _, tv ++ [.ref tA], nR + 1, ds ++ [(bb, ms.map fun x => Int.fmod x 5)], hv1, hv2, place_eq hpe, by omega, kin _ msl1 hsr, ?mr, (hR1.sub kin).snoc ⟨tA, D2, ys, _, rfl, .tail _ (offL_mem (.head _) htr), .tail _ (offL_mem (.tail _ (.head _)) (Ne.symm hD2)), hia, by rw [hlen', List.length_map]; exact hml, fm5, htr, Ne.symm hD2⟩, by rw [List.length_append, List.length_singleton]; omega, fun q hq => kin q (hold1 q hq) (Nat.ne_of_lt (hlt1 q hq)), ?nl, hnI, hrI⟩⟩
        case mr =>
          rw [← List.push_toArray]; exact .head _
        case nl =>
          intro q hq
          rcases List.mem_cons.mp hq with rfl | hq
          · exact notLit_list
          · have hq := (List.mem_filter.mp hq).1
            rcases List.mem_cons.mp hq with rfl | hq
            · exact fun l i e => by injection e with e; revert e; decide
            · rcases List.mem_cons.mp hq with rfl | hq
              · exact notLit_list
              · rcases List.mem_cons.mp hq with rfl | hq
                · exact notLit_list
                · rcases List.mem_cons.mp hq with rfl | hq
                  · exact fun l i e => by injection e with e; revert e; decide
                  · exact hnl1 q hq
  case doneJ =>
    rintro m' news' ⟨p, tp, tv, nR, ds, hv1, hv2, hv3, hp0, msl, mrl, hR, hdl, hold, hnl, hnI, hrI⟩ mI ⟨h0, N0⟩
    have hk1 : ∀ q ∈ news', q.1 ≠ I → q ∈ offL I news' := fun q hq hn => offL_in q hq hn
    exact ⟨tv, nR, ds, hv2, hk1 _ mrl hrI, hR.keep N0 mI t_rit (by decide) hk1, hdl, fun q hq => hk1 q (hold q hq) (hnI q hq), fun q hq => hnl q (List.mem_filter.mp hq).1⟩
  case done =>
    rintro h tk0 m' news' ⟨tv, nR, ds, hv2, mrl, hR, hdl, hold, hnl⟩ F2 N2
    clear F1 N1 hv1 hv3
    w_strict k_steps
    rename News h₀ L _ _ => NE
    exact ret _ _ rl tv nR ds news' (by k_asm) NE hnl mrl hR hdl hold
end
end Mine
end
-- part L3
section
open PySem PySem.W PyProof.Rows PySem.Calls
set_option Elab.async false
set_option maxRecDepth 100000
set_option maxHeartbeats 8000000
namespace Mine

theorem words_of {a b c d : Tok} {n : Int} (h0 : 0 ≤ n) (h4 : n < 4) : ∃ (vs : List Value) (us : List Str), slicePick #[Value.str (Str.ofString "p") a, Value.str (Str.ofString "q") b, Value.str (Str.ofString "r") c, Value.str (Str.ofString "s") d] none (some (1 + n)) none = vs.toArray ∧ StrsAre vs us ∧ 0 < us.length ∧ us.length ≤ 4 ∧ us.Nodup := by
  have h : n = 0 ∨ n = 1 ∨ n = 2 ∨ n = 3 := by omega
  rcases h with rfl | rfl | rfl | rfl
  · exact ⟨_, [Str.ofString "p"], rfl, .cons _ _ .nil, by decide, by decide, by decide⟩
  · exact ⟨_, [Str.ofString "p", Str.ofString "q"], rfl, .cons _ _ (.cons _ _ .nil), by decide, by decide, by decide⟩
  · exact ⟨_, [Str.ofString "p", Str.ofString "q", Str.ofString "r"], rfl, .cons _ _ (.cons _ _ (.cons _ _ .nil)), by decide, by decide, by decide⟩
  · exact ⟨_, [Str.ofString "p", Str.ofString "q", Str.ofString "r", Str.ofString "s"], rfl, .cons _ _ (.cons _ _ (.cons _ _ (.cons _ _ .nil))), by decide, by decide, by decide⟩
section
variable {M : Model} {A : Around} {E : Value → Shared → Prop} {s : Shared} {env : Env} {h₀ : Heap} {L : Addr} {m : Str → Option Value} {news : List (Addr × Obj)}
theorem join_int {e : PySem.Expr} {Q : Value → Shared → Prop} (_F : Fr h₀ L s.heap m) (_N : News h₀ L s.heap news)
    (h : Hold (wpAny M A (eval e env) (fun v s' => Hold (∃ (n : Int) (t : Tok) (h' : Heap) (tk : Nat), v = .int n t ∧ 0 ≤ n ∧ n < 4 ∧ s' = { s with heap := h', toks := tk } ∧ Fr h₀ L h' m ∧ News h₀ L h' news)) E s))
    (k : Hold (∀ (n : Int) (t : Tok) (h' : Heap) (tk : Nat), 0 ≤ n → n < 4 → Fr h₀ L h' m → News h₀ L h' news → Q (.int n t) { s with heap := h', toks := tk })) : wpAny M A (eval e env) Q E s :=
  wpAny_mono h (fun v s' hv => by
    obtain ⟨n, t, h', tk, rfl, a, b, rfl, F, N⟩ := hv
    exact k n t h' tk a b F N) fun _ _ e => e
end
end Mine
end
-- part L4
section
open PySem PySem.W PyProof.Rows PySem.Calls
set_option Elab.async false
set_option maxRecDepth 100000
set_option maxHeartbeats 8000000
namespace Mine

section
variable {prog : Program} {w : World} {A : Around} {E : Value → Shared → Prop} {s : Shared} {h₀ : Heap} {L a : Addr} {m : Str → Option Value} {cn : Str} {cs : Scope} {ccd : Value}
theorem x_pyNextE {l it : Addr} {i : Nat} {items : Array Value} {x : Value} {Q : Option Value → Shared → Prop} (hit : s.heap.get? it = some (litO l i)) (hl : s.heap.IsList l items) (hx : items[i]? = some x)
    (hQ : ∀ h', h'.get? it = some (litO l (i + 1)) → Heap.SameBut it s.heap h' → Q (some x) { s with heap := h' }) :
    wpAny (model prog w) A (pyNext (.ref it)) Q E s := by
  unfold pyNext
  refine wpAny_bind (wpAny_attempt (x_special hit hl hx fun h' e hs => ?_))
  exact wpAny_pure (hQ h' e hs)
theorem g_ForPair {x y : Str} {px py pt : Pos} {kk : Nat} {iter : PySem.Expr} {body : List Stmt} {pos : Pos} {Q : Flow → Shared → Prop}
    (F₀ : Fr h₀ L s.heap m) (hh : A.handled = none) (hx : (envOf cn cs L a ccd).kindOf x = some .local) (hy : (envOf cn cs L a ccd).kindOf y = some .local) (hk : cs.kind = .function)
    (hs : ∀ x, foldedSetIterable iter (envOf cn cs L a ccd) x = pure x)
    (hE : PassesOwn (model prog w) A (envOf cn cs L a ccd) E)
    (h : wpAny (model prog w) A (eval iter (envOf cn cs L a ccd)) (fun v s₁ => ∃ (l : Addr) (items : Array Value) (n0 : Nat) (m₁ : Str → Option Value) (news : List (Addr × Obj)) (J : Addr → Nat → (Str → Option Value) → List (Addr × Obj) → Array GenState → Prop),
      v = .ref l ∧ (l, listOf items n0) ∈ news ∧ Fr h₀ L s₁.heap m₁ ∧ News h₀ L s₁.heap news ∧
      ∀ I, (∀ p ∈ news, @LT.lt Nat _ p.1 I) → J I 0 m₁ ((I, litO l 0) :: news) s₁.gens ∧
        (∀ i h tk m news' g, i < items.size → J I i m news' g → News h₀ L h news' → (I, litO l i) ∈ news' → ∃ t b c n1, items[i]? = some (.ref t) ∧ t ≠ I ∧ (t, tupOf #[b, c] n1) ∈ news' ∧
          ∀ h', Fr h₀ L h' (fun z => if z = y then some c else if z = x then some b else m z) → News h₀ L h' ((I, litO l (i + 1)) :: offL I news') →
          wpAny (model prog w) A (execs body (envOf cn cs L a ccd)) (fun f s₃ => Hold (f = .next ∧ ∃ h3 tk3 m3 news3 g3, s₃ = { s₁ with heap := h3, gens := g3, toks := tk3 } ∧ Fr h₀ L h3 m3 ∧ News h₀ L h3 news3 ∧ (I, litO l (i + 1)) ∈ news3 ∧ (l, listOf items n0) ∈ news3 ∧ J I (i + 1) m3 news3 g3)) E { s₁ with heap := h', gens := g, toks := tk + 1 + 1 }) ∧
        (∀ h tk m news' g, J I items.size m news' g → (∃ h0, News h₀ L h0 news') → Fr h₀ L h m → News h₀ L h (offL I news') → Q .next { s₁ with heap := h, gens := g, toks := tk })) E s) :
    wpAny (model prog w) A (exec (.For (.Tuple [.Name x px, .Name y py] kk pt) iter body [] pos) (envOf cn cs L a ccd)) Q E s := by
  refine wpAny_For (wpAny_mono h (fun v s₁ h₁ => ?_) fun _ _ e => e) hs
  obtain ⟨l, items, n0, m₁, news, J, rfl, ml, F, N, hJ⟩ := h₁
  refine wpAny_pyIter_list (N.isList ml) ?_
  have F1 := F.push (litO l 0)
  have N1 := N.push F (litO l 0) rfl
  have hlt : ∀ p ∈ news, @LT.lt Nat _ p.1 s₁.heap.objs.size := fun p hp => Heap.lt_size (N p hp).1
  have eR : ({ cls := .type "list_iterator", data := .fields #[.ref l, .int 0 0] } : Obj) = litO l 0 := rfl
  rw [eR]
  generalize s₁.heap.objs.size = I at N1 hlt ⊢
  obtain ⟨hJ0, turn, done⟩ := hJ I hlt
  have hlI : l ≠ I := Nat.ne_of_lt (hlt _ ml)
  refine codeAny_forLoop_any (fun k s' => ∃ i h tk m news' g, k = items.size - i ∧ i ≤ items.size ∧ s' = { s₁ with heap := h, gens := g, toks := tk } ∧ Fr h₀ L h m ∧ News h₀ L h news' ∧ (I, litO l i) ∈ news' ∧ (l, listOf items n0) ∈ news' ∧ J I i m news' g) ?_ items.size
    ⟨0, _, _, _, _, _, rfl, Nat.zero_le _, rfl, F1, N1, .head _, .tail _ ml, hJ0⟩
  rintro k s' ⟨i, h, tk, m', news', g, rfl, hi, rfl, F2, N2, mI, ml2, hJi⟩
  have hI := N2 _ mI
  have hl2 := N2.isList ml2
  rcases Nat.lt_or_ge i items.size with hlt | hge
  · obtain ⟨t, b, c, n1, hit, htI, mt, turn'⟩ := turn i h tk m' news' g hlt hJi N2 mI
    refine x_pyNextE hI.1 hl2 hit fun h1 hit1 hs1 => ?_
    refine wpAny_letOwnedTupleGo_listiter ⟨_, hit1, rfl, rfl⟩ ?_
    have F3 := F2.change hs1 hI.2.1 hI.2.2
    have N3 : News h₀ L h1 ((I, litO l (i + 1)) :: offL I news') := fun q hq => by
      rcases List.mem_cons.mp hq with rfl | hq
      · exact ⟨hit1, hI.2⟩
      · have hq' := List.mem_filter.mp hq
        have hne : q.1 ≠ I := by simpa using hq'.2
        exact ⟨(hs1.2 _ hne).trans (N2 q hq'.1).1, (N2 q hq'.1).2⟩
    refine unpackN_ F3 N3 (News.isTup N3 (.tail _ (offL_mem mt htI))) hh rfl rfl fun h2 F4 N4 => ?_
    refine assignInOrder_cons (t := assign (.Name x px) (envOf cn cs L a ccd)) (wpAny_assign_Name (wpAny_storeName_local hx F4.ns (fun h3 hn3 hs3 => ?_) (by rw [show (envOf cn cs L a ccd).scope.kind = cs.kind from rfl, hk]; rfl)))
    have F5 := F4.set hn3 hs3
    refine assignInOrder_cons (t := assign (.Name y py) (envOf cn cs L a ccd)) (wpAny_assign_Name (wpAny_storeName_local hy F5.ns (fun h4 hn4 hs4 => ?_) (by rw [show (envOf cn cs L a ccd).scope.kind = cs.kind from rfl, hk]; rfl)))
    have F6 := F5.set hn4 hs4
    have N5 : News h₀ L h4 ((I, litO l (i + 1)) :: offL I news') := fun q hq => ⟨(hs4.2 _ (N4 q hq).2.1).trans ((hs3.2 _ (N4 q hq).2.1).trans (N4 q hq).1), (N4 q hq).2⟩
    refine assignInOrder_nil ?_
    dsimp only
    refine wpAny_passesOwn hE ?_
    refine (wpAny_mono (turn' h4 F6 N5) (fun f s₃ h₃ => ?_) fun _ _ e => e)
    · obtain ⟨rfl, h3, tk3, m3, news3, g3, rfl, F5, N5, mI3, ml3, hJ3⟩ := h₃
      exact ⟨items.size - (i + 1), by omega, i + 1, h3, tk3, m3, news3, g3, rfl, hlt, rfl, F5, N5, mI3, ml3, hJ3⟩
  · have hin : i = items.size := by omega
    subst hin
    refine wpAny_pyNext_list_end hh ⟨_, hI.1, rfl, rfl⟩ hl2 (by simp) fun h1 he1 => wpAny_execs_nil ?_
    refine done h1 _ m' _ _ hJi ⟨_, N2⟩ ⟨F2.ns.at' fun o e => he1 _ o (Ne.symm hI.2.1) e, fun b o e => he1 b o (fun q => by rw [q, hI.2.2] at e; cases e) (F2.keep b o e), F2.above⟩ fun q hq => ?_
    have hq' := List.mem_filter.mp hq
    have hne : q.1 ≠ I := by simpa using hq'.2
    exact ⟨he1 _ _ hne (N2 q hq'.1).1, (N2 q hq'.1).2⟩
end
end Mine
end
-- part L5
section
open PySem PySem.W PyProof.Rows PySem.Calls
set_option Elab.async false
set_option maxRecDepth 100000
set_option maxHeartbeats 8000000
namespace Mine

structure LawC where
  (rl wl cy dc tp jo jd I : Addr)
  (nR nw ntp : Nat)
  (tv vs : List Value)
  (ds : List (Bool × List Int))
  (hi hp hi2 hp2 : Int)
  (ti tk ti2 tk2 tsp : Tok)
structure LawIm (c : LawC) (news : List (Addr × Obj)) : Prop where
  mrl : (c.rl, listOf c.tv.toArray c.nR) ∈ news
  hR : RowsAre c.rl news c.tv c.ds
  mwl : (c.wl, listOf c.vs.toArray c.nw) ∈ news
  mcy : (c.cy, instObj 90 c.dc) ∈ news
  mtp : (c.tp, tupOf c.vs.toArray c.ntp) ∈ news
  mjo : (c.jo, instObj 119 c.jd) ∈ news
structure LawLed (c : LawC) (news : List (Addr × Obj)) (i : Nat) (p : Int) (b : Bool) (it : Addr) (iv : List Value) (nI : Nat) : Prop where
  im : LawIm c news
  mit : (it, listOf iv.toArray nI) ∈ news
  mdc : ∃ t1, (c.dc, cycD c.hi c.hp c.ti c.tk c.tp p t1) ∈ news
  mjd : (c.jd, joinD c.hi2 c.hp2 c.ti2 c.tk2 (Str.ofString "-") c.tsp b) ∈ news
  mI : (c.I, litO c.rl i) ∈ news
  lit : ∀ q ∈ news, q.1 ≠ c.I → NotLit q.2
theorem RowAt.keep {rl : Addr} {news news' : List (Addr × Obj)} {v : Value} {d : Bool × List Int} (R : RowAt rl news v d) (k : ∀ q ∈ news, tagO q.2 = 6 → q ∈ news') : RowAt rl news' v d := by
  obtain ⟨t, r, rs, nr, e, m1, m2, e3⟩ := R
  exact ⟨t, r, rs, nr, e, k _ m1 rfl, k _ m2 rfl, e3⟩
theorem RowsAre.keep6 {rl : Addr} {news news' : List (Addr × Obj)} {tv : List Value} {ds : List (Bool × List Int)} (R : RowsAre rl news tv ds) (k : ∀ q ∈ news, tagO q.2 = 6 → q ∈ news') : RowsAre rl news' tv ds := ⟨R.1, fun j v x hv hx => (R.2 j v x hv hx).keep k⟩
theorem LawIm.keep {c : LawC} {news news' : List (Addr × Obj)} (R : LawIm c news) (k : ∀ q ∈ news, (tagO q.2 = 6 ∨ tagO q.2 = 7) → q ∈ news') : LawIm c news' :=
  ⟨k _ R.mrl (.inl rfl), R.hR.keep6 fun q hq h => k q hq (.inl h), k _ R.mwl (.inl rfl), k _ R.mcy (.inr rfl), k _ R.mtp (.inl rfl), k _ R.mjo (.inr rfl)⟩
section
variable {c : LawC} {news news' : List (Addr × Obj)} {h₀ h h' : Heap} {L : Addr} {i : Nat} {p : Int} {b : Bool} {it : Addr} {iv : List Value} {nI : Nat}
theorem LawLed.to {p' : Int} {b' : Bool} (R : LawLed c news i p b it iv nI) (e1 : p = p') (e2 : b = b') : LawLed c news i p' b' it iv nI := by
  subst e1 e2; exact R
theorem notLit_of {o : Obj} (h : tagO o ≠ 5) : NotLit o := fun l i e => h (by rw [e]; rfl)
theorem nl_nil : ∀ q ∈ ([] : List (Addr × Obj)), NotLit q.2 := fun _ h => nomatch h
theorem nl_cons {a : Addr} {o : Obj} {l : List (Addr × Obj)} (n : Nat) (e : tagO o = n) (h : n ≠ 5) (r : ∀ q ∈ l, NotLit q.2) : ∀ q ∈ (a, o) :: l, NotLit q.2 := fun q hq => by
  rcases List.mem_cons.mp hq with rfl | hq
  · exact notLit_of (fun z => h (e.symm.trans z))
  · exact r q hq
theorem LawLed.turn (R : LawLed c news i p b it iv nI) (N : News h₀ L h news) : LawLed c ((c.I, litO c.rl (i + 1)) :: offL c.I news) (i + 1) p b it iv nI := by
  obtain ⟨t1, mc⟩ := R.mdc
  have k : ∀ q ∈ news, tagO q.2 ≠ 5 → q ∈ (c.I, litO c.rl (i + 1)) :: offL c.I news := fun q hq ht => .tail _ (offL_in q hq (tne (o := q.2) N hq R.mI rfl t_lit ht))
  refine ⟨R.im.keep fun q hq ht => k q hq (by rcases ht with ht | ht <;> rw [ht] <;> decide), k _ R.mit (by rw [t_list]; decide), ⟨t1, k _ mc (by rw [t_cyc]; decide)⟩, k _ R.mjd (by rw [t_join]; decide), .head _, fun q hq hn => ?_⟩
  rcases List.mem_cons.mp hq with rfl | hq
  · exact absurd rfl hn
  · exact R.lit q (List.mem_filter.mp hq).1 hn
theorem LawLed.reset {p' : Int} {t' : Tok} (R : LawLed c news i p b it iv nI) (N : News h₀ L h news) : LawLed c ((c.dc, cycD c.hi c.hp c.ti c.tk c.tp p' t') :: offL c.dc news) i p' b it iv nI := by
  obtain ⟨t1, mc⟩ := R.mdc
  have k : ∀ q ∈ news, tagO q.2 ≠ 2 → q ∈ (c.dc, cycD c.hi c.hp c.ti c.tk c.tp p' t') :: offL c.dc news := fun q hq ht => .tail _ (offL_in q hq (tne (o := q.2) N hq mc rfl t_cyc ht))
  refine ⟨R.im.keep fun q hq ht => k q hq (by rcases ht with ht | ht <;> rw [ht] <;> decide), k _ R.mit (by rw [t_list]; decide), ⟨t', .head _⟩, k _ R.mjd (by rw [t_join]; decide), k _ R.mI (by rw [t_lit]; decide), fun q hq hn => ?_⟩
  rcases List.mem_cons.mp hq with rfl | hq
  · exact notLit_of (by rw [t_cyc]; decide)
  · exact R.lit q (List.mem_filter.mp hq).1 hn
theorem LawLed.row {p' : Int} {t' : Tok} {b' : Bool} (R : LawLed c news i p b it iv nI) (N : News h₀ L h news) : LawLed c ((c.I, litO c.rl i) :: (c.dc, cycD c.hi c.hp c.ti c.tk c.tp p' t') :: (c.jd, joinD c.hi2 c.hp2 c.ti2 c.tk2 (Str.ofString "-") c.tsp b') :: offL c.jd (offL c.dc (offL c.I news))) i p' b' it iv nI := by
  obtain ⟨t1, mc⟩ := R.mdc
  have k : ∀ q ∈ news, tagO q.2 ≠ 2 → tagO q.2 ≠ 3 → tagO q.2 ≠ 5 → q ∈ (c.I, litO c.rl i) :: (c.dc, cycD c.hi c.hp c.ti c.tk c.tp p' t') :: (c.jd, joinD c.hi2 c.hp2 c.ti2 c.tk2 (Str.ofString "-") c.tsp b') :: offL c.jd (offL c.dc (offL c.I news)) := fun q hq h2 h3 h5 =>
    .tail _ (.tail _ (.tail _ (offL_in q (offL_in q (offL_in q hq (tne (o := q.2) N hq R.mI rfl t_lit h5)) (tne (o := q.2) N hq mc rfl t_cyc h2)) (tne (o := q.2) N hq R.mjd rfl t_join h3))))
  refine ⟨R.im.keep fun q hq ht => k q hq (by rcases ht with ht | ht <;> rw [ht] <;> decide) (by rcases ht with ht | ht <;> rw [ht] <;> decide) (by rcases ht with ht | ht <;> rw [ht] <;> decide), k _ R.mit (by rw [t_list]; decide) (by rw [t_list]; decide) (by rw [t_list]; decide), ⟨t', .tail _ (.head _)⟩, .tail _ (.tail _ (.head _)), .head _, fun q hq hn => ?_⟩
  rcases List.mem_cons.mp hq with rfl | hq
  · exact absurd rfl hn
  · rcases List.mem_cons.mp hq with rfl | hq
    · exact notLit_of (by rw [t_cyc]; decide)
    · rcases List.mem_cons.mp hq with rfl | hq
      · exact notLit_of (by rw [t_join]; decide)
      · exact R.lit q (List.mem_filter.mp (List.mem_filter.mp (List.mem_filter.mp hq).1).1).1 hn
theorem LawLed.fin (R : LawLed c news i p b it iv nI) (N : News h₀ L h news) : (c.wl, listOf c.vs.toArray c.nw) ∈ offL c.I news ∧ (c.cy, instObj 90 c.dc) ∈ offL c.I news ∧ (c.tp, tupOf c.vs.toArray c.ntp) ∈ offL c.I news ∧ (it, listOf iv.toArray nI) ∈ offL c.I news ∧ ∃ t1, (c.dc, cycD c.hi c.hp c.ti c.tk c.tp p t1) ∈ offL c.I news := by
  obtain ⟨t1, mc⟩ := R.mdc
  have k : ∀ q ∈ news, tagO q.2 ≠ 5 → q ∈ offL c.I news := fun q hq ht => offL_in q hq (tne (o := q.2) N hq R.mI rfl t_lit ht)
  exact ⟨k _ R.im.mwl (by rw [t_list]; decide), k _ R.im.mcy (by rw [t_inst]; decide), k _ R.im.mtp (by rw [t_tup]; decide), k _ R.mit (by rw [t_list]; decide), t1, k _ mc (by rw [t_cyc]; decide)⟩
theorem LawLed.items {D : Addr} {ys : List Value} {nY : Nat} (R : LawLed c news i p b it iv nI) : LawLed c ((D, listOf ys.toArray nY) :: news) i p b D ys nY := by
  obtain ⟨t1, mc⟩ := R.mdc
  refine ⟨R.im.keep fun q hq _ => .tail _ hq, .head _, ⟨t1, .tail _ mc⟩, .tail _ R.mjd, .tail _ R.mI, fun q hq hn => ?_⟩
  rcases List.mem_cons.mp hq with rfl | hq
  · exact notLit_list
  · exact R.lit q hq hn
end
section
variable {w : World} {mean : ExcName → Option Value} {mg mb : Str → Option Value} {dp un : Nat} {gd : Option (List Code)} {cn : Str} {cs : Scope} {a : Addr} {ccd : Value} {cl : List (Str × Addr)} {outer : List Env} {A₀ : Around} {base h₀ : Heap} {L : Addr} {m : Str → Option Value} {s : Shared} {Q E : Value → Shared → Prop} {news rest : List (Addr × Obj)}
variable {c : LawC} {us : List Str} {i : Nat} {p : Int} {b : Bool} {it : Addr} {iv : List Value} {nI : Nat}
theorem l_reset
   (B : Below A₀ base outer h₀) (F : Fr h₀ L s.heap m) (X : (hd.heap_39 w.params).In h₀) (T : TopF mean mg mb h₀) (hk : cs.kind = .function)
   (N : News h₀ L s.heap news) (R : LawLed c news i p b it iv nI)
   (hd : dp + 3 < recursionLimit) (hu : un + 8 < cLine)
   (ret : ∀ h' tk' news', Fr h₀ L h' m → News h₀ L h' news' → (∀ q ∈ news, tagO q.2 = 6 → q ∈ news') → LawLed c news' i 0 b it iv nI → Q .none { s with heap := h', toks := tk' }) :
   wpAny (model (RowW.prog (OpenRow.toRowW (OpenLaw.row PySem.Challenge.rw_bw0014_01))) w) (ktrTop dp un gd cn cs L a ccd cl outer) (call (.ref 72) [.ref c.cy]) Q E s := by
  obtain ⟨t1, mc⟩ := R.mdc
  refine c_reset0 B F X T hk (News.out N mc) (offL_mem R.im.mcy (tne N R.im.mcy mc t_inst t_cyc (by decide))) offL_off (by omega) hu fun h' tk' t1 F' N' => ?_
  exact ret _ _ _ F' N' (fun q hq ht => .tail _ (offL_in q hq (tne (o := q.2) N hq mc ht t_cyc (by decide)))) (R.reset N)
theorem l_row {row : Addr} {nr : Nat} {rs : List Value} {ns : List Int} {count : Nat} {tkn : Tok}
   (B : Below A₀ base outer h₀) (F : Fr h₀ L s.heap m) (X : (hd.heap_39 w.params).In h₀) (T : TopF mean mg mb h₀) (hk : cs.kind = .function)
   (N : News h₀ L s.heap news) (R : LawLed c news i p b it iv nI)
   (m1 : (row, listOf rs.toArray nr) ∈ news)
   (hs : StrsAre c.vs us) (h0 : 0 < us.length) (hw : us.length ≤ 4) (hrs : rs.length ≤ 6)
   (his : IntsAre rs ns) (hnd : us.Nodup) (hbd : ∀ k, 0 ≤ ns.getD k 0 ∧ ns.getD k 0 < 5) (hp0 : p = Int.fmod (count : Int) (us.length : Int))
   (hd : dp + 8 < recursionLimit) (hu : un + 60 < cLine)
   (ret : ∀ h' tk' t2 news', Fr h₀ L h' m → News h₀ L h' news' → (∀ q ∈ news, tagO q.2 = 6 → q ∈ news') → LawLed c news' i (Int.fmod ((count : Int) + (rs.length : Int)) (us.length : Int)) (b || decide (0 < rs.length)) it iv nI → Q (.str (txt (Str.ofString "-") b ns rs.length) t2) { s with heap := h', gens := s.gens.push .finished, toks := tk' }) :
   wpAny (model (RowW.prog (OpenRow.toRowW (OpenLaw.row PySem.Challenge.rw_bw0014_01))) w) (ktrTop dp un gd cn cs L a ccd cl outer) (call (.ref 474) [.ref row, .ref c.wl, .ref c.cy, .int (count : Int) tkn, .ref c.jo]) Q E s := by
  obtain ⟨t1, mc⟩ := R.mdc
  have k5 : ∀ q ∈ news, tagO q.2 ≠ 5 → q ∈ offL c.I news := fun q hq ht => offL_in q hq (tne (o := q.2) N hq R.mI rfl t_lit ht)
  have N1 : News h₀ L s.heap (offL c.I news) := fun q hq => N q (List.mem_filter.mp hq).1
  have hch : (chunksOf us.length rs).length ≤ 1000 := by
    have := chunk_count h0 rs []
    rw [List.nil_append] at this
    exact Nat.le_trans this (by omega)
  refine c_row B F X T hk N1 (k5 _ m1 (by rw [t_list]; decide)) (k5 _ R.im.mwl (by rw [t_list]; decide)) (k5 _ R.im.mcy (by rw [t_inst]; decide)) (k5 _ mc (by rw [t_cyc]; decide)) (k5 _ R.im.mtp (by rw [t_tup]; decide)) (k5 _ R.im.mjo (by rw [t_inst]; decide)) (k5 _ R.mjd (by rw [t_join]; decide)) hs h0 hw
    (fun q hq => R.lit q (List.mem_filter.mp hq).1 (by simpa using (List.mem_filter.mp hq).2)) hch (by omega) (by decide) his hnd hbd hp0 hd hu fun h' tk' t1 t2 F' N' hold => ?_
  refine ret h' tk' t2 _ F' (fun q hq => ?_) (fun q hq ht => ?_) (R.row (t' := t1) N)
  · rcases List.mem_cons.mp hq with rfl | hq
    · exact ⟨hold _ _ (N _ R.mI).1 (fun hm => by
        obtain ⟨z, hz, e⟩ := List.mem_map.mp hm
        exact offL_off z hz e), (N _ R.mI).2⟩
    · exact N' q hq
  · exact .tail _ (.tail _ (.tail _ (offL_in q (offL_in q (k5 q hq (by rw [ht]; decide)) (tne (o := q.2) N hq mc ht t_cyc (by decide))) (tne (o := q.2) N hq R.mjd ht t_join (by decide)))))
end
end Mine
end
-- part L6
section
open PySem PySem.W PyProof.Rows PySem.Calls
set_option Elab.async false
set_option maxRecDepth 100000
set_option maxHeartbeats 8000000
namespace Mine

theorem hold7 {a b c d e f g k : Addr × Obj} {l nw : List (Addr × Obj)} (h : ∀ q ∈ a :: b :: c :: d :: e :: f :: g :: k :: l, q ∈ nw) : b ∈ nw ∧ c ∈ nw ∧ d ∈ nw ∧ e ∈ nw ∧ f ∈ nw ∧ g ∈ nw ∧ k ∈ nw :=
  ⟨h _ (by simp), h _ (by simp), h _ (by simp), h _ (by simp), h _ (by simp), h _ (by simp), h _ (by simp)⟩
theorem law_fit {ns rn : List Int} (h1 : ns.length ≤ 18) (h2 : rn.length ≤ 6) (b1 : ∀ k, 0 ≤ ns.getD k 0 ∧ ns.getD k 0 < 5) (b2 : ∀ k, 0 ≤ rn.getD k 0 ∧ rn.getD k 0 < 5) (b : Bool) :
    (joined (Str.ofString "-") ns).length + (txt (Str.ofString "-") b rn rn.length).length ≤ sizeLine := by
  rw [← txt_join]
  have l1 := txt_len (sep := Str.ofString "-") (b := false) (ns := ns) (by decide) b1 ns.length
  have l2 := txt_len (sep := Str.ofString "-") (b := b) (ns := rn) (by decide) b2 rn.length
  rw [sizeLine_eq]
  omega
theorem law_text (ns rn : List Int) : joined (Str.ofString "-") ns ++ txt (Str.ofString "-") (decide (ns ≠ [])) rn rn.length = joined (Str.ofString "-") (ns ++ rn) := by
  have z := txt_joined (Str.ofString "-") ns rn rn.length (Nat.le_refl _)
  rw [List.take_length] at z
  exact z
theorem law_used (ns rn : List Int) : (decide (ns ≠ []) || decide (0 < rn.length)) = decide (ns ++ rn ≠ []) := by
  cases ns with
  | cons a r => simp
  | nil => cases rn <;> simp
theorem getD_app {ns rn : List Int} (b1 : ∀ k, 0 ≤ ns.getD k 0 ∧ ns.getD k 0 < 5) (b2 : ∀ k, 0 ≤ rn.getD k 0 ∧ rn.getD k 0 < 5) : ∀ k, 0 ≤ (ns ++ rn).getD k 0 ∧ (ns ++ rn).getD k 0 < 5 := fun k => by
  have c1 := b1 k
  have c2 := b2 (k - ns.length)
  rw [List.getD_eq_getElem?_getD] at c1 c2 ⊢
  rcases Nat.lt_or_ge k ns.length with q | q
  · rw [List.getElem?_append_left q]; exact c1
  · rw [List.getElem?_append_right q]; exact c2
theorem some_str {a b : Str} {t : Tok} (e : a = b) : some (Value.str a t) = some (Value.str b t) := by rw [e]
theorem law_pos {a b : Nat} {n : Nat} : Int.fmod ((a : Int) + (b : Int)) (n : Int) = Int.fmod ((a + b : Nat) : Int) (n : Int) := by push_cast; rfl
section
variable {prog : Program} {w : World} {A : Around} {E : Value → Shared → Prop} {s : Shared} {Q : Value → Shared → Prop}
theorem x_eq_str {x y : Str} {t u : Tok} (e : x = y) (h : Q (.bool true) s) : wpAny (model prog w) A (compareOp .Eq (.str x t) (.str y u)) Q E s :=
  P.eq_str (by rw [e]; simpa using h)
end
end Mine
end
-- part LW
section
open PySem PySem.W PyProof.Rows PySem.Calls
set_option Elab.async false
set_option maxRecDepth 100000
set_option maxHeartbeats 8000000
namespace Mine

local macro_rules | `(tactic| k_room) => `(tactic| ktr_room)
local macro_rules | `(tactic| k_units) => `(tactic| ktr_units)
local macro_rules | `(tactic| k_mem) => `(tactic| assumption)
local macro_rules | `(tactic| k_all) => `(tactic| assumption)
local macro_rules | `(tactic| walk_at "subscriptTail") => `(tactic| (k_here; (with_reducible show wpAny _ _ (subscriptTail _ _ (Value.ref _) (Value.int _ _)) _ _ _); with_unfolding_all (first
  | (refine' KTb.item_tup ?t ?w ?a ?b ?f ?_; (case t => exact News.isTup (by k_asm) (by k_mem)); (case w => assumption); (case a => first | omega | exact fm_lo (by assumption)); (case b => first | omega | exact fm_hi (by assumption)); (case f => first | omega | exact fm_hi63 (by assumption) (by assumption)); k_whole)
  | (refine' KTb.item_list ?t ?w ?a ?b ?f ?_; (case t => exact News.isList (by k_asm) (by k_mem)); (case w => assumption); (case a => first | omega | exact fm_lo (by assumption)); (case b => first | omega | exact fm_hi (by assumption)); (case f => first | omega | exact fm_hi63 (by assumption) (by assumption)); k_whole)); intro _ _))
local macro_rules | `(tactic| walk_at "call builtin:len") => `(tactic| (k_here; (with_reducible show wpAny _ _ (call (Value.builtin "len") [Value.ref _]) _ _ _); k_dflt (first
  | (refine' kun_lenT ?k1 ?k2 ?k3 ?_; (case k1 => exact News.isTup (by k_asm) (by k_mem)); (case k2 => exact sz_strs (by assumption)); (case k3 => omega); k_whole)
  | (refine' kun_lenL ?k1 ?k2 ?k3 ?_; (case k1 => exact News.isList (by k_asm) (by k_mem)); (case k2 => exact sz_strs (by assumption)); (case k3 => omega); k_whole))))
local macro_rules | `(tactic| walk_at "call builtin:iter") => `(tactic| (k_here; (with_reducible show wpAny _ _ (call (Value.builtin "iter") [Value.ref _]) _ _ _); k_dflt (refine' x_iter ?k1 ?k2 ?k3 ?_; (case k1 => k_asm); (case k2 => k_asm); (case k3 => exact News.isList (by k_asm) (by k_mem)); k_whole); intro I' h' F' N' l1; (try k_lt l1); (try k_sweep)))
local macro_rules | `(tactic| walk_at "call builtin:next") => `(tactic| (k_here; (with_reducible show wpAny _ _ (call (Value.builtin "next") [Value.ref _]) _ _ _); k_dflt (refine' x_next ?k1 ?k2 ?k3 ?k4 ?k5 ?_; (case k1 => k_asm); (case k2 => k_asm); (case k3 => k_updF); (case k4 => exact News.isList (by k_asm) (by k_mem)); (case k5 => first | assumption | exact rfl); k_whole); intro h' F' N'; (try dsimp only at N'); (try k_sweep)))
local macro_rules | `(tactic| k_handed) => `(tactic| assumption)
local macro_rules | `(tactic| walk_at "truthy ref") => `(tactic| (k_here; k_dflt (refine' x_truthyT ?k1 ?k2 ?k3 ?k4 ?_; (case k1 => exact News.isTup (by k_asm) (by k_mem)); (case k2 => assumption); (case k3 => assumption); (case k4 => assumption); k_whole); intro _))

local macro_rules | `(tactic| k_mem) => `(tactic| (with_reducible (repeat (first | assumption | exact List.mem_append_right _ (by assumption) | exact List.mem_cons_self | refine List.mem_cons_of_mem _ ?_)); done))

set_option hygiene false in
local macro_rules | `(tactic| walk_at "eval IfExp") => `(tactic| (k_here; (fail_if_success (with_reducible show wpAny _ _ _ (fun _ _ => Hold _) _ _)); k_dflt (refine join_int (by k_asm) (by k_asm) ?hIf ?hOn)))
local macro_rules | `(tactic| walk_at "StarOf ref") => `(tactic| (k_here; k_dflt (refine' star_seq ?k1 ?k2 ?m ?c ?d ?T ?e ?z ?_; (case k1 => k_asm); (case k2 => k_asm); (case m => k_mem); (case c => exact rfl); (case d => exact rfl); (case T => first | exact .inl rfl | exact .inr rfl); (case e => exact List.toList_toArray); (case z => exact vs_fit (by assumption) (by assumption)); k_whole); intro h' F' N'; (try dsimp only [List.nil_append])))
set_option hygiene false in
local macro_rules | `(tactic| walk_at "call ref") => `(tactic| (k_here; (with_reducible show wpAny _ _ (call (Value.ref 90) _) _ _ _); (try dsimp only [List.nil_append]); k_dflt (refine' c_new ?k1 ?k2 ?k3 ?k4 ?k5 ?k6 ?x1 ?x2 ?x3 ?ka ?kb ?_; (case k1 => k_asm); (case k2 => k_asm); (case k3 => k_asm); (case k4 => k_asm); (case k5 => rfl); (case k6 => k_asm); (case x1 => assumption); (case x2 => assumption); (case x3 => assumption); (case ka => ktr_room); (case kb => ktr_units); k_whole); intro h' tk' cy dc tp hiC hpC tiC tkC t1C F' N' lC1 lC2 lC3))
set_option hygiene false in
local macro_rules | `(tactic| walk_at "call ref") => `(tactic| (k_here; (with_reducible show wpAny _ _ (call (Value.ref 119) _) _ _ _); (try dsimp only [List.nil_append, List.cons_append]); k_dflt (refine' c_joinnew1 ?k1 ?k2 ?k3 ?k4 ?k5 ?k6 ?ka ?kb ?_; (case k1 => k_asm); (case k2 => k_asm); (case k3 => k_asm); (case k4 => k_asm); (case k5 => rfl); (case k6 => k_asm); (case ka => ktr_room); (case kb => ktr_units); k_whole); intro h' tk' jo jd hiJ hpJ tiJ tkJ tsJ F' N' lJ1 lJ2))
set_option hygiene false in
local macro_rules | `(tactic| walk_at "exec For Tuple Call cons nil") => `(tactic| (k_here; k_dflt ((refine g_ForPair (by k_asm) ?gh ?gx ?gy ?gk ?gs ?gE ?_); (case gh => rfl); (case gx => rfl); (case gy => rfl); (case gk => rfl); (case gs => intro _; rfl); (case gE => passes_own))))
set_option hygiene false in
local macro_rules | `(tactic| walk_at "call ref") => `(tactic| (k_here; (with_reducible show wpAny _ _ (call (Value.ref 462) _) _ _ _); (try dsimp only [List.nil_append, List.cons_append]); k_dflt (refine' c_rows ?k1 ?k2 ?k3 ?k4 ?k5 ?k6 ?x1 ?x2 ?x3 ?x4 ?ka ?kb ?_; (case k1 => k_asm); (case k2 => k_asm); (case k3 => k_asm); (case k4 => k_asm); (case k5 => rfl); (case k6 => k_asm); (case x1 => k_mem); (case x2 => assumption); (case x3 => exact List.length_take_le _ _); (case x4 => repeat (first | exact nl_nil | refine nl_cons 6 rfl (by decide) ?_ | refine nl_cons 7 rfl (by decide) ?_ | refine nl_cons 2 rfl (by decide) ?_ | refine nl_cons 3 rfl (by decide) ?_)); (case ka => ktr_room); (case kb => ktr_units); k_whole); intro h' tk' rl tv nR ds nw F' N' hnl mrl hR hdl hold; refine ex_stop ?_))
set_option hygiene false in
local macro_rules | `(tactic| walk_at "eval Name") => `(tactic| (k_here; k_dflt (refine' ld ?k1 ?k2 ?_; (case k1 => k_asm); (case k2 => first | exact hv1 | exact hv2 | exact hv3 | exact hv4 | exact hv5 | exact hv6); k_whole)))
set_option hygiene false in
local macro_rules | `(tactic| walk_at "loadName") => `(tactic| (k_here; k_dflt (refine' ldn ?k1 ?k2 ?_; (case k1 => k_asm); (case k2 => first | exact hv1 | exact hv2 | exact hv3 | exact hv4 | exact hv5 | exact hv6); k_whole)))
set_option hygiene false in
local macro_rules | `(tactic| walk_at "call ref") => `(tactic| (k_here; (with_reducible show wpAny _ _ (call (Value.ref 72) _) _ _ _); (with_reducible rename LawLed _ _ _ _ _ _ _ _ => rL); (try dsimp only [List.nil_append, List.cons_append]); k_dflt (refine' l_reset ?k1 ?k2 ?k3 ?k4 ?k5 ?k6 rL ?ka ?kb ?_; (case k1 => k_asm); (case k2 => k_asm); (case k3 => k_asm); (case k4 => k_asm); (case k5 => rfl); (case k6 => k_asm); (case ka => ktr_room); (case kb => ktr_units); k_whole); intro h' tk' nw' F' N' hk6 R'; (k_dflt (replace mr1 := hk6 _ mr1 rfl)); clear hk6 rL; (have mcy := R'.im.mcy); (obtain ⟨_, mdc⟩ := R'.mdc); dsimp only at mcy mdc))
set_option hygiene false in
local macro_rules | `(tactic| walk_at "call ref") => `(tactic| (k_here; (with_reducible show wpAny _ _ (call (Value.ref 474) _) _ _ _); (with_reducible rename LawLed _ _ _ _ _ _ _ _ => rL); (try dsimp only [List.nil_append, List.cons_append]); k_dflt (first
  | (refine' l_row (us := us) (count := count) ?k1 ?k2 ?k3 ?k4 ?k5 ?k6 rL ?x1 ?x2 ?x3 ?x4 ?x5 ?x6 ?x7 ?x8 ?x9 ?ka ?kb ?_; (case k1 => k_asm); (case k2 => k_asm); (case k3 => k_asm); (case k4 => k_asm); (case k5 => rfl); (case k6 => k_asm); (case x1 => exact mr1); (case x2 => assumption); (case x3 => assumption); (case x4 => assumption); (case x5 => assumption); (case x6 => assumption); (case x7 => assumption); (case x8 => assumption); (case x9 => rfl); (case ka => ktr_room); (case kb => ktr_units); k_whole)
  | (refine' l_row (us := us) (count := 0) ?k1 ?k2 ?k3 ?k4 ?k5 ?k6 rL ?x1 ?x2 ?x3 ?x4 ?x5 ?x6 ?x7 ?x8 ?x9 ?ka ?kb ?_; (case k1 => k_asm); (case k2 => k_asm); (case k3 => k_asm); (case k4 => k_asm); (case k5 => rfl); (case k6 => k_asm); (case x1 => exact mr1); (case x2 => assumption); (case x3 => assumption); (case x4 => assumption); (case x5 => assumption); (case x6 => assumption); (case x7 => assumption); (case x8 => assumption); (case x9 => exact (Int.zero_fmod _).symm); (case ka => ktr_room); (case kb => ktr_units); k_whole)); intro h' tk' t2 nw' F' N' hk6 R'; (k_dflt (replace mr1 := hk6 _ mr1 rfl)); clear hk6 rL; (have mit := R'.mit)))
set_option hygiene false in
local macro_rules | `(tactic| walk_at "inplaceOp Add str str") => `(tactic| (k_here; k_dflt ((refine SBL.iadd (hsz := ?hsz) ?_); (case hsz => exact fit)); intro _ _))
local macro_rules | `(tactic| walk_at "call builtin:len") => `(tactic| (k_here; (with_reducible show wpAny _ _ (call (Value.builtin "len") [Value.ref _]) _ _ _); k_dflt (first
  | (refine' kun_lenL ?k1 ?k2 ?k3 ?_; (case k1 => exact News.isList (by k_asm) (by k_mem)); (case k2 => first | exact sz_strs (by assumption) | exact sz_any _); (case k3 => omega); k_whole))))
local macro_rules | `(tactic| walk_at "eval ListComp") => `(tactic| (k_here; k_dflt ((refine g_CompPure (by k_asm) ?gh ?gc ?gcell ?gkind ?gnames ?gx ?gs ?_); (case gh => rfl); (case gc => with_unfolding_all rfl); (case gcell => decide); (case gkind => rfl); (case gnames => decide); (case gx => decide); (case gs => intro _; rfl))))
local macro_rules | `(tactic| walk_at "call builtin:str.join") => `(tactic| (k_here; k_dflt (refine' x_join ?l ?i ?b ?n ?x ?_; (case l => exact News.isList (by k_asm) (by k_mem)); (case i => assumption); (case b => assumption); (case n => omega); (case x => decide)); intro _ _))
local macro_rules | `(tactic| walk_at "compareOp Eq str str") => `(tactic| (k_here; k_dflt (refine x_eq_str ?e ?_; (case e => first | rfl | assumption))))
set_option hygiene false in
local macro_rules | `(tactic| walk_at "call ref") => `(tactic| (k_here; (with_reducible show wpAny _ _ (call (Value.ref 469) _) _ _ _); (try dsimp only [List.nil_append, List.cons_append]); k_dflt (refine' c_bare ?k1 ?k2 ?k3 ?k4 ?k5 ?x1 ?x2 ?k6 ?ka ?kb ?_; (case k1 => k_asm); (case k2 => k_asm); (case k3 => k_asm); (case k4 => k_asm); (case k5 => rfl); (case x1 => k_asm); (case x2 => k_asm); (case k6 => exact fun _ h => nomatch h); (case ka => ktr_room); (case kb => ktr_units); k_whole); intro h' tk' F'))
theorem law_holds : PySem.Challenge.rw_bw0014_01.Holds := hd (by
  k_fill
  intro w s₀ s₁ mg mb G Y fa o pm cd doc dV kV ho hd hcd hD hmg hg args vals as hpre hlay hrd hwl hlo
  have KX := kIn_of Y
  have X := (Ground.X G).1
  have V := (Ground.X G).2
  try w_nolog (first | (have GL := glob_more (Ground.glob G (by first | k_qdec | decide +kernel) (by first | k_qdec | decide +kernel)) V) | (have GL := glob_more (Ground.glob G (by decide +kernel)) V))
  refine Ground.open G ?_
  intro T B D TE TW
  try (refine guard_noD D (by decide +kernel) ?_; clear D)
  obtain ⟨_, _, M⟩ := bmod_of_top T
  have TA := at_of_top T
  try (obtain ⟨_, _, he, B0⟩ := based_of_top T rfl hmg ho hd; have he' : cd = _ := he; subst he'; clear he)
  clear hmg
  wrow_args hpre hlay hrd hwl hlo
  first | refine callC_kw (enter_call ?_) | refine enter_call ?_ | refine callC_kw (enter_callW ?_) | refine enter_callW ?_ | w_how
  w_top on
  have K0 := below_caller (Top.heap T)
  w_call any ho hd hcd hD T F
  clear hd TA
  k_drop
  w_strict k_steps
  · refine hold_in ?_
    w_strict k_steps
    all_goals (first
      | exact hold_in ⟨_, _, _, _, rfl, fmod_lo _ (by decide), fmod_hi _ (by decide), rfl, by k_asm, by k_asm⟩
      | exact hold_in ⟨_, _, _, _, rfl, by decide, by decide, rfl, by k_asm, by k_asm⟩)
  · refine hold_in ?_
    intro nW tW hW tkW hn0 hn4 FW NW
    w_strict (iterate 2 (first | (k_unfold; (try dsimp only)) | walk1 | (dsimp only; walk1)))
    k_dflt (refine kba_turn (value' := PySem.Expr.Name (PySem.Str.ofString "_") ⟨0, 0, 0, 0⟩) (fun _ => rfl) ?_)
    k_dflt (refine' kmk_slice ?zF ?zN ?zl ?zp ?zq ?_ ?zs ?zt ?zz)
    (case zF => k_asm)
    (case zN => k_asm)
    (case zl => exact News.isList (by k_asm) (by k_mem))
    (case zp => first | exact IsPart.none | exact IsPart.int _ _)
    (case zq => first | exact IsPart.none | exact IsPart.int _ _)
    (case zs => with_unfolding_all rfl)
    (case zt => (intro _; with_unfolding_all rfl))
    (case zz => exact Nat.le_of_ble_eq_true rfl)
    intro wl hW2 FW2 NW2 hlW
    dsimp only
    obtain ⟨vs, us, hvs, hs, h0, hw, hnd⟩ := words_of hn0 hn4
    rw [hvs] at NW2
    w_strict k_steps
    dsimp only
    obtain ⟨mit, mjo, mjd, mcy, mdc, mtp, mwl⟩ := hold7 hold
    obtain ⟨mB, it0, tc0, tt0, hv1, hv2, hv3, hv4, hv5, hv6, mit0, FB, NB⟩ : ∃ (mB : Str → Option Value) (it0 : Addr) (tc0 tt0 : Tok), mB (Str.ofString "words") = some (.ref wl) ∧ mB (Str.ofString "cycler") = some (.ref cy) ∧ mB (Str.ofString "joiner") = some (.ref jo) ∧ mB (Str.ofString "count") = some (.int ((0 : Nat) : Int) tc0) ∧ mB (Str.ofString "text") = some (.str (joined (Str.ofString "-") []) tt0) ∧ mB (Str.ofString "items") = some (.ref it0) ∧ (it0, listOf (List.toArray []) 0) ∈ nw ∧ Fr _ _ h' mB ∧ News _ _ h' nw := ⟨_, _, _, _, rfl, rfl, rfl, rfl, rfl, rfl, mit, F', N'⟩
    clear hold mit hvs hlW
    refine hold_in ⟨rl, tv.toArray, nR, mB, nw, fun I i m nw g => ∃ (count : Nat) (tkc tt : Tok) (ns : List Int) (iv : List Value) (nI : Nat) (it : Addr), m (Str.ofString "words") = some (.ref wl) ∧ m (Str.ofString "cycler") = some (.ref cy) ∧ m (Str.ofString "joiner") = some (.ref jo) ∧ m (Str.ofString "count") = some (.int (count : Int) tkc) ∧ m (Str.ofString "text") = some (.str (joined (Str.ofString "-") ns) tt) ∧ m (Str.ofString "items") = some (.ref it) ∧
      LawLed ⟨rl, wl, cy, dc, tp, jo, jd, I, nR, 0, 0, tv, vs, ds, hiC, hpC, hiJ, hpJ, tiC, tkC, tiJ, tkJ, tsJ⟩ nw i (Int.fmod (count : Int) (us.length : Int)) (decide (ns ≠ [])) it iv nI ∧ IntsAre iv ns ∧ ns.length ≤ 6 * i ∧ count ≤ 6 * i ∧ (∀ k, 0 ≤ ns.getD k 0 ∧ ns.getD k 0 < 5) ∧ AllBare g, rfl, mrl, FB, NB, fun I hI => ⟨?start, ?turn, ?done⟩⟩
    case start =>
      refine ⟨0, tc0, tt0, [], [], 0, it0, hv1, hv2, hv3, hv4, hv5, hv6, LawLed.to (p := 0) (b := false) ⟨⟨.tail _ mrl, hR.keep6 (fun q hq _ => .tail _ hq), .tail _ mwl, .tail _ mcy, .tail _ mtp, .tail _ mjo⟩, .tail _ mit0, ⟨_, .tail _ mdc⟩, .tail _ mjd, .head _, fun q hq hn => ?_⟩ (by simp) (by simp), .nil, by simp, by simp, by simp, .of_eq hg⟩
      rcases List.mem_cons.mp hq with rfl | hq
      · exact absurd rfl hn
      · exact hnl q hq
    case turn =>
      intro i h tk0 m nw g hlt hJ N2 mI
      obtain ⟨count, tkc, tt, ns, iv, nI, it, hv1, hv2, hv3, hv4, hv5, hv6, R, hiv, hnsl, hcl, hbd, hbg⟩ := hJ
      have hi : i < tv.length := by simpa using hlt
      have hi' : i < ds.length := by have := R.im.hR.1; dsimp only at this; omega
      obtain ⟨t, r, rs, nr, e1, mt, mr, hrs, hrl, hrb, htr, hrr⟩ := R.im.hR.2 i tv[i] ds[i] (List.getElem?_eq_getElem hi) (List.getElem?_eq_getElem hi')
      refine ⟨t, _, _, 0, by rw [List.getElem?_toArray, List.getElem?_eq_getElem hi, e1], tne N2 mt mI t_tup t_lit (by decide), mt, ?_⟩
      intro h2 F3 N3
      have R1 := R.turn N2
      have mr1 : (r, listOf rs.toArray nr) ∈ (I, litO rl (i + 1)) :: offL I nw := .tail _ (offL_in _ mr (tne N2 mr mI t_list t_lit (by decide)))
      dsimp only at R1
      generalize (I, litO rl (i + 1)) :: offL I nw = nw1 at R1 mr1 N3
      generalize ds[i] = d at hrs hrb F3
      obtain ⟨bk, rn⟩ := d
      dsimp only at hrs hrb F3
      have hrn : rs.length = rn.length := hrs.length
      have fit : (joined (Str.ofString "-") ns).length + (txt (Str.ofString "-") (decide (ns ≠ [])) rn rs.length).length ≤ sizeLine := by
        rw [hrn]; exact law_fit (by omega) (by omega) hbd hrb _
      have sum_fit : ns.length + rn.length ≤ sizeLine := by rw [sizeLine_eq]; omega
      have mcy := R1.im.mcy
      obtain ⟨_, mdc⟩ := R1.mdc
      dsimp only at mcy mdc
      clear R mt mr mI N2 e1 hR mrl mwl mtp mjo mjd hnl mit0 FB NB hI
      cases bk
      · w_strict k_steps
        rename IntsAre _ (ns ++ rn) => hIn
        rename News _ _ _ (_ :: nw') => NE
        rename Fr _ _ _ _ => FE
        exact hold_in ⟨rfl, _, _, _, _, _, rfl, FE, NE, .tail _ R'.mI, .tail _ R'.im.mrl, count + rs.length, _, _, ns ++ rn, _, 0, _, hv1, hv2, hv3, place_eq (by omega), some_str (by rw [hrn]; exact law_text ns rn), rfl, (LawLed.items R').to law_pos (by rw [hrn]; exact law_used ns rn), hIn, by rw [List.length_append]; omega, by omega, getD_app hbd hrb, hbg.push rfl⟩
      · w_strict k_steps
        rename IntsAre _ (ns ++ rn) => hIn
        rename News _ _ _ (_ :: nw') => NE
        rename Fr _ _ _ _ => FE
        exact hold_in ⟨rfl, _, _, _, _, _, rfl, FE, NE, .tail _ R'.mI, .tail _ R'.im.mrl, 0 + rs.length, _, _, ns ++ rn, _, 0, _, hv1, hv2, hv3, place_eq (by omega), some_str (by rw [hrn]; exact law_text ns rn), rfl, (LawLed.items R').to law_pos (by rw [hrn]; exact law_used ns rn), hIn, by rw [List.length_append]; omega, by omega, getD_app hbd hrb, hbg.push rfl⟩
    case done =>
      rintro h tk0 m nw g hJ ⟨h0', N0⟩ F2 N2
      obtain ⟨count, tkc, tt, ns, iv, nI, it, hv1, hv2, hv3, hv4, hv5, hv6, R, hiv, hnsl, hcl, hbd, hbg⟩ := hJ
      have hsz : tv.toArray.size ≤ 4 := by have := R.im.hR.1; dsimp only at this; rw [List.size_toArray]; omega
      obtain ⟨mwl, mcy, mtp, mit, t1, mdc⟩ := R.fin N0
      dsimp only at mwl mcy mtp mit mdc
      clear R N0 hR mrl mjo mjd hnl mit0 FB NB hI
      generalize offL I nw = nE at mwl mcy mtp mit mdc N2
      w_strict k_steps
      refine hold_in ⟨it, iv.toArray, nI, nE, fun i y => ∃ t, y = .str (num (ns.getD i 0)) t, rfl, by k_asm, by k_asm, mit, by (rw [sizeLine_eq, List.size_toArray, hiv.length]; omega), ?el1, ?fin1⟩
      case el1 =>
        intro i v I oI C oC D m₂ ys h tk E' hv hC hx F N
        have hv0 : iv[i]? = some v := by simpa using hv
        obtain ⟨tx, hx'⟩ := ints_get hiv i (List.getElem?_eq_some_iff.mp hv0).1
        have hv' : v = .int (ns.getD i 0) tx := by
          rw [hx'] at hv0; exact (Option.some.inj hv0).symm
        subst hv'
        have hn0 := (hbd i).1
        have hn1 := (hbd i).2
        w_strict k_steps
        exact hold_in ⟨⟨_, rfl⟩, _, rfl⟩
      case fin1 =>
        intro ys D1 h1 tk1 hlen hr F N
        have hlen' : ys.length = ns.length := by rw [hlen, List.size_toArray, hiv.length]
        have hsa := strs_of ys hlen' hr
        clear hlen hr
        w_strict k_steps
        exact ⟨.inl ⟨_, .bool true, [], rfl, fun _ => rfl, ReadsW.bool true, (by first | rfl | wrow_post), fun _ => ⟨List.nodup_nil, fun _ hm => nomatch hm⟩⟩, .of_keep F'.keep, rfl, hbg⟩)
end Mine
end
theorem PySem.Challenge.cw_bw0014_01_holds : PySem.Challenge.rw_bw0014_01.Holds :=
  Mine.law_holds
