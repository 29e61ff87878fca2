import PyProof.Rows.All
import Wide.All
import OpenK.AllK
import Wide.FinOn
import PySem.Challenge.RW_mj0064_01
set_option Elab.async false
section
open PySem PySem.W PyProof.Rows
namespace Mine
set_option maxRecDepth 100000 in
set_option maxHeartbeats 8000000 in
open_top hd for PySem.Challenge.rw_mj0064_01
end Mine
end
section
open PySem PySem.W PyProof.Rows
namespace Mine
abbrev AA (d u : Nat) (env : Env) (outer : List Env) : Around := ⟨none, d, some (env :: outer), some [], u⟩
theorem news_tl {h₀ h : Heap} {L : Addr} {a : Addr × Obj} {news : List (Addr × Obj)} (N : News h₀ L h (a :: news)) : News h₀ L h news := fun p hp => N p (.tail _ hp)
theorem news_sub {h₀ h : Heap} {L : Addr} {l l' : List (Addr × Obj)} (N : News h₀ L h l) (hs : ∀ p ∈ l', p ∈ l) : News h₀ L h l' := fun p hp => N p (hs p hp)
theorem ltOf {l : List (Addr × Obj)} {c : Addr} (h : ∀ p ∈ l, p.1 < c) {p : Addr × Obj} (hp : p ∈ l) : @LT.lt Nat _ p.1 c := h p hp
/-- a tree that goes well under a tall stack goes well under a lower one -/
theorem wpAny_AA {α : Type} {M : Model} {d u : Nat} {env : Env} {outer : List Env} {A : Around} {t : Sem α} {Q : α → Shared → Prop} {E : Value → Shared → Prop} {s : Shared}
    (h : wpAny M (AA d u env outer) t Q E s) (hh : A.handled = none) (hf : A.frames = some (env :: outer)) (hg : A.guards = some []) (hd : A.depth ≤ d) (hu : A.units ≤ u) : wpAny M A t Q E s :=
  fun Γ p hΓ => h Γ p ⟨hΓ.1.trans hh, Nat.le_trans hΓ.2.1 hd, fun l hl => by cases hl; exact hΓ.2.2.1 _ hf, fun g hg' => by cases hg'; exact hΓ.2.2.2.1 _ hg, Nat.le_trans hΓ.2.2.2.2 hu⟩
end Mine
end
section
open PySem PySem.W PyProof.Rows
set_option maxRecDepth 100000
namespace Mine
theorem fn_slot_sa : Slot "function" "__setattr__" "object.__setattr__" :=
  .of (owner := "object") (n := "__setattr__") (by rw [typeLookup_type, builtinLookup_eq_fast]; kernel_rfl) (by decide +kernel) (by decide +kernel) (by decide +kernel)
    (by first | exact .inl (by decide +kernel) | exact .inr (by decide +kernel)) (by rw [isSubtype_type]; kernel_rfl)
theorem fn_slot_ga : Slot "function" "__getattribute__" "object.__getattribute__" :=
  .of (owner := "object") (n := "__getattribute__") (by rw [typeLookup_type, builtinLookup_eq_fast]; kernel_rfl) (by decide +kernel) (by decide +kernel) (by decide +kernel)
    (by first | exact .inl (by decide +kernel) | exact .inr (by decide +kernel)) (by rw [isSubtype_type]; kernel_rfl)
theorem fn_mro : mroOf (.type "function") = pure [.type "function", .type "object"] := by rw [mroOf_type]; kernel_rfl
theorem fn_no_search : typeLookup (.type "function") (Str.ofString "search") = pure none := by rw [typeLookup_type, builtinLookup_eq_fast]; kernel_rfl
theorem fn_no_span : typeLookup (.type "function") (Str.ofString "span") = pure none := by rw [typeLookup_type, builtinLookup_eq_fast]; kernel_rfl
theorem fn_no_getattr : typeLookup (.type "function") "__getattr__" = pure none := by rw [typeLookup_type, builtinLookup_eq_fast]; kernel_rfl
theorem fn_no_bool : typeLookup (.type "function") "__bool__" = pure none := by rw [typeLookup_type, builtinLookup_eq_fast]; kernel_rfl
theorem fn_no_len : typeLookup (.type "function") "__len__" = pure none := by rw [typeLookup_type, builtinLookup_eq_fast]; kernel_rfl
theorem fn_hasDict : typeHasDict (.type "function") = true := by kernel_rfl
theorem entry_sa : entryFor table "object.__setattr__" = some Builtin.«object.__setattr__» := entryFor_of_tree (by kernel_rfl)
theorem entry_ga : entryFor table "object.__getattribute__" = some Builtin.«object.__getattribute__» := entryFor_of_tree (by kernel_rfl)
end Mine
end
section
open PySem PySem.W PyProof.Rows
open PySem.Builtin PySem.Builtin.ObjectAttr
set_option maxRecDepth 100000
namespace Mine
theorem refuse_fn (self : Value) : refuseLoop self "__setattr__" [.type "function", .type "object"] = pure () := by kernel_rfl
theorem args_sa (a b c : Value) : argsOk "object.__setattr__" ⟨[a, b, c], []⟩ := by unfold argsOk; kernel_rfl
theorem args_ga (a b : Value) : argsOk "object.__getattribute__" ⟨[a, b], []⟩ := by unfold argsOk; kernel_rfl

section
variable {M : Model} {prog : Program} {w : World} {A : Around} {E : Value → Shared → Prop} {s : Shared} {x : Addr} {fd : FuncData} {sl : Array (Option Value)} {name : Str} {v : Value}
theorem store_in {d : Addr} {tk : Tok} {Q : Fin → Shared → Prop} (hd : s.heap.get? d = some { cls := .type "dict", data := .dict #[] })
    (h : ∀ h' tk, h'.Ns d (fun y => if y = name then some v else none) → Heap.SameBut d s.heap h' → Q (.done (.ret .none)) { s with heap := h', toks := tk }) :
    wpAny M A (storeInDict d (.str name tk) name v) Q E s := by
  have hnd : s.heap.Ns d (fun _ => none) := ⟨_, #[], _, hd, rfl, fun e he => absurd he (by simp), fun _ => rfl⟩
  unfold storeInDict newKeyGuard
  refine wpAny_bind (wpAny_pure (wpAny_bind (wpAny_nsSet1 (Heap.Ns1.of_empty hnd) fun h' hn' hs => ?_)))
  obtain ⟨oD, esD, epD, hoD, hdD, hcD⟩ := hn'.count (Within.cons name v Within.nil)
  refine wpAny_bind (wpAny_lookBehind hoD (by rw [hdD]; exact pastItsLine_dict (Nat.le_trans hcD (by rw [List.length_cons, List.length_nil, sizeLine_eq]; omega))) ?_)
  refine wpAny_pure (h h' _ ?_ hs)
  obtain ⟨o', es, ep, e1, e2, e3, eu, e4⟩ := hn'
  exact ⟨o', es, ep, e1, e2, e3, e4⟩

set_option maxHeartbeats 4000000 in
theorem fn_setattr {Q : Unit → Shared → Prop} (hx : s.heap.get? x = some ⟨.type "function", none, .func fd, sl⟩) (hname : typeLookup (.type "function") name = pure none)
    (h : ∀ h' tk, h'.Ns s.heap.objs.size (fun y => if y = name then some v else none) → h'.get? x = some ⟨.type "function", some s.heap.objs.size, .func fd, sl⟩ →
      (∀ b o, b ≠ x → s.heap.get? b = some o → h'.get? b = some o) → Q () { s with heap := h', toks := tk }) :
    wpAny (model prog w) A (setAttr (.ref x) name v) Q E s := by
  obtain ⟨hp, g, d, tk, os⟩ := s
  dsimp only at hx h
  have hT : ∀ tk', (⟨hp, g, d, tk', os⟩ : Shared).TypeIs (.ref x) "function" := fun _ => ⟨_, hx, rfl⟩
  have f3 := fn_slot_sa.lookup
  have f4 := fn_slot_sa.bind (.ref x)
  have f5 := fn_mro
  have f6 := refuse_fn (.ref x)
  have hx₁ : (hp.push { cls := .type "dict", data := .dict #[] }).get? x = some ⟨.type "function", none, .func fd, sl⟩ := Heap.get?_push_of_some _ hx
  have hxs : x ≠ hp.objs.size := Nat.ne_of_lt (Heap.lt_size hx)
  unfold setAttr callSpecial? specialOf
  repeat (any_goals (first | assumption | exact hT _ | ((with_reducible show wpAny _ _ (call (Value.builtin "object.__setattr__") _ _) _ _ _); refine wpAny_call_entry fn_slot_sa (hT _) entry_sa ?_ (args_sa _ _ _); unfold Builtin.«object.__setattr__») | ((with_reducible show wpAny _ _ (refuseIfOverridden _ _) _ _ _); rw [refuse_eq]) | ((with_reducible show wpAny _ _ (refuseLoop _ _ _) _ _ _); rw [f6]) | ((with_reducible show wpAny _ _ (storeInDict _ _ _ _) _ _ _); refine store_in ?_ ?_) | wp_step))
  · refine (Heap.get?_update_other _ _ hxs).trans (Heap.get?_push_size _ rfl)
  · intro h' tk' hn hs
    refine ⟨_, rfl, ?_⟩
    refine wpAny_pure (wpAny_pure (h h' _ hn ?_ ?_))
    · exact (hs.2 x hxs).trans (Heap.get?_update_self _ hx₁ rfl)
    · intro b o hb e
      exact (hs.2 b (Nat.ne_of_lt (Heap.lt_size e))).trans ((Heap.get?_update_other _ _ (Ne.symm hb)).trans (Heap.get?_push_of_some _ e))
set_option maxHeartbeats 4000000 in
theorem fn_getattr {Q : Value → Shared → Prop} {d f : Addr} {m : Str → Option Value} {b : Bool} (hx : s.heap.get? x = some ⟨.type "function", some d, .func fd, sl⟩) (hn : s.heap.Ns d m) (hv : m name = some (.ref f)) (hname : typeLookup (.type "function") name = pure none)
    (h : ∀ tk, Q (.ref f) { s with toks := tk }) :
    wpAny (model prog w) A (getAttr (.ref x) name b) Q E s := by
  obtain ⟨hp, g, dd, tk, os⟩ := s
  dsimp only at hx h hn
  have hT : ∀ tk', (⟨hp, g, dd, tk', os⟩ : Shared).TypeIs (.ref x) "function" := fun _ => ⟨_, hx, rfl⟩
  have f3 := fn_slot_ga.lookup
  have f4 := fn_slot_ga.bind (.ref x)
  have f5 := fn_no_getattr
  have f6 : (b && onTheHeap (Value.builtin "object.__getattribute__")) = false := by cases b <;> rfl
  unfold getAttr getAttrBy
  repeat (any_goals (first | assumption | exact hT _ | exact h _ | ((with_reducible show wpAny _ _ (call (Value.builtin "object.__getattribute__") _ _) _ _ _); refine wpAny_call_entry fn_slot_ga (hT _) entry_ga ?_ (args_ga _ _); unfold Builtin.«object.__getattribute__») | ((with_reducible show wpAny _ _ (nsGet _ _) _ _ _); refine wpAny_nsGet hn ?_; rw [hv]) | wp_step))
  exact ⟨_, rfl, wpAny_pure (h _)⟩
set_option maxHeartbeats 4000000 in
theorem fn_getMethod {Q : Value × List Value → Shared → Prop} {d f : Addr} {m : Str → Option Value} {pl : Sem Bool} (hx : s.heap.get? x = some ⟨.type "function", some d, .func fd, sl⟩) (hn : s.heap.Ns d m) (hv : m name = some (.ref f)) (hname : typeLookup (.type "function") name = pure none)
    (h : ∀ tk, Q (.ref f, []) { s with toks := tk }) :
    wpAny (model prog w) A (getMethod (.ref x) name pl) Q E s := by
  have hT : s.TypeIs (.ref x) "function" := ⟨_, hx, rfl⟩
  have f3 := fn_slot_ga.lookup
  have f5 := fn_no_getattr
  unfold getMethod
  repeat (any_goals (first | assumption | ((with_reducible show wpAny _ _ (getAttr _ _ _) _ _ _); refine fn_getattr hx hn hv hname fun tk => ?_) | wp_step))
  exact h _
theorem fn_truthy {Q : Bool → Shared → Prop} {o : Obj} (hx : s.heap.get? x = some o) (hc : o.cls = .type "function") (h : Q true s) :
    wpAny (model prog w) A (truthy (.ref x)) Q E s := by
  have hT : s.TypeIs (.ref x) "function" := ⟨_, hx, hc⟩
  have f3 := fn_no_bool
  have f4 := fn_no_len
  unfold truthy callSpecial?
  repeat (any_goals (first | assumption | wp_step))
end
end Mine
end
section
open PySem PySem.W PyProof.Rows
open PySem.Builtin PySem.Builtin.Str PySem.StrLaws
set_option maxRecDepth 100000
namespace Mine
/-- the first place of a sign among the first e -/
def FindIn (cs : List Nat) (c e : Nat) (r : Int) : Prop := (r = -1 ∧ ∀ v, v < e → cs[v]? ≠ some c) ∨ ∃ k : Nat, r = (k : Int) ∧ k < e ∧ cs[k]? = some c ∧ ∀ v, v < k → cs[v]? ≠ some c
/-- the last place of a sign among the first e -/
def RFindIn (cs : List Nat) (c e : Nat) (r : Int) : Prop := (r = -1 ∧ ∀ v, v < e → cs[v]? ≠ some c) ∨ ∃ k : Nat, r = (k : Int) ∧ k < e ∧ cs[k]? = some c ∧ ∀ v, k < v → v < e → cs[v]? ≠ some c

theorem at_one {x : Str} {c hi i : Nat} (hh : hi ≤ x.length) : At x ⟨#[c]⟩ hi i ↔ i < hi ∧ x.cps.toList[i]? = some c := by
  have e : (⟨#[c]⟩ : Str).length = 1 := rfl
  constructor
  · rintro ⟨h1, h2⟩
    rw [e] at h1
    exact ⟨by omega, (subAt_one x c i).mp ⟨by rw [e]; omega, h2⟩⟩
  · rintro ⟨h1, h2⟩
    exact ⟨by rw [e]; omega, ((subAt_one x c i).mpr h2).2⟩

theorem occ_findIn {x : Str} {c hi : Nat} (hh : hi ≤ x.length) : FindIn x.cps.toList c hi (match occurrences x ⟨#[c]⟩ 0 hi 1 with | k :: _ => (k : Int) | [] => -1) := by
  rw [occ_eq]
  rcases occ_first x ⟨#[c]⟩ hi 1 (Nat.le_refl 1) (List.range' 0 (hi + 1 - 0)) 0 (fun _ _ => Nat.zero_le _) with ⟨h0, hn⟩ | ⟨pre, a, post, e, h0, ha, hn⟩
  · rw [h0]
    refine .inl ⟨rfl, fun v hv hc => hn v ?_ ((at_one hh).mpr ⟨hv, hc⟩)⟩
    simp [List.mem_range'_1]; omega
  · generalize (forIn (List.range' 0 (hi + 1 - 0)) ((#[] : Array Nat), 0) (occBody x ⟨#[c]⟩ hi 1)).run.fst = arr at h0
    have h1 : arr.toList[0]? = some a := by simpa using h0
    have ha' := (at_one hh).mp ha
    cases hL : arr.toList with
    | nil => rw [hL] at h1; cases h1
    | cons b t =>
      rw [hL] at h1; simp at h1; subst h1
      exact .inr ⟨b, rfl, ha'.1, ha'.2, fun v hv hc => hn v (range'_split e v hv) ((at_one hh).mpr ⟨by omega, hc⟩)⟩

theorem last_rfindIn {x : Str} {c hi : Nat} (hh : hi ≤ x.length) : RFindIn x.cps.toList c hi (match lastOccurrence x ⟨#[c]⟩ 0 hi with | some k => (k : Int) | none => -1) := by
  rw [last_eq]
  have key := last_run x ⟨#[c]⟩ hi (List.range' 0 (hi + 1 - 0)) [] none (fun _ h => nomatch h) (fun _ h => nomatch h) (by simpa using List.pairwise_lt_range' (s := 0) (n := hi + 1 - 0))
  have mem : ∀ i, At x ⟨#[c]⟩ hi i → i ∈ [] ++ List.range' 0 (hi + 1 - 0) := fun i hi' => by have := hi'.1; simp [List.mem_range'] <;> omega
  cases hr : (forIn (List.range' 0 (hi + 1 - 0)) none (lastBody x ⟨#[c]⟩ hi)).run with
  | none => rw [hr] at key; exact .inl ⟨rfl, fun v hv hc => key v (mem v ((at_one hh).mpr ⟨hv, hc⟩)) ((at_one hh).mpr ⟨hv, hc⟩)⟩
  | some a =>
    rw [hr] at key
    have ha := (at_one hh).mp key.1
    exact .inr ⟨a, rfl, ha.1, ha.2, fun v hv hlt hc => key.2 v (mem v ((at_one hh).mpr ⟨hlt, hc⟩)) hv ((at_one hh).mpr ⟨hlt, hc⟩)⟩

theorem gives_find4 (x y : Str) (j : Int) (t u v z : Tok) : Gives («str.find» ⟨[.str x t, .str y u, .int 0 v, .int j z], []⟩) (.int (match occurrences x y 0 (min (fromIndex x.length j) x.length) 1 with | k :: _ => (k : Int) | [] => -1)) := by
  show Gives (match occurrences x y 0 (min (fromIndex x.length j) x.length) 1 with | k :: _ => retInt k | [] => (do rule "str.find.not-found"; retInt (-1))) _
  cases occurrences x y 0 (min (fromIndex x.length j) x.length) 1 with
  | nil => exact .rule (.of_eq rfl)
  | cons k _ => exact .of_eq rfl
theorem gives_rfind4 (x y : Str) (j : Int) (t u v z : Tok) : Gives («str.rfind» ⟨[.str x t, .str y u, .int 0 v, .int j z], []⟩) (.int (match lastOccurrence x y 0 (min (fromIndex x.length j) x.length) with | some k => (k : Int) | none => -1)) := by
  show Gives (match lastOccurrence x y 0 (min (fromIndex x.length j) x.length) with | some k => retInt k | none => (do rule "str.rfind.not-found"; retInt (-1))) _
  cases lastOccurrence x y 0 (min (fromIndex x.length j) x.length) with
  | none => exact .rule (.of_eq rfl)
  | some k => exact .of_eq rfl

theorem args_find_4 (a b c d : Value) : argsOk "str.find" ⟨[a, b, c, d], []⟩ := by unfold argsOk; kernel_rfl

theorem FindIn.lo {cs : List Nat} {c e : Nat} {r : Int} (h : FindIn cs c e r) : -1 ≤ r := by rcases h with ⟨h, _⟩ | ⟨k, h, _⟩ <;> omega
theorem FindIn.hi {cs : List Nat} {c e : Nat} {r : Int} (h : FindIn cs c e r) : r < (e : Int) := by rcases h with ⟨h, _⟩ | ⟨k, h, h2, _⟩ <;> omega
theorem RFindIn.lo {cs : List Nat} {c e : Nat} {r : Int} (h : RFindIn cs c e r) : -1 ≤ r := by rcases h with ⟨h, _⟩ | ⟨k, h, _⟩ <;> omega
theorem RFindIn.hi {cs : List Nat} {c e : Nat} {r : Int} (h : RFindIn cs c e r) : r < (e : Int) := by rcases h with ⟨h, _⟩ | ⟨k, h, h2, _⟩ <;> omega
section
variable {prog : Program} {w : World} {A : Around} {E : Value → Shared → Prop} {s : Shared} {x y : Str} {t u v z : Tok} {c e : Nat} {j : Int} {Q : Value → Shared → Prop}
theorem find2P (c : Nat) (hy : y = ⟨#[c]⟩) (h : ∀ r tk, FindIn x.cps.toList c x.length r → -1 ≤ r → r < (x.length : Int) → Q (.int r tk) { s with toks := s.toks + 1 }) : wpAny (model prog w) A (call (.builtin "str.find") [.str x t, .str y u]) Q E s := by
  subst hy
  have q := occ_findIn (x := x) (c := c) (Nat.le_refl x.length)
  exact call_gives F.slot_str_find (typeIs_str _ _ _) F.entry_str_find (F.args_str_find_2 _ _) (gives_str_find x ⟨#[c]⟩ t u) (h _ _ q q.lo q.hi)
theorem find4P (c : Nat) (hy : y = ⟨#[c]⟩) (h0 : 0 ≤ j) (hle : j ≤ (x.length : Int)) (h : ∀ r tk, FindIn x.cps.toList c j.toNat r → -1 ≤ r → r < j → Q (.int r tk) { s with toks := s.toks + 1 }) : wpAny (model prog w) A (call (.builtin "str.find") [.str x t, .str y u, .int 0 v, .int j z]) Q E s := by
  subst hy
  have e1 : min (fromIndex x.length j) x.length = j.toNat := by unfold fromIndex; split <;> omega
  have hg := gives_find4 x ⟨#[c]⟩ j t u v z
  rw [e1] at hg
  have q := occ_findIn (x := x) (c := c) (hi := j.toNat) (by omega)
  exact call_gives F.slot_str_find (typeIs_str _ _ _) F.entry_str_find (args_find_4 _ _ _ _) hg (h _ _ q q.lo (by have := q.hi; omega))
theorem rfind4P (c : Nat) (hy : y = ⟨#[c]⟩) (h0 : 0 ≤ j) (hle : j ≤ (x.length : Int)) (h : ∀ r tk, RFindIn x.cps.toList c j.toNat r → -1 ≤ r → r < j → Q (.int r tk) { s with toks := s.toks + 1 }) : wpAny (model prog w) A (call (.builtin "str.rfind") [.str x t, .str y u, .int 0 v, .int j z]) Q E s := by
  subst hy
  have e1 : min (fromIndex x.length j) x.length = j.toNat := by unfold fromIndex; split <;> omega
  have hg := gives_rfind4 x ⟨#[c]⟩ j t u v z
  rw [e1] at hg
  have q := last_rfindIn (x := x) (c := c) (hi := j.toNat) (by omega)
  exact call_gives F.slot_str_rfind (typeIs_str _ _ _) F.entry_str_rfind (F.args_str_rfind_4 _ _ _ _) hg (h _ _ q q.lo (by have := q.hi; omega))
end
end Mine
end
section
open PySem PySem.W PyProof.Rows
namespace Mine
/-- what stands ahead of the first colon or line end -/
def pathOf (cs : List Nat) : List Nat := cs.takeWhile fun c => !(c == 58) && !(c == 10)
/-- the parts between the dots -/
def splitD : List Nat → List (List Nat)
  | [] => [[]]
  | c :: r => if c = 46 then [] :: splitD r else match splitD r with
    | [] => [[c]]
    | p :: ps => (c :: p) :: ps
def lastPart (p : List Nat) : List Nat := (splitD p).getLastD []
def stripF (x : Str) : Str := ⟨(lastPart (pathOf x.cps.toList)).toArray⟩

theorem splitD_ne (p : List Nat) : splitD p ≠ [] := by
  cases p with
  | nil => simp [splitD]
  | cons c r => unfold splitD; split; simp; split <;> simp
theorem splitD_free : ∀ {q : List Nat}, 46 ∉ q → splitD q = [q]
  | [], _ => rfl
  | c :: r, h => by
    have h1 : c ≠ 46 := fun e => h (by simp [e])
    have h2 : 46 ∉ r := fun e => h (by simp [e])
    unfold splitD
    rw [if_neg h1, splitD_free h2]
theorem splitD_app {q : List Nat} (hq : 46 ∉ q) : ∀ (a : List Nat), splitD (a ++ 46 :: q) = splitD a ++ [q]
  | [] => by
    show splitD (46 :: q) = [[]] ++ [q]
    unfold splitD
    rw [if_pos rfl, splitD_free hq]; rfl
  | c :: r => by
    show splitD (c :: (r ++ 46 :: q)) = splitD (c :: r) ++ [q]
    unfold splitD
    rw [splitD_app hq r]
    split
    · rfl
    · cases hs : splitD r with
      | nil => exact absurd hs (splitD_ne r)
      | cons p ps => rfl
theorem lastPart_free {q : List Nat} (h : 46 ∉ q) : lastPart q = q := by unfold lastPart; rw [splitD_free h]; rfl
theorem lastPart_app {q : List Nat} (h : 46 ∉ q) (a : List Nat) : lastPart (a ++ 46 :: q) = q := by
  unfold lastPart; rw [splitD_app h]; simp

theorem pathOf_take : ∀ (cs : List Nat) (e : Nat), (∀ v, v < e → cs[v]? ≠ some 58 ∧ cs[v]? ≠ some 10) → e ≤ cs.length → (e = cs.length ∨ cs[e]? = some 58 ∨ cs[e]? = some 10) → pathOf cs = cs.take e
  | [], e, _, h2, _ => by simp [pathOf]
  | c :: r, 0, _, _, h3 => by
    have : c = 58 ∨ c = 10 := by simpa using h3
    rcases this with rfl | rfl <;> simp [pathOf]
  | c :: r, e + 1, h1, h2, h3 => by
    have h0 := h1 0 (by omega)
    have hc1 : c ≠ 58 := by simpa using h0.1
    have hc2 : c ≠ 10 := by simpa using h0.2
    have ih := pathOf_take r e (fun v hv => by simpa using h1 (v + 1) (by omega)) (by simpa using h2) (by simpa using h3)
    unfold pathOf at ih ⊢
    rw [List.takeWhile_cons, if_pos (by simp [hc1, hc2]), ih, List.take_succ_cons]

theorem mem_take_get {cs : List Nat} {e c : Nat} (h : c ∈ cs.take e) : ∃ v, v < e ∧ cs[v]? = some c := by
  obtain ⟨v, hv, hc⟩ := List.mem_iff_getElem.mp h
  refine ⟨v, by simp at hv; omega, ?_⟩
  rw [List.getElem_take] at hc
  rw [← hc, List.getElem?_eq_getElem]

theorem cut_at {cs : List Nat} {e k : Nat} (hk : k < e) (hc : cs[k]? = some 46) : cs.take e = cs.take k ++ 46 :: (cs.take e).drop (k + 1) := by
  have hk' : k < cs.length := by
    rcases Nat.lt_or_ge k cs.length with h | h
    · exact h
    · rw [List.getElem?_eq_none h] at hc; cases hc
  have h1 : (cs.take e)[k]? = some 46 := by rw [List.getElem?_take_of_lt hk]; exact hc
  have h2 : k < (cs.take e).length := by simp; omega
  have h3 := List.take_append_drop k (cs.take e)
  rw [List.take_take, Nat.min_eq_left (Nat.le_of_lt hk), List.drop_eq_getElem_cons h2] at h3
  rw [List.getElem?_eq_getElem h2] at h1
  rw [Option.some.inj h1] at h3
  exact h3.symm
theorem no_dot_behind {cs : List Nat} {e k : Nat} (h : ∀ v, k < v → v < e → cs[v]? ≠ some 46) : 46 ∉ (cs.take e).drop (k + 1) := by
  intro hm
  obtain ⟨v, hv, hc⟩ := List.mem_iff_getElem.mp hm
  rw [List.getElem_drop, List.getElem_take] at hc
  simp at hv
  exact h (k + 1 + v) (by omega) (by omega) (by rw [← hc, List.getElem?_eq_getElem])

theorem slice_eq {x : Str} {i j : Int} (h : 0 ≤ i ∧ i ≤ j ∧ j ≤ x.length) : Txt.slice x (some i) (some j) = ⟨((x.cps.toList.take j.toNat).drop i.toNat).toArray⟩ := by
  have := slice_closes (x := x) (i := i) (j := j) ⟨h.1, h.2.1, by simpa [Str.length] using h.2.2⟩
  rw [beq_iff_eq.mp this, List.drop_take, show (j - i).toNat = j.toNat - i.toNat by omega]

theorem strip_eq {x : Str} {r1 r2 r3 e1 e2 b : Int} (h1 : FindIn x.cps.toList 10 x.length r1) (he1 : (0 ≤ r1 ∧ e1 = r1) ∨ (r1 < 0 ∧ e1 = x.length))
    (h2 : FindIn x.cps.toList 58 e1.toNat r2) (he2 : (0 ≤ r2 ∧ e2 = r2) ∨ (r2 < 0 ∧ e2 = e1))
    (h3 : RFindIn x.cps.toList 46 e2.toNat r3) (hb : (0 ≤ r3 ∧ b = r3 + 1) ∨ (r3 < 0 ∧ b = 0)) : Txt.slice x (some b) (some e2) = stripF x := by
  have hlen : x.cps.toList.length = x.length := by simp [Str.length]
  -- the end
  have a1 : 0 ≤ e1 ∧ e1 ≤ x.length ∧ (∀ v : Nat, (v : Int) < e1 → x.cps.toList[v]? ≠ some 10) ∧ (e1 = x.length ∨ x.cps.toList[e1.toNat]? = some 10) := by
    rcases h1 with ⟨q1, q2⟩ | ⟨k, q1, q2, q3, q4⟩
    · have : e1 = x.length := by omega
      exact ⟨by omega, by omega, fun v hv => q2 v (by omega), .inl this⟩
    · have : e1 = k := by omega
      subst this
      exact ⟨by omega, by omega, fun v hv => q4 v (by omega), .inr (by simpa using q3)⟩
  obtain ⟨b1, b2, b3, b4⟩ := a1
  have a2 : 0 ≤ e2 ∧ e2 ≤ e1 ∧ (∀ v : Nat, (v : Int) < e2 → x.cps.toList[v]? ≠ some 58) ∧ (e2 = e1 ∨ x.cps.toList[e2.toNat]? = some 58) := by
    rcases h2 with ⟨q1, q2⟩ | ⟨k, q1, q2, q3, q4⟩
    · have : e2 = e1 := by omega
      exact ⟨by omega, by omega, fun v hv => q2 v (by omega), .inl this⟩
    · have : e2 = k := by omega
      subst this
      exact ⟨by omega, by omega, fun v hv => q4 v (by omega), .inr (by simpa using q3)⟩
  obtain ⟨c1, c2, c3, c4⟩ := a2
  have hp : pathOf x.cps.toList = x.cps.toList.take e2.toNat := by
    refine pathOf_take _ _ (fun v hv => ⟨c3 v (by omega), b3 v (by omega)⟩) (by omega) ?_
    rcases c4 with rfl | c4
    · rcases b4 with b4 | b4
      · exact .inl (by omega)
      · exact .inr (.inr b4)
    · exact .inr (.inl c4)
  unfold stripF
  rw [hp]
  rcases h3 with ⟨q1, q2⟩ | ⟨k, q1, q2, q3, q4⟩
  · have : b = 0 := by omega
    subst this
    rw [slice_eq ⟨by omega, by omega, by omega⟩, lastPart_free]
    · simp
    · intro hm
      obtain ⟨v, hv, hc⟩ := mem_take_get hm
      exact q2 v hv hc
  · have : b = k + 1 := by omega
    subst this
    rw [slice_eq ⟨by omega, by omega, by omega⟩, cut_at q2 q3, lastPart_app (no_dot_behind q4), ← cut_at q2 q3]
    rfl
/-- a sign of a text -/
theorem item_get {x : Str} {k : Int} (h0 : 0 ≤ k) (h1 : k < (x.length : Int)) : ∃ c, x.cps.toList[k.toNat]? = some c ∧ Txt.item x k = ⟨#[c]⟩ := by
  have hk : k.toNat < x.cps.size := by simp only [Str.length] at h1; omega
  refine ⟨x.cps[k.toNat], by simp [hk], ?_⟩
  unfold Txt.item Txt.charAt seqIndex?
  have h2 : ¬ k < 0 := by omega
  simp [h2, h0, h1, hk]
theorem item_dot {x : Str} {k : Int} {c : Nat} (y : Str) (hy : y = ⟨#[c]⟩) (h0 : 0 ≤ k) (h1 : k < (x.length : Int)) (e : (Txt.item x k == y) = true) : x.cps.toList[k.toNat]? = some c := by
  obtain ⟨d, hd, hi⟩ := item_get h0 h1
  rw [hi, hy] at e
  have : d = c := by simpa using e
  rw [hd, this]
theorem item_not {x : Str} {k : Int} {c : Nat} (y : Str) (hy : y = ⟨#[c]⟩) (h0 : 0 ≤ k) (h1 : k < (x.length : Int)) (e : (Txt.item x k == y) = false) : x.cps.toList[k.toNat]? ≠ some c := by
  obtain ⟨d, hd, hi⟩ := item_get h0 h1
  rw [hi, hy] at e
  intro h
  rw [hd] at h
  have : d = c := by simpa using h
  subst this
  simp at e
theorem dot_lit : Str.ofString "." = ⟨#[46]⟩ := by decide +kernel
end Mine
end
section
open PySem PySem.W PyProof.Rows
namespace Mine
abbrev mkS (p : List Nat) : Str := ⟨p.toArray⟩
theorem splitD_dot (p : List Nat) : splitD (p ++ [46]) = splitD p ++ [[]] := splitD_app (q := []) (by simp) p
theorem splitD_snoc {c : Nat} (hc : c ≠ 46) : ∀ {p : List Nat} {a : List (List Nat)} {b : List Nat}, splitD p = a ++ [b] → splitD (p ++ [c]) = a ++ [b ++ [c]]
  | [], a, b, h => by
    have : a = [] ∧ b = [] := by
      cases a with
      | nil => simp [splitD] at h; exact ⟨rfl, h⟩
      | cons x r => simp [splitD] at h
    obtain ⟨rfl, rfl⟩ := this
    simp [splitD, hc]
  | d :: r, a, b, h => by
    show splitD (d :: (r ++ [c])) = _
    obtain ⟨a', b', e⟩ : ∃ a' b', splitD r = a' ++ [b'] := ⟨(splitD r).dropLast, (splitD r).getLast (splitD_ne r), (List.dropLast_concat_getLast (splitD_ne r)).symm⟩
    have ih := splitD_snoc hc e
    unfold splitD at h ⊢
    rw [ih]
    rw [e] at h
    split at h
    · rename_i hd
      rw [if_pos hd]
      have h2 : ([] :: a') ++ [b'] = a ++ [b] := by simpa using h
      have h3 := List.append_inj' h2 rfl
      have h4 : b' = b := by simpa using h3.2
      rw [← h3.1, ← h4]
      simp
    · rename_i hd
      rw [if_neg hd]
      cases a' with
      | nil =>
        have h2 : [] ++ [d :: b'] = a ++ [b] := by simpa using h
        have h3 := List.append_inj' h2 rfl
        have h4 : d :: b' = b := by simpa using h3.2
        rw [← h3.1, ← h4]
        simp
      | cons x r' =>
        have h2 : ((d :: x) :: r') ++ [b'] = a ++ [b] := by simpa using h
        have h3 := List.append_inj' h2 rfl
        have h4 : b' = b := by simpa using h3.2
        rw [← h3.1, ← h4]
        simp
theorem splitD_len : ∀ {p q : List Nat}, q ∈ splitD p → q.length ≤ p.length
  | [], q, h => by simp [splitD] at h; simp [h]
  | c :: r, q, h => by
    unfold splitD at h
    split at h
    · rcases List.mem_cons.mp h with rfl | h
      · simp
      · have := splitD_len h
        simp; omega
    · cases hs : splitD r with
      | nil => exact absurd hs (splitD_ne r)
      | cons x xs =>
        rw [hs] at h
        dsimp only at h
        rcases List.mem_cons.mp h with rfl | h
        · have := splitD_len (p := r) (q := x) (by rw [hs]; simp)
          simp; omega
        · have := splitD_len (p := r) (q := q) (by rw [hs]; simp [h])
          simp; omega
theorem splitD_count : ∀ p : List Nat, (splitD p).length ≤ p.length + 1
  | [] => by simp [splitD]
  | c :: r => by
    have ih := splitD_count r
    unfold splitD
    split
    · simp; omega
    · cases hs : splitD r with
      | nil => simp
      | cons x xs => rw [hs] at ih; simp at ih ⊢; omega
theorem strs_split_last {vs : List Value} {ws : List Str} {w : Str} (h : StrsAre vs (ws ++ [w])) : ∃ vs' t, vs = vs' ++ [.str w t] ∧ StrsAre vs' ws := by
  induction ws generalizing vs with
  | nil =>
    cases h with
    | cons _ t h' => cases h'; exact ⟨[], t, rfl, .nil⟩
  | cons x r ih =>
    cases h with
    | cons _ t h' =>
      obtain ⟨vs', t', rfl, h2⟩ := ih h'
      exact ⟨.str x t :: vs', t', rfl, .cons _ _ h2⟩
theorem strs_len {vs : List Value} {ws : List Str} (h : StrsAre vs ws) : vs.length = ws.length := by
  induction h with
  | nil => rfl
  | cons _ _ _ ih => simp [ih]
theorem setL_last (v v' : Value) : ∀ vs : List Value, ki_setL (vs ++ [v]) vs.length v' = some (vs ++ [v'])
  | [] => rfl
  | x :: r => by
    show (match ki_setL (r ++ [v]) r.length v' with | some q => some (x :: q) | none => none) = _
    rw [setL_last v v' r]; rfl
theorem idx_last {n : Nat} : seqIndex? (-1) (n + 1) = some n := by
  unfold seqIndex?
  have h1 : ((-1 : Int) < 0) := by decide
  simp [h1]
  omega
/-- the last one of the parts so far, and the parts with one more sign -/
theorem part_step {vs : List Value} {p : List Nat} (h : StrsAre vs ((splitD p).map mkS)) :
    ∃ vs' y t, vs = vs' ++ [.str (mkS y) t] ∧ y.length ≤ p.length ∧ ∀ c t', c ≠ 46 → StrsAre (vs' ++ [.str (mkS y ++ mkS [c]) t']) ((splitD (p ++ [c])).map mkS) := by
  obtain ⟨a, b, e⟩ : ∃ a b, splitD p = a ++ [b] := ⟨(splitD p).dropLast, (splitD p).getLast (splitD_ne p), (List.dropLast_concat_getLast (splitD_ne p)).symm⟩
  have hb : b.length ≤ p.length := splitD_len (by rw [e]; simp)
  have h' := h
  rw [e, List.map_append, List.map_cons, List.map_nil] at h'
  obtain ⟨vs', t, rfl, h2⟩ := strs_split_last h'
  refine ⟨vs', b, t, rfl, hb, fun c t' hc => ?_⟩
  rw [splitD_snoc hc e, List.map_append, List.map_cons, List.map_nil]
  have e2 : mkS b ++ mkS [c] = mkS (b ++ [c]) := by
    apply Str.ext'
    show (mkS b ++ mkS [c]).cps = _
    rw [Str.cps_append]
    simp [mkS]
  rw [e2]
  exact h2.append' (.cons _ _ .nil)
theorem last_get (vs : List Value) (v : Value) : (vs ++ [v]).toArray[((-1 : Int) + (vs ++ [v]).toArray.size).toNat]? = some v := by
  have : ((-1 : Int) + ((vs ++ [v]).toArray.size : Int)).toNat = vs.length := by simp; omega
  rw [this]
  simp
theorem one_ne_dot {c : Nat} (h : ((⟨#[c]⟩ : Str) == Str.ofString ".") = false) : c ≠ 46 := by
  rw [dot_lit] at h
  intro e
  subst e
  simp at h
theorem one_dot {c : Nat} (h : ((⟨#[c]⟩ : Str) == Str.ofString ".") = true) : c = 46 := by
  rw [dot_lit] at h
  simpa using h
theorem push_last (vs : List Value) (v : Value) : vs.toArray.push v = (vs ++ [v]).toArray := by simp
end Mine
end
section
open PySem PySem.W PyProof.Rows
open PySem.NumText
namespace Mine
/-- the signs that a part may hold: ASCII, and no white sign but the blank -/
def NumOK (c : Nat) : Prop := c ≠ 0 ∧ c < 128 ∧ (9 ≤ c → c ≤ 13 → False)
theorem NumOK.blank {c : Nat} (h : NumOK c) : blank c = (c == 32) := by
  unfold NumText.blank
  have : (decide (9 ≤ c) && decide (c ≤ 13)) = false := by
    cases h1 : decide (9 ≤ c) with
    | false => rfl
    | true => cases h2 : decide (c ≤ 13) with
      | false => rfl
      | true => exact (h.2.2 (of_decide_eq_true h1) (of_decide_eq_true h2)).elim
  rw [this, Bool.or_false]

/-- the figures read one by one: the worth so far, and whether a figure stood last -/
def digStep (p : Nat × Bool) (c : Nat) : Option (Nat × Bool) :=
  if c = 95 ∧ p.2 = true then some (p.1, false) else if 48 ≤ c ∧ c ≤ 57 then some (p.1 * 10 + (c - 48), true) else none
def digs (cs : List Nat) : Option (Nat × Bool) := cs.foldlM digStep (0, false)
def numR (less : Bool) (body : List Nat) : Option Int := match digs body with
  | some (a, true) => some (if less then -(a : Int) else (a : Int))
  | _ => none
def valOf (ds : Array Nat) : Nat := ds.foldl (fun acc d => acc * 10 + d) 0

theorem digit_iff (c : Nat) : (match digit? c with | some d => decide (d < 10) | none => false) = (decide (48 ≤ c) && decide (c ≤ 57)) := by
  unfold digit?
  by_cases h1 : 48 ≤ c ∧ c ≤ 57
  · rw [if_pos (by simp [h1])]
    simp [h1]; omega
  · rw [if_neg (by simpa using h1)]
    have : (decide (48 ≤ c) && decide (c ≤ 57)) = false := by simpa using h1
    rw [this]
    split
    · rename_i d hd
      split at hd
      · rename_i h2; cases hd; simp at h2 ⊢; omega
      · split at hd
        · rename_i h2; cases hd; simp at h2 ⊢; omega
        · cases hd
    · rfl
theorem step_rel (ds : Array Nat) (r : Bool) (c : Nat) : (NumText.step 10 (ds, r) c).map (fun p => (valOf p.1, p.2)) = digStep (valOf ds, r) c := by
  unfold NumText.step digStep
  by_cases h95 : c = 95
  · subst h95
    cases r <;> simp
  · have h0 : (c == 95) = false := by simpa using h95
    simp only [h0, h95, false_and, if_false, Bool.false_eq_true]
    by_cases hd : 48 ≤ c ∧ c ≤ 57
    · have e : digit? c = some (c - 48) := digit_of hd
      rw [e, if_pos hd]
      simp only
      rw [if_pos (by omega)]
      simp [valOf]
    · rw [if_neg hd]
      have q := digit_iff c
      have : (decide (48 ≤ c) && decide (c ≤ 57)) = false := by simpa using hd
      rw [this] at q
      cases hdg : digit? c with
      | none => rfl
      | some d =>
        rw [hdg] at q
        have : ¬ d < 10 := by simpa using q
        simp [this]
theorem fold_rel : ∀ (cs : List Nat) (ds : Array Nat) (r : Bool), (cs.foldlM (NumText.step 10) (ds, r)).map (fun p => (valOf p.1, p.2)) = cs.foldlM digStep (valOf ds, r)
  | [], ds, r => rfl
  | c :: cs, ds, r => by
    rw [List.foldlM_cons, List.foldlM_cons, ← step_rel]
    cases hs : NumText.step 10 (ds, r) c with
    | none => rfl
    | some p =>
      obtain ⟨ds', r'⟩ := p
      exact fold_rel cs ds' r'
theorem numR_eq (less : Bool) (body : List Nat) : numR less body = (match digits? 10 body with | some ds => some (worth less ds) | none => none) := by
  have q := fold_rel body #[] false
  unfold numR digs digits?
  have e0 : valOf #[] = 0 := rfl
  rw [e0] at q
  rw [← q]
  cases body.foldlM (NumText.step 10) (#[], false) with
  | none => rfl
  | some p =>
    obtain ⟨ds, r⟩ := p
    cases r with
    | false => rfl
    | true =>
      simp only [Option.map_some, Option.bind_some, if_true]
      unfold worth valOf
      cases less <;> rfl

theorem intText_ok {x : Str} (hok : ∀ c ∈ x.cps.toList, NumOK c) (hx : x.length ≤ 10) :
    PySem.intText? x = match digits? 10 (core x.cps.toList) with
      | some ds => some (worth (sign (x.cps.toList.dropWhile blank)).1 ds)
      | none => none := by
  have e1 : numTextOf x = x.cps.toList := by
    refine if_pos ?_
    rw [← Array.all_toList, List.all_eq_true]
    intro c hc
    exact decide_eq_true (hok c hc).2.1
  have e2 : numSeenOf x = x.cps.toList := by
    show (numTextOf x).takeWhile _ = _
    rw [e1]
    refine takeWhile_all fun c hc => ?_
    exact bne_iff_ne.mpr (hok c hc).1
  unfold PySem.intText?
  rw [e1, e2, if_pos (beq_self_eq_true _)]
  cases hd : digits? 10 (core x.cps.toList) with
  | none => rfl
  | some ds =>
    have h1 := digits_size hd
    have h2 := core_length x.cps.toList
    have h3 : x.cps.toList.length = x.length := Array.length_toList
    exact if_pos (by omega)

theorem dropWhile_at : ∀ (cs : List Nat) (k : Nat), (∀ c ∈ cs, NumOK c) → (∀ v, v < k → cs[v]? = some 32) → (k < cs.length → cs[k]? ≠ some 32) → k ≤ cs.length → cs.dropWhile blank = cs.drop k
  | [], k, _, _, _, h4 => by simp
  | c :: r, 0, h1, _, h3, _ => by
    have hc : c ≠ 32 := by have := h3 (by simp); simpa using this
    have : blank c = false := by rw [(h1 c (by simp)).blank]; simpa using hc
    rw [List.dropWhile_cons, this]; rfl
  | c :: r, k + 1, h1, h2, h3, h4 => by
    have hc : c = 32 := by have := h2 0 (by omega); simpa using this
    subst hc
    have ih := dropWhile_at r k (fun c hc => h1 c (by simp [hc])) (fun v hv => by have := h2 (v + 1) (by omega); simpa using this) (fun h => by have := h3 (by simp; omega); simpa using this) (by simpa using h4)
    rw [List.dropWhile_cons, if_pos (by decide), ih]; rfl
theorem rstrip_at {l : List Nat} {k : Nat} (hok : ∀ c ∈ l, NumOK c) (hk : k ≤ l.length) (h1 : ∀ v, k ≤ v → v < l.length → l[v]? = some 32) (h2 : 0 < k → l[k - 1]? ≠ some 32) : (l.reverse.dropWhile blank).reverse = l.take k := by
  have e := dropWhile_at l.reverse (l.length - k) (fun c hc => hok c (by simpa using hc)) (fun v hv => by
      rw [List.getElem?_reverse (by omega)]
      exact h1 _ (by omega) (by omega)) (fun h => by
      rw [List.length_reverse] at h
      rw [List.getElem?_reverse (by omega), show l.length - 1 - (l.length - k) = k - 1 by omega]
      exact h2 (by omega)) (by simp)
  rw [e, List.drop_reverse, List.reverse_reverse, show l.length - (l.length - k) = k by omega]

theorem num_final {x : Str} {fr be f2 : Nat} {less : Bool} (hok : ∀ c ∈ x.cps.toList, NumOK c) (hx : x.length ≤ 10) (hf1 : fr ≤ x.length) (hf2 : ∀ v, v < fr → x.cps.toList[v]? = some 32) (hex1 : fr < x.length → x.cps.toList[fr]? ≠ some 32)
    (hg1 : fr ≤ be) (hg2 : be ≤ x.length) (hg3 : ∀ v, be ≤ v → v < x.length → x.cps.toList[v]? = some 32) (hex2 : fr < be → x.cps.toList[be - 1]? ≠ some 32)
    (hless : less = true ↔ ((fr : Int) < (be : Int) ∧ x.cps.toList[(fr : Int).toNat]? = some 45))
    (hb : (f2 = fr + 1 ∧ fr < be ∧ (x.cps.toList[fr]? = some 43 ∨ x.cps.toList[fr]? = some 45)) ∨ (f2 = fr ∧ ¬ (fr < be ∧ (x.cps.toList[fr]? = some 43 ∨ x.cps.toList[fr]? = some 45)))) :
    PySem.intText? x = numR less ((x.cps.toList.take be).drop f2) := by
  have hlen : x.cps.toList.length = x.length := Array.length_toList
  rw [intText_ok hok hx, numR_eq]
  generalize x.cps.toList = cs at *
  have et : cs.dropWhile blank = cs.drop fr := dropWhile_at cs fr hok hf2 (fun h => hex1 (by omega)) (by omega)
  have hless' : less = decide (fr < be ∧ cs[fr]? = some 45) := by
    have hq : (less = true) ↔ (fr < be ∧ cs[fr]? = some 45) := by
      rw [hless]; simp
    cases less with
    | true => exact (decide_eq_true (hq.mp rfl)).symm
    | false => exact (decide_eq_false (fun h => by have := hq.mpr h; cases this)).symm
  have key : core cs = (cs.take be).drop f2 ∧ (sign (cs.dropWhile blank)).1 = less := by
    unfold core
    rw [et]
    rcases Nat.lt_or_ge fr be with hlt | hge
    · have hfl : fr < cs.length := by omega
      obtain ⟨c, hc⟩ : ∃ c, cs[fr]? = some c := ⟨cs[fr], List.getElem?_eq_getElem hfl⟩
      have et2 : cs.drop fr = c :: cs.drop (fr + 1) := by
        rw [List.drop_eq_getElem_cons hfl]
        rw [List.getElem?_eq_getElem hfl] at hc
        rw [Option.some.inj hc]
      have rs : ∀ f, fr ≤ f → f ≤ be → ((cs.drop f).reverse.dropWhile blank).reverse = (cs.take be).drop f := fun f h1 h2 => by
        rw [rstrip_at (k := be - f) (fun c hc => hok c (List.mem_of_mem_drop hc)) (by simp; omega) (fun v hv hv2 => by
          rw [List.getElem?_drop]; simp at hv2; exact hg3 _ (by omega) (by omega)) (fun h => by
          rw [List.getElem?_drop, show f + (be - f - 1) = be - 1 by omega]; exact hex2 hlt)]
        rw [List.drop_take]
      rw [hc] at hb hless'
      by_cases h45 : c = 45
      · subst h45
        have e2 : f2 = fr + 1 := by
          rcases hb with h | h
          · exact h.1
          · exact absurd ⟨hlt, .inr rfl⟩ h.2
        have e3 : less = true := by rw [hless']; simp [hlt]
        subst e2 e3
        rw [et2]
        exact ⟨rs (fr + 1) (by omega) (by omega), rfl⟩
      · by_cases h43 : c = 43
        · subst h43
          have e2 : f2 = fr + 1 := by
            rcases hb with h | h
            · exact h.1
            · exact absurd ⟨hlt, .inl rfl⟩ h.2
          have e3 : less = false := by rw [hless']; simp
          subst e2 e3
          rw [et2]
          exact ⟨rs (fr + 1) (by omega) (by omega), rfl⟩
        · have e2 : f2 = fr := by
            rcases hb with h | h
            · exfalso
              rcases h.2.2 with q | q
              · exact h43 (Option.some.inj q)
              · exact h45 (Option.some.inj q)
            · exact h.1
          have e3 : less = false := by rw [hless']; simp [h45]
          subst e2 e3
          have es : sign (cs.drop f2) = (false, cs.drop f2) := by rw [et2]; exact sign_of h45 h43
          rw [es]
          exact ⟨rs f2 (by omega) (by omega), rfl⟩
    · have hfb : fr = be := by omega
      have hfl : fr = cs.length := by
        rcases Nat.lt_or_ge fr cs.length with h | h
        · exact absurd (hg3 fr (by omega) (by omega)) (hex1 (by omega))
        · omega
      have e2 : f2 = fr := by
        rcases hb with h | h
        · omega
        · exact h.1
      have e3 : less = false := by rw [hless']; simp; omega
      subst e2 e3
      have e4 : cs.drop f2 = [] := by rw [hfl]; simp
      rw [e4]
      refine ⟨?_, rfl⟩
      rw [List.drop_take, e4]; simp [sign]
  rw [key.1, key.2]
end Mine
end
section
open PySem PySem.W PyProof.Rows
namespace Mine
open PySem.Challenge
/-- where a call is made from -/
structure Cx (w : World) (base : Heap) (A₀ : Around) (outer : List Env) (h₀ : Heap) (L : Addr) (env : Env) (loose : List Str) (mean : ExcName → Option Value) (mg mb : Str → Option Value) : Prop where
  B : Below A₀ base outer h₀
  X : (Mine.hd.heap_39 w.params).In h₀
  T : Top topProg loose mean mg mb h₀
  hf : env.frame = some L
  hke : env.scope.kind = .function
/-- a dict that holds one name alone -/
def NsOb (od : Obj) (name : Str) (v : Value) : Prop := ∃ es ep, od.data = .dict es ep ∧ StrKeys es ∧ ∀ y, nsFind es y = if y = name then some v else none
abbrev tupOf (vs : List Value) : Obj := { cls := .type "tuple", data := .seq vs.toArray }
/-- the function at f, with what led holds, gives a new pair when called -/
def SpanOK (w : World) (base : Heap) (led : List (Addr × Obj)) (f : Addr) (i j : Int) : Prop :=
  ∀ (A₀ : Around) (h₀ : Heap) (outer : List Env) (L : Addr) (m mg mb : Str → Option Value) (news : List (Addr × Obj)) (s : Shared) (env : Env) (loose : List Str) (mean : ExcName → Option Value) (Q E : Value → Shared → Prop),
    Cx w base A₀ outer h₀ L env loose mean mg mb → Fr h₀ L s.heap m → News h₀ L s.heap news → (∀ p ∈ led, p ∈ news) →
    (∀ tt a b h' tk, Fr h₀ L h' m → News h₀ L h' ((tt, tupOf [.int i a, .int j b]) :: news) → (∀ p ∈ news, p.1 < tt) → Q (.ref tt) { s with heap := h', toks := tk }) →
    wpAny (model rw_mj0064_01.row.prog w) (AA 450 100 env outer) (call (.ref f) [] []) Q E s
def FnOb (o : Obj) : Prop := ∃ oc od fd sl, o = ⟨oc, od, .func fd, sl⟩
theorem FnOb.at {h₀ h : Heap} {L q : Addr} {o : Obj} {news : List (Addr × Obj)} (f : FnOb o) (N : News h₀ L h news) (hm : (q, o) ∈ news) : FnAt q h := by
  obtain ⟨oc, od, fd, sl, rfl⟩ := f
  exact FnAt.of N hm
/-- a hit: its span gives i and i + 1 -/
def HitOK (w : World) (base : Heap) (led : List (Addr × Obj)) (x : Addr) (i j : Int) : Prop :=
  (∀ p ∈ led, p.1 ≠ 37) ∧ ∃ d od f fd sl fo, (d, od) ∈ led ∧ (x, (⟨.type "function", some d, .func fd, sl⟩ : Obj)) ∈ led ∧ (f, fo) ∈ led ∧ FnOb fo ∧ NsOb od (Str.ofString "span") (.ref f) ∧ SpanOK w base led f i j
/-- the table of the codes made in _law_hit: none yet, or both -/
inductive TabSt
  | empty
  | full (k1 k2 : Addr) (o1 o2 : Obj)
def TL : TabSt → List (Addr × Obj)
  | .empty => [(37, tabObj #[])]
  | .full k1 k2 o1 o2 => [(37, tabObj #[rawInt 35, rawInt 10, .ref k1, rawInt 36, rawInt 15, .ref k2]), (k1, o1), (k2, o2)]
def CodeOb (o : Obj) : Prop := ∃ vs t, o.data = .fields vs ∧ vs[1]? = some (.str (Str.ofString "_law_hit.<locals>.<lambda>") t)
def TabOK : TabSt → Prop
  | .empty => True
  | .full k1 k2 o1 o2 => CodeOb o1 ∧ CodeOb o2 ∧ k1 ≠ 37 ∧ k2 ≠ 37
/-- the table is as it was, or its codes are newer than all that was made before -/
def Grow (ts ts' : TabSt) (news : List (Addr × Obj)) : Prop := ts' = ts ∨ ∀ p ∈ TL ts', p.1 = 37 ∨ ∀ q ∈ news, q.1 < p.1
theorem Grow.refl (ts : TabSt) (news : List (Addr × Obj)) : Grow ts ts news := .inl rfl
theorem Grow.trans {a b c : TabSt} {news : List (Addr × Obj)} (h1 : Grow a b news) (h2 : Grow b c news) : Grow a c news := by
  rcases h2 with rfl | h2
  · exact h1
  · exact .inr h2
theorem Grow.sub {a b : TabSt} {l l' : List (Addr × Obj)} (h : Grow a b l) (hs : ∀ p ∈ l', p ∈ l) : Grow a b l' := by
  rcases h with rfl | h
  · exact .inl rfl
  · exact .inr fun p hp => (h p hp).imp id fun g q hq => g q (hs q hq)

section
variable {prog : Program} {w : World} {A : Around} {E : Value → Shared → Prop} {s : Shared} {h₀ : Heap} {L x : Addr} {m : Str → Option Value} {news : List (Addr × Obj)} {g : Obj → List (Addr × Obj)} {fd : FuncData} {sl : Array (Option Value)} {name : Str} {v : Value}
theorem fnset_N {Q : Unit → Shared → Prop} (F : Fr h₀ L s.heap m) (N : News h₀ L s.heap news) (U : UpdF x ⟨.type "function", none, .func fd, sl⟩ news g) (hname : typeLookup (.type "function") name = pure none)
    (h : ∀ d od h' tk, Fr h₀ L h' m → News h₀ L h' ((d, od) :: g ⟨.type "function", some d, .func fd, sl⟩) → NsOb od name v → (∀ p ∈ news, p.1 < d) → Q () { s with heap := h', toks := tk }) :
    wpAny (model prog w) A (setAttr (.ref x) name v) Q E s := by
  obtain ⟨pre, post, rfl, hg, h1, h2⟩ := U.split
  have hx := N (x, _) (List.mem_append_right _ (.head _))
  have hLs : L < s.heap.objs.size := F.ns.lt
  have fresh : ∀ b, L < b → h₀.get? b = none := fun b hb => Heap.get?_none_of_le (Nat.le_trans F.above (Nat.le_of_lt hb))
  refine fn_setattr hx.1 hname fun h' tk hn hx' hk => ?_
  obtain ⟨od, es, ep, ho, hd, hs, hm⟩ := hn
  refine h s.heap.objs.size od h' tk ⟨F.ns.at' ?_, fun b o e => hk b o (fun q => by rw [q, hx.2.2] at e; cases e) (F.keep b o e), F.above⟩ ?_ ⟨es, ep, hd, hs, hm⟩ (fun p hp => Heap.lt_size (N p hp).1)
  · exact fun o e => hk L o (Ne.symm hx.2.1) e
  · intro p hp
    rcases List.mem_cons.mp hp with rfl | hp
    · exact ⟨ho, Nat.ne_of_gt hLs, fresh _ hLs⟩
    · rw [hg] at hp
      rcases List.mem_append.mp hp with hp | hp
      · have n := N p (List.mem_append_left _ hp)
        exact ⟨hk _ _ (h1 p hp) n.1, n.2⟩
      · rcases List.mem_cons.mp hp with rfl | hp
        · exact ⟨hx', hx.2⟩
        · have n := N p (List.mem_append_right _ (.tail _ hp))
          exact ⟨hk _ _ (h2 p hp) n.1, n.2⟩
theorem NsOb.ns {h : Heap} {d : Addr} {od : Obj} (n : NsOb od name v) (hd : h.get? d = some od) : h.Ns d (fun y => if y = name then some v else none) :=
  let ⟨es, ep, a, b, c⟩ := n; ⟨od, es, ep, hd, a, b, c⟩
theorem fnget_N {Q : Value × List Value → Shared → Prop} {pl : Sem Bool} {d f : Addr} {od : Obj} (N : News h₀ L s.heap news) (hx : (x, (⟨.type "function", some d, .func fd, sl⟩ : Obj)) ∈ news) (hd : (d, od) ∈ news) (hn : NsOb od name (.ref f)) (hname : typeLookup (.type "function") name = pure none)
    (h : ∀ tk, Q (.ref f, []) { s with toks := tk }) : wpAny (model prog w) A (getMethod (.ref x) name pl) Q E s :=
  fn_getMethod (N _ hx).1 (hn.ns (N _ hd).1) (by simp) hname h
end
end Mine
end
section
open PySem PySem.W PyProof.Rows
namespace Mine
open PySem.Challenge

section
local macro_rules | `(tactic| walk_at "exec If") => `(tactic| refine wpAny_If ?_)
local macro_rules | `(tactic| walk_at "call builtin:str.find") => `(tactic| (refine find2P 10 (by decide +kernel) ?_; intro r' tk' hr' hl' hh'))
local macro_rules | `(tactic| walk_at "call builtin:str.find") => `(tactic| (refine find4P 58 (by decide +kernel) (by omega) (by omega) ?_; intro r' tk' hr' hl' hh'))
local macro_rules | `(tactic| walk_at "call builtin:str.rfind") => `(tactic| (refine rfind4P 46 (by decide +kernel) (by omega) (by omega) ?_; intro r' tk' hr' hl' hh'))

set_option maxRecDepth 100000 in
set_option maxHeartbeats 8000000 in
theorem strip_spec {w : World} {A₀ : Around} {base h₀ : Heap} {outer : List Env} {L : Addr} {m mg mb : Str → Option Value} {news : List (Addr × Obj)} {s : Shared} {env : Env} {loose : List Str} {mean : ExcName → Option Value} {Q : Value → Shared → Prop} {E : Value → Shared → Prop} {x : Str} {t : Tok}
    (B : Below A₀ base outer h₀) (F : Fr h₀ L s.heap m) (X : (Mine.hd.heap_39 w.params).In h₀) (N : News h₀ L s.heap news) (T : Top topProg loose mean mg mb h₀)
    (hf : env.frame = some L) (hke : env.scope.kind = .function)
    (hx : x.length ≤ 10)
    (h : ∀ y h' tk t', y = stripF x → Fr h₀ L h' m → News h₀ L h' news → Q (.str y t') { s with heap := h', toks := tk }) :
    wpAny (model rw_mj0064_01.row.prog w) (AA 400 50 env outer) (call (.ref 21) [.str x t] []) Q E s := by
  w_on
  revert X
  k_fill
  intro X
  refine wpAny_call ?_
  refine' code_def B F X N T rfl hf hke ?k6 ?k7 ?k8 ?k9 ?kB ?_ ?c2 ?c3 ?c4 ?c5
  (case k6 => k_is); (case k7 => k_is); (case k8 => exact Nat.le_of_ble_eq_true rfl); (case k9 => exact BindsTo.of_eq rfl)
  (case c5 => decide); (case kB => exact locs rfl); (case c2 => exact rfl); (case c3 => exact rfl); (case c4 => exact rfl)
  intro g' L' h' FG' F' N' B' X' T'
  try dsimp only
  k_fold
  w_strict (k_steps)
  all_goals (try k_data)
  all_goals (refine' h _ _ _ _ (strip_eq ?a1 ?b1 ?a2 ?b2 ?a3 ?b3) ?F ?N; (case a3 => assumption); (case a2 => assumption); (case a1 => assumption); (case b1 => omega); (case b2 => omega); (case b3 => omega); (case F => assumption); (case N => exact news_tl (by assumption)))

end
end Mine
end
section
open PySem PySem.W PyProof.Rows
namespace Mine
open PySem.Challenge

theorem code_ob {o : Obj} {vs : Array Value} {t : Tok} {q : Str} (h1 : o.data = .fields vs) (h2 : vs[1]? = some (.str q t)) (hq : q = Str.ofString "_law_hit.<locals>.<lambda>") : CodeOb o := ⟨vs, t, h1, hq ▸ h2⟩
theorem span_fin {h₀ h : Heap} {L : Addr} {a b c d e f g : Addr × Obj} {news : List (Addr × Obj)} (N : News h₀ L h (a :: b :: c :: d :: e :: f :: g :: news)) : News h₀ L h (a :: news) :=
  news_sub N fun p hp => by
    rcases List.mem_cons.mp hp with rfl | hp
    · exact .head _
    · exact .tail _ (.tail _ (.tail _ (.tail _ (.tail _ (.tail _ (.tail _ hp))))))
theorem hit_qual : Str.ofString "_law_hit" ++ Str.ofString ".<locals>." ++ Str.ofString "<lambda>" = Str.ofString "_law_hit.<locals>.<lambda>" := by decide +kernel
theorem codeRec_of_ob {h₀ h : Heap} {L k : Addr} {o : Obj} {news : List (Addr × Obj)} {q : Str} (N : News h₀ L h news) (hk : (k, o) ∈ news) (c : CodeOb o) (hq : q = Str.ofString "_law_hit.<locals>.<lambda>") : h.CodeRec (.ref k) q := by
  obtain ⟨vs, t, h1, h2⟩ := c
  exact ⟨k, o, vs, t, rfl, (N _ hk).1, h1, hq ▸ h2⟩

theorem hit_finish {h₀ h : Heap} {L d f k2 x k1 cb cf : Addr} {od fo o2 xo o1 ob oc : Obj} {arr : Array Value} {news : List (Addr × Obj)}
    (N : News h₀ L h ((d, od) :: (f, fo) :: (k2, o2) :: (x, xo) :: (k1, o1) :: (cb, ob) :: (cf, oc) :: (37, tabObj arr) :: news))
    (harr : arr = #[rawInt 35, rawInt 10, .ref k1, rawInt 36, rawInt 15, .ref k2]) :
    News h₀ L h ([(d, od), (f, fo), (k2, o2), (x, xo), (cb, ob), (cf, oc)] ++ (TL (.full k1 k2 o1 o2) ++ news)) := by
  subst harr
  refine news_sub N fun p hp => ?_
  simp only [TL, List.cons_append, List.nil_append, List.mem_cons] at hp ⊢
  rcases hp with h | h | h | h | h | h | h | h | h | h <;> simp only [h, true_or, or_true]
theorem hit_again_finish {h₀ h : Heap} {L d f k2 x k1 cb cf : Addr} {od fo o2 xo o1 ob oc : Obj} {news : List (Addr × Obj)}
    (N : News h₀ L h ((d, od) :: (f, fo) :: (x, xo) :: (cb, ob) :: (cf, oc) :: (37, tabObj #[rawInt 35, rawInt 10, .ref k1, rawInt 36, rawInt 15, .ref k2]) :: (k1, o1) :: (k2, o2) :: news)) :
    News h₀ L h ([(d, od), (f, fo), (k2, o2), (x, xo), (cb, ob), (cf, oc)] ++ (TL (.full k1 k2 o1 o2) ++ news)) := by
  refine news_sub N fun p hp => ?_
  simp only [TL, List.cons_append, List.nil_append, List.mem_cons] at hp ⊢
  rcases hp with h | h | h | h | h | h | h | h | h | h <;> simp only [h, true_or, or_true]

section
local macro_rules | `(tactic| k_all) => `(tactic| (intro p' hp'; have q' := ltOf (by assumption) hp'; refine neN ?_; (try dsimp only); omega))
local macro_rules | `(tactic| k_all) => `(tactic| assumption)
local macro_rules | `(tactic| walk_at "setAttr") => `(tactic| (k_here; k_dflt (refine' fnset_N ?F ?N ?U ?n ?_; (case F => k_asm); (case N => k_asm); (case U => k_updF); (case n => first | exact fn_no_span | exact fn_no_search); k_whole); intro d' od' h' tk' F' N' hn' l1; (try dsimp only at N'); (try k_lt l1)))

set_option maxRecDepth 100000 in
set_option maxHeartbeats 8000000 in
theorem hit_new {w : World} {A₀ : Around} {base h₀ : Heap} {outer : List Env} {L : Addr} {m mg mb : Str → Option Value} {news : List (Addr × Obj)} {s : Shared} {env : Env} {loose : List Str} {mean : ExcName → Option Value} {Q : Value → Shared → Prop} {E : Value → Shared → Prop} {i j : Int} {t t2 : Tok}
    (cx : Cx w base A₀ outer h₀ L env loose mean mg mb) (F : Fr h₀ L s.heap m) (N : News h₀ L s.heap ((37, tabObj #[]) :: news))
    (C : CodeHd base 41 37) (hne : ∀ p ∈ news, p.1 ≠ 37)
    (h : ∀ x led ts' h' tk, HitOK w base led x i j → TabOK ts' → Grow .empty ts' news → Fr h₀ L h' m → News h₀ L h' (led ++ (TL ts' ++ news)) → Q (.ref x) { s with heap := h', toks := tk }) :
    wpAny (model rw_mj0064_01.row.prog w) (AA 440 90 env outer) (call (.ref 42) [.int i t, .int j t2] []) Q E s := by
  obtain ⟨B, X, T, hf, hke⟩ := cx
  w_on
  revert X
  k_fill
  intro X
  refine wpAny_call ?_
  refine' code_defC B F X N T rfl hf hke ?k6 ?k7 ?k8 ?k9 ?kB ?kD ?_ ?c2 ?c3 ?c4
  (case k6 => k_is); (case k7 => k_is); (case k8 => exact Nat.le_of_ble_eq_true rfl); (case k9 => exact BindsTo.of_eq rfl)
  (case kB => exact rfl); (case kD => decide +kernel); (case c2 => exact rfl); (case c3 => exact rfl); (case c4 => exact rfl)
  intro g' L' h' tk' cells' FG' F' N' Y' B' X' T' l1
  (have hnL : ∀ p ∈ news, p.1 < L' := fun p hp => l1 p (.tail _ hp))
  (try k_lt l1)
  k_cells Y'; (try simp only [List.cons_append, List.nil_append] at N'); (try dsimp only)
  try k_fold
  w_strict (k_steps)
  all_goals (try k_data)
  refine' h _ _ (TabSt.full _ _ _ _) _ _ ?hit ?tab ?grow ?F (hit_finish ?N ?arr)
  case F => assumption
  (case N => assumption); (case arr => rfl)
  case grow => exact .inr (by simp only [TL, List.forall_mem_cons, List.not_mem_nil, false_implies, implies_true, and_true]; exact ⟨.inl trivial, .inr fun q hq => Nat.lt_trans (hnL q hq) (by omega), .inr fun q hq => Nat.lt_trans (hnL q hq) (by omega)⟩)
  case tab => exact ⟨code_ob (by assumption) (by assumption) hit_qual, code_ob (by assumption) (by assumption) hit_qual, by refine neN ?_; omega, by refine neN ?_; omega⟩
  case hit =>
    refine ⟨?ne, _, _, _, _, _, _, .head _, .tail _ (.tail _ (.tail _ (.head _))), .tail _ (.head _), ⟨_, _, _, _, rfl⟩, by assumption, ?span⟩
    case ne =>
      simp only [List.forall_mem_cons, List.not_mem_nil, false_implies, implies_true, and_true]
      refine ⟨neN ?_, neN ?_, neN ?_, neN ?_, neN ?_, neN ?_⟩ <;> first | omega | exact hT.2.2.2
    case span =>
      have hcode : CodeOb _ := code_ob (by assumption) (by assumption) hit_qual
      clear h hne B F N T hf hke FG' B' X' T' X
      intro A₁ h₁ outer₁ L₁ m₁ mg₁ mb₁ news₁ s₁ env₁ loose₁ mean₁ Q₁ E₁ cx₁ F₁ N₁ hs₁ hq₁
      obtain ⟨B₁, X₁, T₁, hf₁, hke₁⟩ := cx₁
      have N₂ := fun p hp => N₁ p ((List.mem_append.mp hp).elim (hs₁ p) id)
      refine wpAny_call ?_
      refine' kla_code B₁ F₁ X₁ N₂ T₁ rfl hf₁ hke₁ ?k6 ?k7 ?k8 ?k9 ?kB ?_ ?c2 ?c3 ?c4 ?c5
      (case k6 => exact .tail _ (.head _)); (case k7 => exact codeRec_of_ob N₂ (.tail _ (.tail _ (.head _))) hcode hit_qual); (case k8 => exact Nat.le_of_ble_eq_true rfl); (case k9 => exact rfl); (case c5 => decide); (case kB => exact locs rfl); (case c2 => exact rfl); (case c3 => exact rfl); (case c4 => exact rfl)
      intro g₃ L₃ h₃ FG₃ F₃ N₃ B₃ X₃ T₃
      (try dsimp only)
      (try k_fold)
      simp only [List.cons_append, List.nil_append] at N₃
      w_strict (k_steps)
      all_goals (try k_data)
      exact hq₁ _ _ _ _ _ (by assumption) (span_fin (by assumption)) (kst_ltOf (‹_ ∧ _ ∧ _ ∧ _ ∧ _ ∧ _ ∧ AllLt _ news₁›).2.2.2.2.2.2)

set_option maxRecDepth 100000 in
set_option maxHeartbeats 8000000 in
theorem hit_again {w : World} {A₀ : Around} {base h₀ : Heap} {outer : List Env} {L : Addr} {m mg mb : Str → Option Value} {news : List (Addr × Obj)} {s : Shared} {env : Env} {loose : List Str} {mean : ExcName → Option Value} {Q : Value → Shared → Prop} {E : Value → Shared → Prop} {i j : Int} {t t2 : Tok} {k1 k2 : Addr} {o1 o2 : Obj}
    (cx : Cx w base A₀ outer h₀ L env loose mean mg mb) (F : Fr h₀ L s.heap m) (N : News h₀ L s.heap ((37, tabObj #[rawInt 35, rawInt 10, .ref k1, rawInt 36, rawInt 15, .ref k2]) :: (k1, o1) :: (k2, o2) :: news))
    (hT : TabOK (.full k1 k2 o1 o2)) (C : CodeHd base 41 37) (hne : ∀ p ∈ news, p.1 ≠ 37)
    (h : ∀ x led ts' h' tk, HitOK w base led x i j → TabOK ts' → Grow (.full k1 k2 o1 o2) ts' news → Fr h₀ L h' m → News h₀ L h' (led ++ (TL ts' ++ news)) → Q (.ref x) { s with heap := h', toks := tk }) :
    wpAny (model rw_mj0064_01.row.prog w) (AA 440 90 env outer) (call (.ref 42) [.int i t, .int j t2] []) Q E s := by
  obtain ⟨B, X, T, hf, hke⟩ := cx
  w_on
  revert X
  k_fill
  intro X
  refine wpAny_call ?_
  refine' code_defC B F X N T rfl hf hke ?k6 ?k7 ?k8 ?k9 ?kB ?kD ?_ ?c2 ?c3 ?c4
  (case k6 => k_is); (case k7 => k_is); (case k8 => exact Nat.le_of_ble_eq_true rfl); (case k9 => exact BindsTo.of_eq rfl)
  (case kB => exact rfl); (case kD => decide +kernel); (case c2 => exact rfl); (case c3 => exact rfl); (case c4 => exact rfl)
  intro g' L' h' tk' cells' FG' F' N' Y' B' X' T' l1
  (have hnL : ∀ p ∈ news, p.1 < L' := fun p hp => l1 p (.tail _ (.tail _ (.tail _ hp))))
  (try k_lt l1)
  k_cells Y'; (try simp only [List.cons_append, List.nil_append] at N'); (try dsimp only)
  try k_fold
  w_strict (k_steps)
  all_goals (try k_data)
  refine' h _ _ (TabSt.full _ _ _ _) _ _ ?hit ?tab ?grow ?F (hit_again_finish ?N)
  case F => assumption
  (case N => assumption)
  case grow => exact .inl rfl
  case tab => exact hT
  case hit =>
    refine ⟨?ne, _, _, _, _, _, _, .head _, .tail _ (.tail _ (.tail _ (.head _))), .tail _ (.head _), ⟨_, _, _, _, rfl⟩, by assumption, ?span⟩
    case ne =>
      simp only [List.forall_mem_cons, List.not_mem_nil, false_implies, implies_true, and_true]
      refine ⟨neN ?_, neN ?_, neN ?_, neN ?_, neN ?_, neN ?_⟩ <;> first | omega | exact hT.2.2.2
    case span =>
      have hcode : CodeOb _ := hT.2.1
      clear h hne B F N T hf hke FG' B' X' T' X
      intro A₁ h₁ outer₁ L₁ m₁ mg₁ mb₁ news₁ s₁ env₁ loose₁ mean₁ Q₁ E₁ cx₁ F₁ N₁ hs₁ hq₁
      obtain ⟨B₁, X₁, T₁, hf₁, hke₁⟩ := cx₁
      have N₂ := fun p hp => N₁ p ((List.mem_append.mp hp).elim (hs₁ p) id)
      refine wpAny_call ?_
      refine' kla_code B₁ F₁ X₁ N₂ T₁ rfl hf₁ hke₁ ?k6 ?k7 ?k8 ?k9 ?kB ?_ ?c2 ?c3 ?c4 ?c5
      (case k6 => exact .tail _ (.head _)); (case k7 => exact codeRec_of_ob N₂ (.tail _ (.tail _ (.head _))) hcode hit_qual); (case k8 => exact Nat.le_of_ble_eq_true rfl); (case k9 => exact rfl); (case c5 => decide); (case kB => exact locs rfl); (case c2 => exact rfl); (case c3 => exact rfl); (case c4 => exact rfl)
      intro g₃ L₃ h₃ FG₃ F₃ N₃ B₃ X₃ T₃
      (try dsimp only)
      (try k_fold)
      simp only [List.cons_append, List.nil_append] at N₃
      w_strict (k_steps)
      all_goals (try k_data)
      exact hq₁ _ _ _ _ _ (by assumption) (span_fin (by assumption)) (kst_ltOf (‹_ ∧ _ ∧ _ ∧ _ ∧ _ ∧ _ ∧ AllLt _ news₁›).2.2.2.2.2.2)

theorem hit_spec {w : World} {A₀ : Around} {base h₀ : Heap} {outer : List Env} {L : Addr} {m mg mb : Str → Option Value} {news : List (Addr × Obj)} {s : Shared} {env : Env} {loose : List Str} {mean : ExcName → Option Value} {Q : Value → Shared → Prop} {E : Value → Shared → Prop} {i j : Int} {t t2 : Tok} {ts : TabSt}
    (cx : Cx w base A₀ outer h₀ L env loose mean mg mb) (F : Fr h₀ L s.heap m) (N : News h₀ L s.heap (TL ts ++ news)) (hT : TabOK ts)
    (C : CodeHd base 41 37) (hne : ∀ p ∈ news, p.1 ≠ 37)
    (h : ∀ x led ts' h' tk, HitOK w base led x i j → TabOK ts' → Grow ts ts' news → Fr h₀ L h' m → News h₀ L h' (led ++ (TL ts' ++ news)) → Q (.ref x) { s with heap := h', toks := tk }) :
    wpAny (model rw_mj0064_01.row.prog w) (AA 440 90 env outer) (call (.ref 42) [.int i t, .int j t2] []) Q E s := by
  cases ts with
  | empty => exact hit_new cx F N C hne h
  | full k1 k2 o1 o2 => exact hit_again cx F N hT C hne h
end
end Mine
end
section
open PySem PySem.W PyProof.Rows
namespace Mine
open PySem.Challenge
/-- the function at fs, with what led holds, seeks the first dot from a place on -/
def SearchOK (w : World) (base : Heap) (led : List (Addr × Obj)) (fs : Addr) : Prop :=
  ∀ (A₀ : Around) (h₀ : Heap) (outer : List Env) (L : Addr) (m mg mb : Str → Option Value) (news : List (Addr × Obj)) (s : Shared) (env : Env) (loose : List Str) (mean : ExcName → Option Value) (Q E : Value → Shared → Prop)
    (x : Str) (t : Tok) (args : List Value) (j : Nat) (ts : TabSt),
    Cx w base A₀ outer h₀ L env loose mean mg mb → Fr h₀ L s.heap m → News h₀ L s.heap (TL ts ++ news) → (∀ p ∈ led, p ∈ news) → TabOK ts → CodeHd base 41 37 → (∀ p ∈ news, p.1 ≠ 37) → x.length ≤ 10 →
    (args = [.str x t] ∧ j = 0 ∨ ∃ t2, args = [.str x t, .int (j : Int) t2]) → j ≤ 10 →
    ((∀ v, j ≤ v → v < x.length → x.cps.toList[v]? ≠ some 46) → ∀ h' tk, Fr h₀ L h' m → News h₀ L h' (TL ts ++ news) → Q .none { s with heap := h', toks := tk }) →
    (∀ (k : Nat) xh led' ts' h' tk, j ≤ k → k < x.length → x.cps.toList[k]? = some 46 → (∀ v, j ≤ v → v < k → x.cps.toList[v]? ≠ some 46) → HitOK w base led' xh (k : Int) ((k : Int) + 1) → TabOK ts' → Grow ts ts' news →
      Fr h₀ L h' m → News h₀ L h' (led' ++ (TL ts' ++ news)) → Q (.ref xh) { s with heap := h', toks := tk }) →
    wpAny (model rw_mj0064_01.row.prog w) (AA 420 75 env outer) (call (.ref fs) args []) Q E s
/-- what prog is: a function object whose search is such a function -/
def ProgOK (w : World) (base : Heap) (led : List (Addr × Obj)) (pr : Addr) : Prop :=
  (∀ p ∈ led, p.1 ≠ 37) ∧ ∃ d od fs fd sl fo, (d, od) ∈ led ∧ (pr, (⟨.type "function", some d, .func fd, sl⟩ : Obj)) ∈ led ∧ (fs, fo) ∈ led ∧ FnOb fo ∧ NsOb od (Str.ofString "search") (.ref fs) ∧ SearchOK w base led fs
end Mine
end
section
open PySem PySem.W PyProof.Rows
namespace Mine
open PySem.Challenge

theorem search_back {h₀ h : Heap} {L : Addr} {a b c d e : Addr × Obj} {news : List (Addr × Obj)} (N : News h₀ L h (a :: b :: c :: d :: e :: news)) : News h₀ L h news := fun p hp => N p (.tail _ (.tail _ (.tail _ (.tail _ (.tail _ hp)))))
theorem search_call {h₀ h : Heap} {L : Addr} {a b c d e : Addr × Obj} {l news own : List (Addr × Obj)} (N : News h₀ L h (a :: b :: c :: d :: e :: (l ++ (news ++ own)))) : News h₀ L h (l ++ news) := fun p hp => N p (.tail _ (.tail _ (.tail _ (.tail _ (.tail _ (by
  rcases List.mem_append.mp hp with h | h
  · exact List.mem_append_left _ h
  · exact List.mem_append_right _ (List.mem_append_left _ h)))))))

theorem search_led {h₀ h : Heap} {L : Addr} {a b c d e : Addr × Obj} {led news : List (Addr × Obj)} (N : News h₀ L h (led ++ news)) (hs : ∀ p ∈ [a, b, c, d, e], p ∈ news) : News h₀ L h (a :: b :: c :: d :: e :: (led ++ news)) :=
  news_sub N fun p hp => by
    simp only [List.forall_mem_cons, List.not_mem_nil, false_implies, implies_true, and_true] at hs
    obtain ⟨h1, h2, h3, h4, h5⟩ := hs
    simp only [List.mem_cons] at hp
    rcases hp with h | h | h | h | h | h
    · exact List.mem_append_right _ (h ▸ h1)
    · exact List.mem_append_right _ (h ▸ h2)
    · exact List.mem_append_right _ (h ▸ h3)
    · exact List.mem_append_right _ (h ▸ h4)
    · exact List.mem_append_right _ (h ▸ h5)
    · exact h

theorem dots_finish {h₀ h : Heap} {L : Addr} {a b c d e f g : Addr × Obj} {news : List (Addr × Obj)} (N : News h₀ L h (a :: b :: c :: d :: e :: f :: g :: news)) : News h₀ L h ([a, b, d, e, f] ++ g :: news) :=
  news_sub N fun p hp => by
    simp only [List.cons_append, List.nil_append, List.mem_cons] at hp ⊢
    rcases hp with h | h | h | h | h | h | h <;> simp only [h, true_or, or_true]

section
local macro_rules | `(tactic| k_all) => `(tactic| (intro p' hp'; have q' := ltOf (kst_ltOf (And.right (by assumption))) hp'; refine neN ?_; (try dsimp only); omega))
local macro_rules | `(tactic| k_all) => `(tactic| assumption)
local macro_rules | `(tactic| walk_at "setAttr") => `(tactic| (k_here; k_dflt (refine' fnset_N ?F ?N ?U ?n ?_; (case F => k_asm); (case N => k_asm); (case U => k_updF); (case n => first | exact fn_no_span | exact fn_no_search); k_whole); intro d' od' h' tk' F' N' hn' l1; (try dsimp only at N'); (try k_lt l1)))

set_option maxRecDepth 100000 in
set_option maxHeartbeats 8000000 in
theorem dots_spec {w : World} {A₀ : Around} {base h₀ : Heap} {outer : List Env} {L : Addr} {m mg mb : Str → Option Value} {news : List (Addr × Obj)} {s : Shared} {env : Env} {loose : List Str} {mean : ExcName → Option Value} {Q : Value → Shared → Prop} {E : Value → Shared → Prop} 
    (cx : Cx w base A₀ outer h₀ L env loose mean mg mb) (F : Fr h₀ L s.heap m) (N : News h₀ L s.heap ((44, tabObj #[]) :: news))
    (C : CodeHd base 48 44) (hne : ∀ p ∈ news, p.1 ≠ 44)
    (h : ∀ pr led ps h' tk, ProgOK w base led pr → Fr h₀ L h' m → News h₀ L h' (led ++ (44, tabObj ps) :: news) → Q (.ref pr) { s with heap := h', toks := tk }) :
    wpAny (model rw_mj0064_01.row.prog w) (AA 440 90 env outer) (call (.ref 49) [] []) Q E s := by
  obtain ⟨B, X, T, hf, hke⟩ := cx
  w_on
  revert X
  k_fill
  intro X
  refine wpAny_call ?_
  refine' code_def B F X N T rfl hf hke ?k6 ?k7 ?k8 ?k9 ?kB ?_ ?c2 ?c3 ?c4 ?c5
  (case k6 => k_is); (case k7 => k_is); (case k8 => exact Nat.le_of_ble_eq_true rfl); (case k9 => exact BindsTo.of_eq rfl)
  (case c5 => decide); (case kB => exact locs rfl); (case c2 => exact rfl); (case c3 => exact rfl); (case c4 => exact rfl)
  intro g' L' h' FG' F' N' B' X' T'
  try dsimp only
  try k_fold
  w_strict (repeat' ((fail_if_success (with_reducible show InvEndN _ _ _ _ _ _ _)); (fail_if_success (with_reducible show KswEnd _ _ _ _ _ _ _ _ _ _ _ _)); (fail_if_success (with_reducible show Q _ _)); (first | (k_unfold; (try dsimp only)) | (k_end; wrow_close) | ((first | walk1 | (dsimp only; walk1))) | (leave1; walk_say "STEP leave1"; try dsimp only) | fail "no step")))
  all_goals (try k_data)
  refine' h _ _ _ _ _ ?prog ?F (dots_finish ?N)
  case F => assumption
  case N => assumption
  case prog =>
    refine ⟨?ne, _, _, _, _, _, _, .head _, .tail _ (.head _), .tail _ (.tail _ (.head _)), ⟨_, _, _, _, rfl⟩, by assumption, ?search⟩
    case ne =>
      simp only [List.forall_mem_cons, List.not_mem_nil, false_implies, implies_true, and_true]
      refine ⟨neN ?_, neN ?_, neN ?_, neN ?_, neN ?_⟩ <;> omega
    case search =>
      clear h hne B F N T hf hke FG' B' X' T' X
      intro A₁ h₁ outer₁ L₁ m₁ mg₁ mb₁ news₁ s₁ env₁ loose₁ mean₁ Q₁ E₁ x t args j ts cx₁ F₁ N₁ hs₁ hT₁ C₁ hne₁ hx hargs hj hnone hsome
      obtain ⟨B₁, X₁, T₁, hf₁, hke₁⟩ := cx₁
      have N₂ := search_led N₁ hs₁
      refine wpAny_call ?_
      rcases hargs with ⟨rfl, hj0⟩ | ⟨t2, rfl⟩
      all_goals (refine' kdv_code B₁ F₁ X₁ N₂ T₁ rfl hf₁ hke₁ ?k6 ?k7 ?k8 ?k9 ?kB ?_ ?c2 ?c3 ?c4 ?c5; (case k6 => exact .tail _ (.tail _ (.head _))); (case k7 => exact codeRec_news N₂ (.tail _ (.tail _ (.tail _ (.head _)))) (by assumption) (by assumption)); (case k8 => exact Nat.le_of_ble_eq_true rfl); (case k9 => first | exact BindsTo.of_eq rfl | exact kdv_binds N₂ (.tail _ (.tail _ (.tail _ (.tail _ (.head _))))) rfl rfl rfl); (case c5 => decide); (case kB => exact locs rfl); (case c2 => exact rfl); (case c3 => exact rfl); (case c4 => exact rfl); (intro g₃ L₃ h₃ FG₃ F₃ N₃ B₃ X₃ T₃); (try dsimp only); (try k_fold))
      all_goals w_strict (repeat' ((fail_if_success (with_reducible show InvEndN _ _ _ _ _ _ _)); (fail_if_success (with_reducible show KswEnd _ _ _ _ _ _ _ _ _ _ _ _)); (fail_if_success (with_reducible show Q _ _)); (first | (k_unfold; (try dsimp only)) | (k_end; wrow_close) | ((fail_if_success (with_reducible show wpAny _ _ (pyIter _) _ _ _)); (first | walk1 | (dsimp only; walk1))) | ((fail_if_success (with_reducible show wpAny _ _ (pyIter _) _ _ _)); leave1; walk_say "STEP leave1"; try dsimp only) | fail "no step")))
      all_goals (try k_data)
      all_goals
       (refine' kst_range (σ := Unit) (fun _ => _) (fun _ => []) (fun _ => True) [] (fun pre _ => ∀ v : Nat, v < pre.length → x.cps.toList[j + v]? ≠ some 46) () rfl ?hr ?hsm (rangeSize_nat _ _) ?F ?N trivial (List.forall_mem_nil _) ?hp ?turn ?done
        case hr => assumption
        case hsm => exact small_one (by omega) (by omega) (by omega) (by omega)
        case F => assumption
        case N => assumption
        case hp => exact fun v hv => absurd hv (Nat.not_lt_zero _)
        case done =>
          intro _ u h₄ tk₄ _ hP F₄ N₄
          have hP' : ∀ v, j ≤ v → v < x.length → x.cps.toList[v]? ≠ some 46 := fun v h1 h2 => by
            have := hP (v - j) (by rw [rangeKs_length]; omega)
            rwa [show j + (v - j) = v by omega] at this
          clear hP
          try dsimp only
          w_strict (repeat' ((fail_if_success (with_reducible show InvEndN _ _ _ _ _ _ _)); (fail_if_success (with_reducible show KswEnd _ _ _ _ _ _ _ _ _ _ _ _)); (fail_if_success (with_reducible show Q _ _)); (first | (k_unfold; (try dsimp only)) | (k_end; wrow_close) | ((first | walk1 | (dsimp only; walk1))) | (leave1; walk_say "STEP leave1"; try dsimp only) | fail "no step")))
          all_goals (try k_data)
          exact hnone hP' _ _ (by assumption) (search_back (by assumption))
        case turn =>
          intro _ pre k tt u h₄ tk₄ own hk hpre hoff _ hP F₄ N₄
          have hk0 : 0 ≤ k := by omega
          have hk1 : k < (x.length : Int) := by omega
          simp only [List.cons_append, List.append_assoc] at N₄
          try k_fold
          w_strict (repeat' ((fail_if_success (with_reducible show InvEndN _ _ _ _ _ _ _)); (fail_if_success (with_reducible show KswEnd _ _ _ _ _ _ _ _ _ _ _ _)); (fail_if_success (with_reducible show Q _ _)); (first | (k_unfold; (try dsimp only)) | (k_end; wrow_close) | ((fail_if_success (with_reducible show wpAny _ _ (call (Value.ref 42) _ _) _ _ _)); (first | walk1 | (dsimp only; walk1))) | ((fail_if_success (with_reducible show wpAny _ _ (call (Value.ref 42) _ _) _ _ _)); leave1; walk_say "STEP leave1"; try dsimp only) | fail "no step")))
          all_goals (try k_data)
          · rename_i hdot
            refine wpAny_AA (hit_spec ⟨by assumption, by assumption, by assumption, rfl, rfl⟩ (by assumption) (search_call (by assumption)) hT₁ C₁ hne₁ ?_) rfl rfl rfl (Nat.le_of_ble_eq_true rfl) (Nat.le_of_ble_eq_true rfl)
            intro xh led' ts' h₅ tk₅ hH hT' hG F₅ N₅
            clear N₄
            try dsimp only
            w_strict (repeat' ((fail_if_success (with_reducible show InvEndN _ _ _ _ _ _ _)); (fail_if_success (with_reducible show KswEnd _ _ _ _ _ _ _ _ _ _ _ _)); (fail_if_success (with_reducible show Q _ _)); (first | (k_unfold; (try dsimp only)) | (k_end; wrow_close) | ((first | walk1 | (dsimp only; walk1))) | (leave1; walk_say "STEP leave1"; try dsimp only) | fail "no step")))
            all_goals (try k_data)
            have e1 : k = ((k.toNat : Nat) : Int) := by omega
            rw [e1] at hH
            refine hsome k.toNat xh led' ts' _ _ (by omega) (by omega) (item_dot _ dot_lit hk0 hk1 hdot) (fun v h1 h2 => ?_) hH hT' hG (by assumption) (by assumption)
            have := hP (v - j) (by omega)
            rwa [show j + (v - j) = v by omega] at this
          · rename_i hdot
            refine kst_end () (by assumption) (by assumption) ?_ ?_ rfl trivial (List.forall_mem_nil _) (fun z h1 _ _ => by simp [h1, kstB]) ?_
            · intro p hp
              simp only [List.cons_append, List.append_assoc, List.mem_cons, List.mem_append] at hp ⊢
              rcases hp with h | h | h | h | h | h | h <;> simp only [h, true_or, or_true]
            · intro p hp
              simp only [List.cons_append, List.append_assoc, List.mem_cons, List.mem_append]
              simp only [hp, true_or, or_true]
            · intro v hv
              rw [List.length_append] at hv
              rcases Nat.lt_or_ge v pre.length with h | h
              · exact hP v h
              · have e2 : j + v = k.toNat := by simp at hv; omega
                rw [e2]
                exact item_not _ dot_lit hk0 hk1 hdot)
end
end Mine
end
section
open PySem PySem.W PyProof.Rows
namespace Mine
open PySem.Challenge

theorem rev_out3 {h₀ h : Heap} {L : Addr} {l1 l2 l3 : List (Addr × Obj)} (N : News h₀ L h (l1 ++ (l2 ++ l3))) : News h₀ L h (l2 ++ (l1 ++ l3)) := news_sub N fun p hp => by
  simp only [List.mem_append] at hp ⊢
  rcases hp with h | h | h <;> simp only [h, true_or, or_true]
theorem rev_out1 {h₀ h : Heap} {L : Addr} {l1 l2 l3 : List (Addr × Obj)} (N : News h₀ L h (l1 ++ (l2 ++ l3))) : News h₀ L h l3 := fun p hp => N p (List.mem_append_right _ (List.mem_append_right _ hp))
theorem rev_out2 {h₀ h : Heap} {L : Addr} {l1 l2 l3 : List (Addr × Obj)} (N : News h₀ L h (l1 ++ (l2 ++ l3))) : News h₀ L h (l2 ++ l3) := fun p hp => N p (List.mem_append_right _ hp)
theorem rev_call {h₀ h : Heap} {L : Addr} {l1 l2 l3 l4 : List (Addr × Obj)} (N : News h₀ L h (l1 ++ (l2 ++ (l3 ++ l4)))) : News h₀ L h (l3 ++ (l1 ++ l4)) := news_sub N fun p hp => by
  simp only [List.mem_append] at hp ⊢
  rcases hp with h | h | h <;> simp only [h, true_or, or_true]
theorem rev_led0 {h₀ h : Heap} {L : Addr} {a : Addr × Obj} {l1 l2 : List (Addr × Obj)} (N : News h₀ L h (a :: (l1 ++ l2))) : News h₀ L h (l1 ++ ([] ++ l2)) := news_tl N
structure RevSt where
  i : Nat
  xm : Addr
  lm : List (Addr × Obj)
  fv : Value
  fl : List (Addr × Obj)
  ts : TabSt
  ti : Tok
  tj : Tok
def RevSt.led (news : List (Addr × Obj)) (c : RevSt) : List (Addr × Obj) := c.lm ++ (c.fl ++ (TL c.ts ++ news))
def RevSt.ps (c : RevSt) : List (Str × Value) := [(Str.ofString "m", .ref c.xm), (Str.ofString "found", c.fv), (Str.ofString "i", .int (c.i : Int) c.ti), (Str.ofString "j", .int ((c.i : Int) + 1) c.tj)]
/-- the last dot found so far -/
def FoundOK (w : World) (base : Heap) (cs : List Nat) (col : Int) (i : Nat) (fv : Value) (fl : List (Addr × Obj)) : Prop :=
  (fv = .none ∧ ∀ v, v < i → cs[v]? ≠ some 46) ∨ ∃ f xf, fv = .ref xf ∧ HitOK w base fl xf (f : Nat) ((f : Int) + 1) ∧ (f : Int) < col ∧ cs[f]? = some 46 ∧ ∀ v, f < v → v < i → cs[v]? ≠ some 46
def RevSt.ok (w : World) (base : Heap) (cs : List Nat) (col : Int) (ts₀ : TabSt) (news : List (Addr × Obj)) (c : RevSt) : Prop :=
  HitOK w base c.lm c.xm (c.i : Int) ((c.i : Int) + 1) ∧ TabOK c.ts ∧ Grow ts₀ c.ts news ∧ FoundOK w base cs col c.i c.fv c.fl ∧ c.i < cs.length ∧ cs[c.i]? = some 46 ∧ ∀ p ∈ c.fl, p.1 ≠ 37

set_option maxRecDepth 100000 in
set_option maxHeartbeats 8000000 in
theorem rev_spec {w : World} {A₀ : Around} {base h₀ : Heap} {outer : List Env} {L : Addr} {m mg mb : Str → Option Value} {news : List (Addr × Obj)} {s : Shared} {env : Env} {loose : List Str} {mean : ExcName → Option Value} {Q : Value → Shared → Prop} {E : Value → Shared → Prop} {x : Str} {t t2 : Tok} {pr : Addr} {col : Int} {led : List (Addr × Obj)} {ts : TabSt}
    (cx : Cx w base A₀ outer h₀ L env loose mean mg mb) (F : Fr h₀ L s.heap m) (N : News h₀ L s.heap (TL ts ++ news))
    (hP : ProgOK w base led pr) (hs : ∀ p ∈ led, p ∈ news) (hT : TabOK ts) (C : CodeHd base 41 37) (hne : ∀ p ∈ news, p.1 ≠ 37) (hx : x.length ≤ 10) (hc0 : 0 ≤ col) (hc1 : col ≤ (x.length : Int))
    (hnone : (∀ v : Nat, (v : Int) < col → x.cps.toList[v]? ≠ some 46) → ∀ ts' h' tk, TabOK ts' → Grow ts ts' news → Fr h₀ L h' m → News h₀ L h' (TL ts' ++ news) → Q .none { s with heap := h', toks := tk })
    (hsome : ∀ (k : Nat) xh led' ts' h' tk, (k : Int) < col → x.cps.toList[k]? = some 46 → (∀ v : Nat, k < v → (v : Int) < col → x.cps.toList[v]? ≠ some 46) → HitOK w base led' xh (k : Int) ((k : Int) + 1) → TabOK ts' → Grow ts ts' news →
      Fr h₀ L h' m → News h₀ L h' (led' ++ (TL ts' ++ news)) → Q (.ref xh) { s with heap := h', toks := tk }) :
    wpAny (model rw_mj0064_01.row.prog w) (AA 400 60 env outer) (call (.ref 28) [.ref pr, .str x t, .int col t2] []) Q E s := by
  obtain ⟨B, X, T, hf, hke⟩ := cx
  w_on
  revert X
  k_fill
  intro X
  refine wpAny_call ?_
  refine' code_def B F X N T rfl hf hke ?k6 ?k7 ?k8 ?k9 ?kB ?_ ?c2 ?c3 ?c4 ?c5
  (case k6 => k_is); (case k7 => k_is); (case k8 => exact Nat.le_of_ble_eq_true rfl); (case k9 => exact BindsTo.of_eq rfl)
  (case c5 => decide); (case kB => exact locs rfl); (case c2 => exact rfl); (case c3 => exact rfl); (case c4 => exact rfl)
  intro g' L' h' FG' F' N' B' X' T'
  try dsimp only
  try k_fold
  obtain ⟨hne37, d, od, fs, fd, sl, fo, hd, hpr, hfs, hfo, hns, hS⟩ := hP
  w_strict (repeat' (first | (k_unfold; (try dsimp only)) | (k_end; wrow_close) | ((fail_if_success (with_reducible show wpAny _ _ (getMethod (Value.ref _) _ _) _ _ _)); (fail_if_success (with_reducible show wpAny _ _ (callWith _ (Value.ref _) _ _ _) _ _ _)); (fail_if_success (with_reducible show wpAny _ _ (call (Value.ref _) _ _) _ _ _)); (fail_if_success (with_reducible show wpAny _ _ (truthy (Value.ref _)) _ _ _)); (fail_if_success (with_reducible show wpAny _ _ (exec (Stmt.While _ _ _ _) _) _ _ _)); (first | walk1 | (dsimp only; walk1))) | ((fail_if_success (with_reducible show wpAny _ _ (getMethod (Value.ref _) _ _) _ _ _)); (fail_if_success (with_reducible show wpAny _ _ (callWith _ (Value.ref _) _ _ _) _ _ _)); (fail_if_success (with_reducible show wpAny _ _ (call (Value.ref _) _ _) _ _ _)); (fail_if_success (with_reducible show wpAny _ _ (truthy (Value.ref _)) _ _ _)); (fail_if_success (with_reducible show wpAny _ _ (exec (Stmt.While _ _ _ _) _) _ _ _)); leave1; walk_say "STEP leave1"; try dsimp only) | fail "no step"))
  all_goals (try k_data)
  refine fnget_N (by assumption) (List.mem_append_right _ (hs _ hpr)) (List.mem_append_right _ (hs _ hd)) hns fn_no_search fun tk₁ => ?_
  try dsimp only
  w_strict (repeat' (first | (k_unfold; (try dsimp only)) | (k_end; wrow_close) | ((fail_if_success (with_reducible show wpAny _ _ (getMethod (Value.ref _) _ _) _ _ _)); (fail_if_success (with_reducible show wpAny _ _ (callWith _ (Value.ref _) _ _ _) _ _ _)); (fail_if_success (with_reducible show wpAny _ _ (call (Value.ref _) _ _) _ _ _)); (fail_if_success (with_reducible show wpAny _ _ (truthy (Value.ref _)) _ _ _)); (fail_if_success (with_reducible show wpAny _ _ (exec (Stmt.While _ _ _ _) _) _ _ _)); (first | walk1 | (dsimp only; walk1))) | ((fail_if_success (with_reducible show wpAny _ _ (getMethod (Value.ref _) _ _) _ _ _)); (fail_if_success (with_reducible show wpAny _ _ (callWith _ (Value.ref _) _ _ _) _ _ _)); (fail_if_success (with_reducible show wpAny _ _ (call (Value.ref _) _ _) _ _ _)); (fail_if_success (with_reducible show wpAny _ _ (truthy (Value.ref _)) _ _ _)); (fail_if_success (with_reducible show wpAny _ _ (exec (Stmt.While _ _ _ _) _) _ _ _)); leave1; walk_say "STEP leave1"; try dsimp only) | fail "no step"))
  all_goals (try k_data)
  refine callWith_F (hfo.at (by assumption) (List.mem_append_right _ (hs _ hfs))) ?_
  w_strict (repeat' (first | (k_unfold; (try dsimp only)) | (k_end; wrow_close) | ((fail_if_success (with_reducible show wpAny _ _ (getMethod (Value.ref _) _ _) _ _ _)); (fail_if_success (with_reducible show wpAny _ _ (callWith _ (Value.ref _) _ _ _) _ _ _)); (fail_if_success (with_reducible show wpAny _ _ (call (Value.ref _) _ _) _ _ _)); (fail_if_success (with_reducible show wpAny _ _ (truthy (Value.ref _)) _ _ _)); (fail_if_success (with_reducible show wpAny _ _ (exec (Stmt.While _ _ _ _) _) _ _ _)); (first | walk1 | (dsimp only; walk1))) | ((fail_if_success (with_reducible show wpAny _ _ (getMethod (Value.ref _) _ _) _ _ _)); (fail_if_success (with_reducible show wpAny _ _ (callWith _ (Value.ref _) _ _ _) _ _ _)); (fail_if_success (with_reducible show wpAny _ _ (call (Value.ref _) _ _) _ _ _)); (fail_if_success (with_reducible show wpAny _ _ (truthy (Value.ref _)) _ _ _)); (fail_if_success (with_reducible show wpAny _ _ (exec (Stmt.While _ _ _ _) _) _ _ _)); leave1; walk_say "STEP leave1"; try dsimp only) | fail "no step"))
  all_goals (try k_data)
  · exact hfo.at (by assumption) (List.mem_append_right _ (hs _ hfs))
  try dsimp only [List.nil_append, List.cons_append]
  refine wpAny_AA (hS _ _ _ _ _ _ _ _ _ _ _ _ _ _ x _ _ 0 ts ⟨by assumption, by assumption, by assumption, rfl, rfl⟩ (by assumption) (by assumption) hs hT C hne hx (.inl ⟨rfl, rfl⟩) (by omega) ?none ?some) rfl rfl rfl (Nat.le_of_ble_eq_true rfl) (Nat.le_of_ble_eq_true rfl)
  case none =>
    intro hno h₂ tk₂ F₂ N₂
    try dsimp only
    w_strict (repeat' (first | (k_unfold; (try dsimp only)) | (k_end; wrow_close) | ((fail_if_success (with_reducible show wpAny _ _ (getMethod (Value.ref _) _ _) _ _ _)); (fail_if_success (with_reducible show wpAny _ _ (callWith _ (Value.ref _) _ _ _) _ _ _)); (fail_if_success (with_reducible show wpAny _ _ (call (Value.ref _) _ _) _ _ _)); (fail_if_success (with_reducible show wpAny _ _ (truthy (Value.ref _)) _ _ _)); (fail_if_success (with_reducible show wpAny _ _ (exec (Stmt.While _ _ _ _) _) _ _ _)); (first | walk1 | (dsimp only; walk1))) | ((fail_if_success (with_reducible show wpAny _ _ (getMethod (Value.ref _) _ _) _ _ _)); (fail_if_success (with_reducible show wpAny _ _ (callWith _ (Value.ref _) _ _ _) _ _ _)); (fail_if_success (with_reducible show wpAny _ _ (call (Value.ref _) _ _) _ _ _)); (fail_if_success (with_reducible show wpAny _ _ (truthy (Value.ref _)) _ _ _)); (fail_if_success (with_reducible show wpAny _ _ (exec (Stmt.While _ _ _ _) _) _ _ _)); leave1; walk_say "STEP leave1"; try dsimp only) | fail "no step"))
    all_goals (try k_data)
    exact hnone (fun v hv => hno v (by omega) (by omega)) ts _ _ hT (Grow.refl _ _) (by assumption) (by assumption)
  case some =>
    intro k xh led' ts' h₂ tk₂ hk0 hk1 hdot hno hH hT' hG F₂ N₂
    try dsimp only
    w_strict (repeat' (first | (k_unfold; (try dsimp only)) | (k_end; wrow_close) | ((fail_if_success (with_reducible show wpAny _ _ (getMethod (Value.ref _) _ _) _ _ _)); (fail_if_success (with_reducible show wpAny _ _ (callWith _ (Value.ref _) _ _ _) _ _ _)); (fail_if_success (with_reducible show wpAny _ _ (call (Value.ref _) _ _) _ _ _)); (fail_if_success (with_reducible show wpAny _ _ (truthy (Value.ref _)) _ _ _)); (fail_if_success (with_reducible show wpAny _ _ (exec (Stmt.While _ _ _ _) _) _ _ _)); (first | walk1 | (dsimp only; walk1))) | ((fail_if_success (with_reducible show wpAny _ _ (getMethod (Value.ref _) _ _) _ _ _)); (fail_if_success (with_reducible show wpAny _ _ (callWith _ (Value.ref _) _ _ _) _ _ _)); (fail_if_success (with_reducible show wpAny _ _ (call (Value.ref _) _ _) _ _ _)); (fail_if_success (with_reducible show wpAny _ _ (truthy (Value.ref _)) _ _ _)); (fail_if_success (with_reducible show wpAny _ _ (exec (Stmt.While _ _ _ _) _) _ _ _)); leave1; walk_say "STEP leave1"; try dsimp only) | fail "no step"))
    all_goals (try k_data)
    have hH' := hH
    obtain ⟨n37, d1, od1, f1, fd1, sl1, fo1, m1, m2, m3, m4, m5, m6⟩ := hH
    refine fn_truthy (News.get (by assumption) (List.mem_append_left _ m2)) rfl ?_
    try dsimp only
    w_strict (repeat' (first | (k_unfold; (try dsimp only)) | (k_end; wrow_close) | ((fail_if_success (with_reducible show wpAny _ _ (getMethod (Value.ref _) _ _) _ _ _)); (fail_if_success (with_reducible show wpAny _ _ (callWith _ (Value.ref _) _ _ _) _ _ _)); (fail_if_success (with_reducible show wpAny _ _ (call (Value.ref _) _ _) _ _ _)); (fail_if_success (with_reducible show wpAny _ _ (truthy (Value.ref _)) _ _ _)); (fail_if_success (with_reducible show wpAny _ _ (exec (Stmt.While _ _ _ _) _) _ _ _)); (first | walk1 | (dsimp only; walk1))) | ((fail_if_success (with_reducible show wpAny _ _ (getMethod (Value.ref _) _ _) _ _ _)); (fail_if_success (with_reducible show wpAny _ _ (callWith _ (Value.ref _) _ _ _) _ _ _)); (fail_if_success (with_reducible show wpAny _ _ (call (Value.ref _) _ _) _ _ _)); (fail_if_success (with_reducible show wpAny _ _ (truthy (Value.ref _)) _ _ _)); (fail_if_success (with_reducible show wpAny _ _ (exec (Stmt.While _ _ _ _) _) _ _ _)); leave1; walk_say "STEP leave1"; try dsimp only) | fail "no step"))
    all_goals (try k_data)
    refine fnget_N (by assumption) (List.mem_append_left _ m2) (List.mem_append_left _ m1) m5 fn_no_span fun tk₃ => ?_
    try dsimp only
    refine callWith_F0 (m4.at (by assumption) (List.mem_append_left _ m3)) ?_
    try dsimp only [List.nil_append, List.cons_append]
    refine wpAny_AA (m6 _ _ _ _ _ _ _ _ _ _ _ _ _ _ ⟨by assumption, by assumption, by assumption, rfl, rfl⟩ (by assumption) (by assumption) (fun p hp => List.mem_append_left _ hp) ?_) rfl rfl rfl (Nat.le_of_ble_eq_true rfl) (Nat.le_of_ble_eq_true rfl)
    intro tt ta tb h₃ tk₄ F₃ N₃ l₃
    try dsimp only
    w_strict (repeat' (first | (k_unfold; (try dsimp only)) | (k_end; wrow_close) | ((fail_if_success (with_reducible show wpAny _ _ (getMethod (Value.ref _) _ _) _ _ _)); (fail_if_success (with_reducible show wpAny _ _ (callWith _ (Value.ref _) _ _ _) _ _ _)); (fail_if_success (with_reducible show wpAny _ _ (call (Value.ref _) _ _) _ _ _)); (fail_if_success (with_reducible show wpAny _ _ (truthy (Value.ref _)) _ _ _)); (fail_if_success (with_reducible show wpAny _ _ (exec (Stmt.While _ _ _ _) _) _ _ _)); (first | walk1 | (dsimp only; walk1))) | ((fail_if_success (with_reducible show wpAny _ _ (getMethod (Value.ref _) _ _) _ _ _)); (fail_if_success (with_reducible show wpAny _ _ (callWith _ (Value.ref _) _ _ _) _ _ _)); (fail_if_success (with_reducible show wpAny _ _ (call (Value.ref _) _ _) _ _ _)); (fail_if_success (with_reducible show wpAny _ _ (truthy (Value.ref _)) _ _ _)); (fail_if_success (with_reducible show wpAny _ _ (exec (Stmt.While _ _ _ _) _) _ _ _)); leave1; walk_say "STEP leave1"; try dsimp only) | fail "no step"))
    all_goals (try k_data)
    refine' ksw_while (σ := RevSt) (RevSt.led news) RevSt.ps (RevSt.ok w base x.cps.toList col ts news) [Str.ofString "found", Str.ofString "j", Str.ofString "m", Str.ofString "i"] (fun _ => True) (fun c => x.length - c.i) ⟨k, xh, led', .none, [], ts', ta, tb⟩ ?F ?N ?hf ?hk trivial ?turn
    case F => assumption
    case N => exact rev_led0 (by assumption)
    case hf => exact ⟨hH', hT', hG, .inl ⟨rfl, fun v hv => hno v (by omega) hv⟩, hk1, hdot, fun _ h => nomatch h⟩
    case hk => 
      simp only [RevSt.ps, List.forall_mem_cons, List.not_mem_nil, false_implies, implies_true, and_true]
      exact ⟨rfl, rfl, rfl, rfl⟩
    case turn =>
      clear hH' hT' hG hdot hno l₃ m6 m1 m2 m3 m4 m5 n37
      rintro ⟨i, xm, lm, fv, fl, ts₁, ti, tj⟩ u h₅ tk₅ hok _ F₅ N₅
      obtain ⟨hH, hT₁, hG₁, hFo, hil, hid, hfl⟩ := hok
      dsimp only [RevSt.led, RevSt.ps] at F₅ N₅ hH hT₁ hG₁ hFo hil hid hfl
      have hil' : (i : Int) < 10 := by simp only [Array.length_toList] at hil; have : x.cps.size = x.length := rfl; omega
      w_strict (repeat' (first | (k_unfold; (try dsimp only)) | (k_end; wrow_close) | ((fail_if_success (with_reducible show wpAny _ _ (getMethod (Value.ref _) _ _) _ _ _)); (fail_if_success (with_reducible show wpAny _ _ (callWith _ (Value.ref _) _ _ _) _ _ _)); (fail_if_success (with_reducible show wpAny _ _ (call (Value.ref _) _ _) _ _ _)); (fail_if_success (with_reducible show wpAny _ _ (truthy (Value.ref _)) _ _ _)); (fail_if_success (with_reducible show wpAny _ _ (exec (Stmt.While _ _ _ _) _) _ _ _)); (first | walk1 | (dsimp only; walk1))) | ((fail_if_success (with_reducible show wpAny _ _ (getMethod (Value.ref _) _ _) _ _ _)); (fail_if_success (with_reducible show wpAny _ _ (callWith _ (Value.ref _) _ _ _) _ _ _)); (fail_if_success (with_reducible show wpAny _ _ (call (Value.ref _) _ _) _ _ _)); (fail_if_success (with_reducible show wpAny _ _ (truthy (Value.ref _)) _ _ _)); (fail_if_success (with_reducible show wpAny _ _ (exec (Stmt.While _ _ _ _) _) _ _ _)); leave1; walk_say "STEP leave1"; try dsimp only) | fail "no step"))
      all_goals (try k_data)
      · exfalso; omega
      · rename_i hlt hne2
        have pm : ∀ {p : Addr × Obj}, p ∈ led → p ∈ lm ++ (fl ++ (TL ts₁ ++ news)) := fun hp => List.mem_append_right _ (List.mem_append_right _ (List.mem_append_right _ (hs _ hp)))
        refine fnget_N (by assumption) (pm hpr) (pm hd) hns fn_no_search fun tk₆ => ?_
        try dsimp only
        w_strict (repeat' (first | (k_unfold; (try dsimp only)) | (k_end; wrow_close) | ((fail_if_success (with_reducible show wpAny _ _ (getMethod (Value.ref _) _ _) _ _ _)); (fail_if_success (with_reducible show wpAny _ _ (callWith _ (Value.ref _) _ _ _) _ _ _)); (fail_if_success (with_reducible show wpAny _ _ (call (Value.ref _) _ _) _ _ _)); (fail_if_success (with_reducible show wpAny _ _ (truthy (Value.ref _)) _ _ _)); (fail_if_success (with_reducible show wpAny _ _ (exec (Stmt.While _ _ _ _) _) _ _ _)); (first | walk1 | (dsimp only; walk1))) | ((fail_if_success (with_reducible show wpAny _ _ (getMethod (Value.ref _) _ _) _ _ _)); (fail_if_success (with_reducible show wpAny _ _ (callWith _ (Value.ref _) _ _ _) _ _ _)); (fail_if_success (with_reducible show wpAny _ _ (call (Value.ref _) _ _) _ _ _)); (fail_if_success (with_reducible show wpAny _ _ (truthy (Value.ref _)) _ _ _)); (fail_if_success (with_reducible show wpAny _ _ (exec (Stmt.While _ _ _ _) _) _ _ _)); leave1; walk_say "STEP leave1"; try dsimp only) | fail "no step"))
        all_goals (try k_data)
        refine callWith_F (hfo.at (by assumption) (pm hfs)) ?_
        w_strict (repeat' (first | (k_unfold; (try dsimp only)) | (k_end; wrow_close) | ((fail_if_success (with_reducible show wpAny _ _ (getMethod (Value.ref _) _ _) _ _ _)); (fail_if_success (with_reducible show wpAny _ _ (callWith _ (Value.ref _) _ _ _) _ _ _)); (fail_if_success (with_reducible show wpAny _ _ (call (Value.ref _) _ _) _ _ _)); (fail_if_success (with_reducible show wpAny _ _ (truthy (Value.ref _)) _ _ _)); (fail_if_success (with_reducible show wpAny _ _ (exec (Stmt.While _ _ _ _) _) _ _ _)); (first | walk1 | (dsimp only; walk1))) | ((fail_if_success (with_reducible show wpAny _ _ (getMethod (Value.ref _) _ _) _ _ _)); (fail_if_success (with_reducible show wpAny _ _ (callWith _ (Value.ref _) _ _ _) _ _ _)); (fail_if_success (with_reducible show wpAny _ _ (call (Value.ref _) _ _) _ _ _)); (fail_if_success (with_reducible show wpAny _ _ (truthy (Value.ref _)) _ _ _)); (fail_if_success (with_reducible show wpAny _ _ (exec (Stmt.While _ _ _ _) _) _ _ _)); leave1; walk_say "STEP leave1"; try dsimp only) | fail "no step"))
        all_goals (try k_data)
        · exact hfo.at (by assumption) (pm hfs)
        try dsimp only [List.nil_append, List.cons_append]
        have hH₁ := hH
        obtain ⟨n37, _⟩ := hH
        refine wpAny_AA (hS _ _ _ _ _ _ _ (lm ++ news) _ _ _ _ _ _ x _ _ (i + 1) ts₁ ⟨by assumption, by assumption, by assumption, rfl, rfl⟩ (by assumption) (rev_call (by assumption)) (fun p hp => List.mem_append_right _ (hs p hp)) hT₁ C (fun p hp => (List.mem_append.mp hp).elim (n37 p) (hne p)) hx (.inr ⟨_, rfl⟩) (by omega) ?none ?some) rfl rfl rfl (Nat.le_of_ble_eq_true rfl) (Nat.le_of_ble_eq_true rfl)
        case none =>
          intro hno₂ h₆ tk₇ F₆ N₆
          try dsimp only
          w_strict (repeat' (first | (k_unfold; (try dsimp only)) | (k_end; wrow_close) | ((fail_if_success (with_reducible show wpAny _ _ (getMethod (Value.ref _) _ _) _ _ _)); (fail_if_success (with_reducible show wpAny _ _ (callWith _ (Value.ref _) _ _ _) _ _ _)); (fail_if_success (with_reducible show wpAny _ _ (call (Value.ref _) _ _) _ _ _)); (fail_if_success (with_reducible show wpAny _ _ (truthy (Value.ref _)) _ _ _)); (fail_if_success (with_reducible show wpAny _ _ (exec (Stmt.While _ _ _ _) _) _ _ _)); (first | walk1 | (dsimp only; walk1))) | ((fail_if_success (with_reducible show wpAny _ _ (getMethod (Value.ref _) _ _) _ _ _)); (fail_if_success (with_reducible show wpAny _ _ (callWith _ (Value.ref _) _ _ _) _ _ _)); (fail_if_success (with_reducible show wpAny _ _ (call (Value.ref _) _ _) _ _ _)); (fail_if_success (with_reducible show wpAny _ _ (truthy (Value.ref _)) _ _ _)); (fail_if_success (with_reducible show wpAny _ _ (exec (Stmt.While _ _ _ _) _) _ _ _)); leave1; walk_say "STEP leave1"; try dsimp only) | fail "no step"))
          all_goals (try k_data)
          refine hsome i xm lm ts₁ _ _ (by omega) hid (fun v h1 h2 => hno₂ v (by omega) (by omega)) hH₁ hT₁ hG₁ (by assumption) (rev_out3 (by assumption))
        case some =>
          intro k₂ xh₂ led₂ ts₂ h₆ tk₇ hk2 hk3 hdot₂ hno₂ hH₂ hT₂ hG₂ F₆ N₆
          try dsimp only
          w_strict (repeat' (first | (k_unfold; (try dsimp only)) | (k_end; wrow_close) | ((fail_if_success (with_reducible show wpAny _ _ (getMethod (Value.ref _) _ _) _ _ _)); (fail_if_success (with_reducible show wpAny _ _ (callWith _ (Value.ref _) _ _ _) _ _ _)); (fail_if_success (with_reducible show wpAny _ _ (call (Value.ref _) _ _) _ _ _)); (fail_if_success (with_reducible show wpAny _ _ (truthy (Value.ref _)) _ _ _)); (fail_if_success (with_reducible show wpAny _ _ (exec (Stmt.While _ _ _ _) _) _ _ _)); (first | walk1 | (dsimp only; walk1))) | ((fail_if_success (with_reducible show wpAny _ _ (getMethod (Value.ref _) _ _) _ _ _)); (fail_if_success (with_reducible show wpAny _ _ (callWith _ (Value.ref _) _ _ _) _ _ _)); (fail_if_success (with_reducible show wpAny _ _ (call (Value.ref _) _ _) _ _ _)); (fail_if_success (with_reducible show wpAny _ _ (truthy (Value.ref _)) _ _ _)); (fail_if_success (with_reducible show wpAny _ _ (exec (Stmt.While _ _ _ _) _) _ _ _)); leave1; walk_say "STEP leave1"; try dsimp only) | fail "no step"))
          all_goals (try k_data)
          have hH' := hH₂
          obtain ⟨n37', d1, od1, f1, fd1, sl1, fo1, m1, m2, m3, m4, m5, m6⟩ := hH₂
          refine fn_truthy (News.get (by assumption) (List.mem_append_left _ m2)) rfl ?_
          try dsimp only
          w_strict (repeat' (first | (k_unfold; (try dsimp only)) | (k_end; wrow_close) | ((fail_if_success (with_reducible show wpAny _ _ (getMethod (Value.ref _) _ _) _ _ _)); (fail_if_success (with_reducible show wpAny _ _ (callWith _ (Value.ref _) _ _ _) _ _ _)); (fail_if_success (with_reducible show wpAny _ _ (call (Value.ref _) _ _) _ _ _)); (fail_if_success (with_reducible show wpAny _ _ (truthy (Value.ref _)) _ _ _)); (fail_if_success (with_reducible show wpAny _ _ (exec (Stmt.While _ _ _ _) _) _ _ _)); (first | walk1 | (dsimp only; walk1))) | ((fail_if_success (with_reducible show wpAny _ _ (getMethod (Value.ref _) _ _) _ _ _)); (fail_if_success (with_reducible show wpAny _ _ (callWith _ (Value.ref _) _ _ _) _ _ _)); (fail_if_success (with_reducible show wpAny _ _ (call (Value.ref _) _ _) _ _ _)); (fail_if_success (with_reducible show wpAny _ _ (truthy (Value.ref _)) _ _ _)); (fail_if_success (with_reducible show wpAny _ _ (exec (Stmt.While _ _ _ _) _) _ _ _)); leave1; walk_say "STEP leave1"; try dsimp only) | fail "no step"))
          all_goals (try k_data)
          refine fnget_N (by assumption) (List.mem_append_left _ m2) (List.mem_append_left _ m1) m5 fn_no_span fun tk₃ => ?_
          try dsimp only
          refine callWith_F0 (m4.at (by assumption) (List.mem_append_left _ m3)) ?_
          try dsimp only [List.nil_append, List.cons_append]
          refine wpAny_AA (m6 _ _ _ _ _ _ _ _ _ _ _ _ _ _ ⟨by assumption, by assumption, by assumption, rfl, rfl⟩ (by assumption) (by assumption) (fun p hp => List.mem_append_left _ hp) ?_) rfl rfl rfl (Nat.le_of_ble_eq_true rfl) (Nat.le_of_ble_eq_true rfl)
          intro tt ta' tb' h₇ tk₈ F₇ N₇ l₇
          try dsimp only
          w_strict (repeat' (first | (k_unfold; (try dsimp only)) | (k_end; wrow_close) | ((fail_if_success (with_reducible show wpAny _ _ (getMethod (Value.ref _) _ _) _ _ _)); (fail_if_success (with_reducible show wpAny _ _ (callWith _ (Value.ref _) _ _ _) _ _ _)); (fail_if_success (with_reducible show wpAny _ _ (call (Value.ref _) _ _) _ _ _)); (fail_if_success (with_reducible show wpAny _ _ (truthy (Value.ref _)) _ _ _)); (fail_if_success (with_reducible show wpAny _ _ (exec (Stmt.While _ _ _ _) _) _ _ _)); (first | walk1 | (dsimp only; walk1))) | ((fail_if_success (with_reducible show wpAny _ _ (getMethod (Value.ref _) _ _) _ _ _)); (fail_if_success (with_reducible show wpAny _ _ (callWith _ (Value.ref _) _ _ _) _ _ _)); (fail_if_success (with_reducible show wpAny _ _ (call (Value.ref _) _ _) _ _ _)); (fail_if_success (with_reducible show wpAny _ _ (truthy (Value.ref _)) _ _ _)); (fail_if_success (with_reducible show wpAny _ _ (exec (Stmt.While _ _ _ _) _) _ _ _)); leave1; walk_say "STEP leave1"; try dsimp only) | fail "no step"))
          all_goals (try k_data)
          refine ksw_end ⟨k₂, xh₂, led₂, .ref xm, lm, ts₂, ta', tb'⟩ (by assumption) (by assumption) ?_ ⟨hH', hT₂, hG₁.trans (hG₂.sub fun p hp => List.mem_append_right _ hp), .inr ⟨i, xm, rfl, hH₁, by omega, hid, fun v h1 h2 => hno₂ v (by omega) (by omega)⟩, hk3, hdot₂, n37⟩ ?_ ?_ trivial ?_
          · intro p hp
            simp only [RevSt.led, List.mem_append, List.mem_cons] at hp ⊢
            rcases hp with h | h | h | h <;> simp only [h, true_or, or_true]
          · simp only [RevSt.ps, List.forall_mem_cons, List.not_mem_nil, false_implies, implies_true, and_true]
            exact ⟨rfl, rfl, rfl, rfl⟩
          · intro z h2 h3
            simp only [RevSt.ps, List.forall_mem_cons, List.not_mem_nil, false_implies, implies_true, and_true, ne_eq] at h2
            obtain ⟨z1, z2, z3, z4⟩ := h2
            simp only [kstB, if_neg z1, if_neg z2, if_neg z3, if_neg z4, h3, Bool.false_eq_true, if_false]
          · show x.length - k₂ < x.length - i
            omega
      · rename_i hge
        rcases hFo with ⟨rfl, hno₂⟩ | ⟨f, xf, rfl, hHf, hf1, hf2, hf3⟩
        · exact hnone (fun v hv => hno₂ v (by omega)) ts₁ _ _ hT₁ hG₁ (by assumption) (rev_out1 (by assumption))
        · exact hsome f xf fl ts₁ _ _ hf1 hf2 (fun v h1 h2 => hf3 v h1 (by omega)) hHf hT₁ hG₁ (by assumption) (rev_out2 (by assumption))
end Mine
end
section
open PySem PySem.W PyProof.Rows
namespace Mine
open PySem.Challenge

theorem part_mem {a : Addr × Obj} {news own : List (Addr × Obj)} : ∀ p ∈ a :: news, p ∈ a :: (news ++ own) := fun p hp => by
  rcases List.mem_cons.mp hp with rfl | h
  · exact .head _
  · exact .tail _ (List.mem_append_left _ h)
theorem part_own {a : Addr × Obj} {news own : List (Addr × Obj)} : ∀ p ∈ own, p ∈ a :: (news ++ own) := fun p hp => .tail _ (List.mem_append_right _ hp)
structure PartSt where
  vs : List Value
  n : Nat
section
local macro_rules | `(tactic| k_all) => `(tactic| assumption)

set_option maxRecDepth 100000 in
set_option maxHeartbeats 8000000 in
theorem parts_spec {w : World} {A₀ : Around} {base h₀ : Heap} {outer : List Env} {L : Addr} {m mg mb : Str → Option Value} {news : List (Addr × Obj)} {s : Shared} {env : Env} {loose : List Str} {mean : ExcName → Option Value} {Q : Value → Shared → Prop} {E : Value → Shared → Prop} {x : Str} {t : Tok}
    (cx : Cx w base A₀ outer h₀ L env loose mean mg mb) (F : Fr h₀ L s.heap m) (N : News h₀ L s.heap news)
    (hx : x.length ≤ 10)
    (h : ∀ l vs n h' tk, StrsAre vs ((splitD x.cps.toList).map mkS) → Fr h₀ L h' m → News h₀ L h' ((l, listOf vs.toArray n) :: news) → (∀ p ∈ news, p.1 < l) → Q (.ref l) { s with heap := h', toks := tk }) :
    wpAny (model rw_mj0064_01.row.prog w) (AA 400 60 env outer) (call (.ref 63) [.str x t] []) Q E s := by
  obtain ⟨B, X, T, hf, hke⟩ := cx
  w_on
  revert X
  k_fill
  intro X
  refine wpAny_call ?_
  refine' code_def B F X N T rfl hf hke ?k6 ?k7 ?k8 ?k9 ?kB ?_ ?c2 ?c3 ?c4 ?c5
  (case k6 => k_is); (case k7 => k_is); (case k8 => exact Nat.le_of_ble_eq_true rfl); (case k9 => exact BindsTo.of_eq rfl)
  (case c5 => decide); (case kB => exact locs rfl); (case c2 => exact rfl); (case c3 => exact rfl); (case c4 => exact rfl)
  intro g' L' h' FG' F' N' B' X' T'
  try dsimp only
  try k_fold
  w_strict (repeat' (first | (k_unfold; (try dsimp only)) | (k_end; wrow_close) | ((fail_if_success (with_reducible show wpAny _ _ (pyIter _) _ _ _)); (fail_if_success (with_reducible show wpAny _ _ (exec (Stmt.For _ _ _ _ _) _) _ _ _)); (fail_if_success (with_reducible show wpAny _ _ (getItem (Value.ref _) _) _ _ _)); (fail_if_success (with_reducible show wpAny _ _ (setItem (Value.ref _) _ _) _ _ _)); (fail_if_success (with_reducible show wpAny _ _ (call (Value.builtin "list.append") _ _) _ _ _)); (first | walk1 | (dsimp only; walk1))) | ((fail_if_success (with_reducible show wpAny _ _ (pyIter _) _ _ _)); (fail_if_success (with_reducible show wpAny _ _ (exec (Stmt.For _ _ _ _ _) _) _ _ _)); (fail_if_success (with_reducible show wpAny _ _ (getItem (Value.ref _) _) _ _ _)); (fail_if_success (with_reducible show wpAny _ _ (setItem (Value.ref _) _ _) _ _ _)); (fail_if_success (with_reducible show wpAny _ _ (call (Value.builtin "list.append") _ _) _ _ _)); leave1; walk_say "STEP leave1"; try dsimp only) | fail "no step"))
  all_goals (try k_data)
  refine For_invVF (by assumption) rfl rfl ?_
  w_strict (repeat' (first | (k_unfold; (try dsimp only)) | (k_end; wrow_close) | ((fail_if_success (with_reducible show wpAny _ _ (pyIter _) _ _ _)); (fail_if_success (with_reducible show wpAny _ _ (exec (Stmt.For _ _ _ _ _) _) _ _ _)); (fail_if_success (with_reducible show wpAny _ _ (getItem (Value.ref _) _) _ _ _)); (fail_if_success (with_reducible show wpAny _ _ (setItem (Value.ref _) _ _) _ _ _)); (fail_if_success (with_reducible show wpAny _ _ (call (Value.builtin "list.append") _ _) _ _ _)); (first | walk1 | (dsimp only; walk1))) | ((fail_if_success (with_reducible show wpAny _ _ (pyIter _) _ _ _)); (fail_if_success (with_reducible show wpAny _ _ (exec (Stmt.For _ _ _ _ _) _) _ _ _)); (fail_if_success (with_reducible show wpAny _ _ (getItem (Value.ref _) _) _ _ _)); (fail_if_success (with_reducible show wpAny _ _ (setItem (Value.ref _) _ _) _ _ _)); (fail_if_success (with_reducible show wpAny _ _ (call (Value.builtin "list.append") _ _) _ _ _)); leave1; walk_say "STEP leave1"; try dsimp only) | fail "no step"))
  all_goals (try k_data)
  have hlt := ‹∀ p ∈ news, p.1 < _›
  have hne := fun p hp => Nat.ne_of_lt (hlt p hp)
  refine' KStt.kst_text (σ := PartSt) (fun c => (_, listOf c.vs.toArray c.n) :: news) (fun _ => []) (fun _ => True) [] (fun pre c => StrsAre c.vs ((splitD (pre.map Int.toNat)).map mkS) ∧ pre.length ≤ 10) ⟨[_], _⟩ rfl ?F ?N trivial (List.forall_mem_nil _) ?hp ?turn ?done
  case F => assumption
  case N => assumption
  case hp => exact ⟨.cons _ _ .nil, by simp⟩
  case done =>
    rintro ⟨vs, n⟩ u h₃ tk₃ _ ⟨hP, _⟩ F₃ N₃
    dsimp only at hP N₃
    w_strict (repeat' (first | (k_unfold; (try dsimp only)) | (k_end; wrow_close) | ((fail_if_success (with_reducible show wpAny _ _ (pyIter _) _ _ _)); (fail_if_success (with_reducible show wpAny _ _ (exec (Stmt.For _ _ _ _ _) _) _ _ _)); (fail_if_success (with_reducible show wpAny _ _ (getItem (Value.ref _) _) _ _ _)); (fail_if_success (with_reducible show wpAny _ _ (setItem (Value.ref _) _ _) _ _ _)); (fail_if_success (with_reducible show wpAny _ _ (call (Value.builtin "list.append") _ _) _ _ _)); (first | walk1 | (dsimp only; walk1))) | ((fail_if_success (with_reducible show wpAny _ _ (pyIter _) _ _ _)); (fail_if_success (with_reducible show wpAny _ _ (exec (Stmt.For _ _ _ _ _) _) _ _ _)); (fail_if_success (with_reducible show wpAny _ _ (getItem (Value.ref _) _) _ _ _)); (fail_if_success (with_reducible show wpAny _ _ (setItem (Value.ref _) _ _) _ _ _)); (fail_if_success (with_reducible show wpAny _ _ (call (Value.builtin "list.append") _ _) _ _ _)); leave1; walk_say "STEP leave1"; try dsimp only) | fail "no step"))
    all_goals (try k_data)
    refine h _ vs n _ _ ?_ (by assumption) (by assumption) (by assumption)
    have e : (KStt.codes x).map Int.toNat = x.cps.toList := by unfold KStt.codes; rw [List.map_map]; exact (List.map_congr_left (fun a _ => by simp)).trans (List.map_id _)
    rw [e] at hP
    exact hP
  case turn =>
    rintro ⟨vs, n⟩ pre post c tt u h₃ tk₃ own hcs hoff _ ⟨hP, hpre⟩ F₃ N₃
    dsimp only at hP N₃
    have hne2 : ∀ p ∈ news ++ own, p.1 ≠ _ := fun p hp => (List.mem_append.mp hp).elim (hne p) fun hp => hoff p hp _ (.head _)
    have hlen : pre.length + 1 ≤ 10 := by
      have := congrArg List.length hcs
      rw [KStt.codes_length] at this
      simp at this
      omega
    obtain ⟨vs', y, ty, rfl, hy, hstep⟩ := part_step hP
    rw [List.length_map] at hy
    have hyl : (mkS y).length ≤ 10 := by show y.toArray.size ≤ 10; simp; omega
    have hcnt : (vs' ++ [Value.str (mkS y) ty]).length ≤ 11 := by
      rw [strs_len hP, List.length_map]
      have := splitD_count (pre.map Int.toNat)
      rw [List.length_map] at this
      omega
    have hmap : (pre ++ [(c : Int)]).map Int.toNat = pre.map Int.toNat ++ [c] := by simp
    simp only [List.cons_append] at N₃
    try k_fold
    w_strict (repeat' (first | (k_unfold; (try dsimp only)) | (k_end; wrow_close) | ((fail_if_success (with_reducible show wpAny _ _ (pyIter _) _ _ _)); (fail_if_success (with_reducible show wpAny _ _ (exec (Stmt.For _ _ _ _ _) _) _ _ _)); (fail_if_success (with_reducible show wpAny _ _ (getItem (Value.ref _) _) _ _ _)); (fail_if_success (with_reducible show wpAny _ _ (setItem (Value.ref _) _ _) _ _ _)); (fail_if_success (with_reducible show wpAny _ _ (call (Value.builtin "list.append") _ _) _ _ _)); (first | walk1 | (dsimp only; walk1))) | ((fail_if_success (with_reducible show wpAny _ _ (pyIter _) _ _ _)); (fail_if_success (with_reducible show wpAny _ _ (exec (Stmt.For _ _ _ _ _) _) _ _ _)); (fail_if_success (with_reducible show wpAny _ _ (getItem (Value.ref _) _) _ _ _)); (fail_if_success (with_reducible show wpAny _ _ (setItem (Value.ref _) _ _) _ _ _)); (fail_if_success (with_reducible show wpAny _ _ (call (Value.builtin "list.append") _ _) _ _ _)); leave1; walk_say "STEP leave1"; try dsimp only) | fail "no step"))
    all_goals (try k_data)
    · rename_i hdot
      refine append_K (by assumption) (by assumption) (Upd.head hne2) ?_ (by rw [List.size_toArray, sizeLine_eq]; omega)
      intro h₄ F₄ N₄
      rw [push_last] at N₄
      w_strict (repeat' (first | (k_unfold; (try dsimp only)) | (k_end; wrow_close) | ((fail_if_success (with_reducible show wpAny _ _ (pyIter _) _ _ _)); (fail_if_success (with_reducible show wpAny _ _ (exec (Stmt.For _ _ _ _ _) _) _ _ _)); (fail_if_success (with_reducible show wpAny _ _ (getItem (Value.ref _) _) _ _ _)); (fail_if_success (with_reducible show wpAny _ _ (setItem (Value.ref _) _ _) _ _ _)); (fail_if_success (with_reducible show wpAny _ _ (call (Value.builtin "list.append") _ _) _ _ _)); (first | walk1 | (dsimp only; walk1))) | ((fail_if_success (with_reducible show wpAny _ _ (pyIter _) _ _ _)); (fail_if_success (with_reducible show wpAny _ _ (exec (Stmt.For _ _ _ _ _) _) _ _ _)); (fail_if_success (with_reducible show wpAny _ _ (getItem (Value.ref _) _) _ _ _)); (fail_if_success (with_reducible show wpAny _ _ (setItem (Value.ref _) _ _) _ _ _)); (fail_if_success (with_reducible show wpAny _ _ (call (Value.builtin "list.append") _ _) _ _ _)); leave1; walk_say "STEP leave1"; try dsimp only) | fail "no step"))
      all_goals (try k_data)
      refine' kst_end ⟨_, _⟩ ?F ?N ?a ?b rfl trivial (List.forall_mem_nil _) ?c ?_
      case F => assumption
      case N => assumption
      case a => exact part_mem
      case b => exact part_own
      case c => intro z h1 _ _; simp [h1, kstB]
      · refine ⟨?_, by simp; omega⟩
        rw [hmap, one_dot hdot, splitD_dot, List.map_append]
        exact hP.append' (.cons _ _ .nil)
    · rename_i hdot
      refine wpAny_getItem_list_neg (PySem.IsL.isList (News.get (by assumption) (.head _))) (by decide) (by simp; omega) (by decide) (last_get _ _) ?_
      try dsimp only
      w_strict (repeat' (first | (k_unfold; (try dsimp only)) | (k_end; wrow_close) | ((fail_if_success (with_reducible show wpAny _ _ (pyIter _) _ _ _)); (fail_if_success (with_reducible show wpAny _ _ (exec (Stmt.For _ _ _ _ _) _) _ _ _)); (fail_if_success (with_reducible show wpAny _ _ (getItem (Value.ref _) _) _ _ _)); (fail_if_success (with_reducible show wpAny _ _ (setItem (Value.ref _) _ _) _ _ _)); (fail_if_success (with_reducible show wpAny _ _ (call (Value.builtin "list.append") _ _) _ _ _)); (first | walk1 | (dsimp only; walk1))) | ((fail_if_success (with_reducible show wpAny _ _ (pyIter _) _ _ _)); (fail_if_success (with_reducible show wpAny _ _ (exec (Stmt.For _ _ _ _ _) _) _ _ _)); (fail_if_success (with_reducible show wpAny _ _ (getItem (Value.ref _) _) _ _ _)); (fail_if_success (with_reducible show wpAny _ _ (setItem (Value.ref _) _ _) _ _ _)); (fail_if_success (with_reducible show wpAny _ _ (call (Value.builtin "list.append") _ _) _ _ _)); leave1; walk_say "STEP leave1"; try dsimp only) | fail "no step"))
      all_goals (try k_data)
      refine ki_setNeg (by assumption) (by assumption) (by decide) (by decide) (by rw [List.size_toArray, List.length_append]; exact idx_last) (setL_last _ _ _) (Upd.head hne2) ?_
      intro h₄ F₄ N₄
      w_strict (repeat' (first | (k_unfold; (try dsimp only)) | (k_end; wrow_close) | ((fail_if_success (with_reducible show wpAny _ _ (pyIter _) _ _ _)); (fail_if_success (with_reducible show wpAny _ _ (exec (Stmt.For _ _ _ _ _) _) _ _ _)); (fail_if_success (with_reducible show wpAny _ _ (getItem (Value.ref _) _) _ _ _)); (fail_if_success (with_reducible show wpAny _ _ (setItem (Value.ref _) _ _) _ _ _)); (fail_if_success (with_reducible show wpAny _ _ (call (Value.builtin "list.append") _ _) _ _ _)); (first | walk1 | (dsimp only; walk1))) | ((fail_if_success (with_reducible show wpAny _ _ (pyIter _) _ _ _)); (fail_if_success (with_reducible show wpAny _ _ (exec (Stmt.For _ _ _ _ _) _) _ _ _)); (fail_if_success (with_reducible show wpAny _ _ (getItem (Value.ref _) _) _ _ _)); (fail_if_success (with_reducible show wpAny _ _ (setItem (Value.ref _) _ _) _ _ _)); (fail_if_success (with_reducible show wpAny _ _ (call (Value.builtin "list.append") _ _) _ _ _)); leave1; walk_say "STEP leave1"; try dsimp only) | fail "no step"))
      all_goals (try k_data)
      refine' kst_end ⟨_, _⟩ ?F ?N ?a ?b rfl trivial (List.forall_mem_nil _) ?c ?_
      case F => assumption
      case N => assumption
      case a => exact part_mem
      case b => exact part_own
      case c => intro z h1 _ _; simp [h1, kstB]
      · refine ⟨?_, by simp; omega⟩
        rw [hmap]
        exact hstep c _ (one_ne_dot hdot)
end
end Mine
end
section
open PySem PySem.W PyProof.Rows
namespace Mine
open PySem.Challenge

theorem blank_lit : Str.ofString " " = ⟨#[32]⟩ := by decide +kernel
theorem minus_lit : Str.ofString "-" = ⟨#[45]⟩ := by decide +kernel
theorem t_yes {x y : Str} {p : Prop} {k : Int} {c : Nat} (hp : p) (hy : y = ⟨#[c]⟩) (h0 : 0 ≤ k) (h1 : k < (x.length : Int)) (e : (Txt.item x k == y) = true) : (true = true ↔ (p ∧ x.cps.toList[k.toNat]? = some c)) :=
  ⟨fun _ => ⟨hp, item_dot _ hy h0 h1 e⟩, fun _ => rfl⟩
theorem t_no {x y : Str} {p : Prop} {k : Int} {c : Nat} (hy : y = ⟨#[c]⟩) (h0 : 0 ≤ k) (h1 : k < (x.length : Int)) (e : (Txt.item x k == y) = false) : (false = true ↔ (p ∧ x.cps.toList[k.toNat]? = some c)) :=
  ⟨(fun h => by cases h), fun h => absurd h.2 (item_not _ hy h0 h1 e)⟩
theorem in_yes {x y : Str} {k : Int} (h0 : 0 ≤ k) (h1 : k < (x.length : Int)) (e : (Builtin.Str.occurrences y (Txt.item x k) 0 y.length 1).isEmpty = false) : ∃ c, x.cps.toList[k.toNat]? = some c ∧ c ∈ y.cps.toList := by
  obtain ⟨c, hc, hi⟩ := item_get h0 h1
  rw [hi] at e
  have := StrLaws.found_one y c
  rw [e] at this
  exact ⟨c, hc, of_decide_eq_true this.symm⟩
theorem in_no {x y : Str} {k : Int} (h0 : 0 ≤ k) (h1 : k < (x.length : Int)) (e : (Builtin.Str.occurrences y (Txt.item x k) 0 y.length 1).isEmpty = true) : ∃ c, x.cps.toList[k.toNat]? = some c ∧ c ∉ y.cps.toList := by
  obtain ⟨c, hc, hi⟩ := item_get h0 h1
  rw [hi] at e
  have := StrLaws.found_one y c
  rw [e] at this
  exact ⟨c, hc, of_decide_eq_false this.symm⟩
theorem pm_lit : (Str.ofString "+-").cps.toList = [43, 45] := by decide +kernel
theorem fig_lit : (Str.ofString "0123456789").cps.toList = [48, 49, 50, 51, 52, 53, 54, 55, 56, 57] := by decide +kernel
theorem fig_mem {c : Nat} : c ∈ (Str.ofString "0123456789").cps.toList ↔ 48 ≤ c ∧ c ≤ 57 := by
  rw [fig_lit]; simp; omega
theorem fig_in {c : Nat} (e : (Builtin.Str.occurrences (Str.ofString "0123456789") ⟨#[c]⟩ 0 (Str.ofString "0123456789").length 1).isEmpty = false) : 48 ≤ c ∧ c ≤ 57 := by
  have := StrLaws.found_one (Str.ofString "0123456789") c
  rw [e] at this
  exact fig_mem.mp (of_decide_eq_true this.symm)
theorem fig_out {c : Nat} (e : (Builtin.Str.occurrences (Str.ofString "0123456789") ⟨#[c]⟩ 0 (Str.ofString "0123456789").length 1).isEmpty = true) : ¬ (48 ≤ c ∧ c ≤ 57) := by
  have := StrLaws.found_one (Str.ofString "0123456789") c
  rw [e] at this
  exact fun h => of_decide_eq_false this.symm (fig_mem.mpr h)
theorem fig_find10 : ∀ d : Nat, d < 10 → Txt.find (Str.ofString "0123456789") ⟨#[48 + d]⟩ = (d : Int) := by decide +kernel
theorem fig_find {c : Nat} (h : 48 ≤ c ∧ c ≤ 57) : Txt.find (Str.ofString "0123456789") ⟨#[c]⟩ = ((c - 48 : Nat) : Int) := by
  have := fig_find10 (c - 48) (by omega)
  rwa [show 48 + (c - 48) = c by omega] at this
theorem under_lit : Str.ofString "_" = ⟨#[95]⟩ := by decide +kernel
theorem under_yes {c : Nat} (h : ((⟨#[c]⟩ : Str) == Str.ofString "_") = true) : c = 95 := by rw [under_lit] at h; simpa using h
theorem under_no {c : Nat} (h : ((⟨#[c]⟩ : Str) == Str.ofString "_") = false) : c ≠ 95 := by
  rw [under_lit] at h
  intro e
  subst e
  simp at h
theorem codes_back (x : Str) : (KStt.codes x).map Int.toNat = x.cps.toList := by unfold KStt.codes; rw [List.map_map]; exact (List.map_congr_left (fun a _ => by simp)).trans (List.map_id _)
theorem digs_snoc {p : List Nat} {c a : Nat} {r : Bool} (h : digs p = some (a, r)) : digs (p ++ [c]) = digStep (a, r) c := by
  unfold digs at h ⊢
  rw [List.foldlM_append, h]
  show ([c].foldlM digStep (a, r)) = _
  rw [List.foldlM_cons]
  cases digStep (a, r) c <;> rfl
theorem digs_none {p q : List Nat} {c a : Nat} {r : Bool} (h : digs p = some (a, r)) (hn : digStep (a, r) c = none) : digs (p ++ c :: q) = none := by
  unfold digs at h ⊢
  rw [List.foldlM_append, h]
  show ((c :: q).foldlM digStep (a, r)) = none
  rw [List.foldlM_cons, hn]
  rfl
theorem pow_step {a n c : Nat} (h : a < 10 ^ n) (hc : c ≤ 57) (hc0 : 48 ≤ c) : a * 10 + (c - 48) < 10 ^ (n + 1) := by
  rw [Nat.pow_succ]; omega
theorem news_left {h₀ h : Heap} {L : Addr} {l1 l2 : List (Addr × Obj)} (N : News h₀ L h (l1 ++ l2)) : News h₀ L h l1 := fun p hp => N p (List.mem_append_left _ hp)
theorem t_out {p q : Prop} (hp : ¬ p) : (false = true ↔ (p ∧ q)) := ⟨(fun h => by cases h), fun h => absurd h.1 hp⟩

set_option maxRecDepth 100000 in
set_option maxHeartbeats 8000000 in
theorem number_spec {w : World} {A₀ : Around} {base h₀ : Heap} {outer : List Env} {L : Addr} {m mg mb : Str → Option Value} {news : List (Addr × Obj)} {s : Shared} {env : Env} {loose : List Str} {mean : ExcName → Option Value} {Q : Value → Shared → Prop} {E : Value → Shared → Prop} {x : Str} {t : Tok}
    (cx : Cx w base A₀ outer h₀ L env loose mean mg mb) (F : Fr h₀ L s.heap m) (N : News h₀ L s.heap news)
    (hx : x.length ≤ 10) (hok : ∀ c ∈ x.cps.toList, NumOK c)
    (h : ∀ v h' tk t', v = (match PySem.intText? x with | some n => Value.int n t' | none => .none) → Fr h₀ L h' m → News h₀ L h' news → Q v { s with heap := h', toks := tk }) :
    wpAny (model rw_mj0064_01.row.prog w) (AA 400 60 env outer) (call (.ref 70) [.str x t] []) Q E s := by
  obtain ⟨B, X, T, hf, hke⟩ := cx
  w_on
  revert X
  k_fill
  intro X
  refine wpAny_call ?_
  refine' code_def B F X N T rfl hf hke ?k6 ?k7 ?k8 ?k9 ?kB ?_ ?c2 ?c3 ?c4 ?c5
  (case k6 => k_is); (case k7 => k_is); (case k8 => exact Nat.le_of_ble_eq_true rfl); (case k9 => exact BindsTo.of_eq rfl)
  (case c5 => decide); (case kB => exact locs rfl); (case c2 => exact rfl); (case c3 => exact rfl); (case c4 => exact rfl)
  intro g' L' h' FG' F' N' B' X' T'
  try dsimp only
  try k_fold
  w_strict (repeat' ((fail_if_success (with_reducible show InvEndN _ _ _ _ _ _ _)); (fail_if_success (with_reducible show KswEnd _ _ _ _ _ _ _ _ _ _ _ _)); (fail_if_success (with_reducible show Q _ _)); (first | (k_unfold; (try dsimp only)) | (k_end; wrow_close) | ((fail_if_success (with_reducible show wpAny _ _ (pyIter _) _ _ _)); (fail_if_success (with_reducible show wpAny _ _ (exec (Stmt.For _ _ _ _ _) _) _ _ _)); (fail_if_success (with_reducible show wpAny _ _ (exec (Stmt.While _ _ _ _) _) _ _ _)); (fail_if_success (with_reducible show wpAny _ _ (exec (Stmt.If _ _ _ _) _) _ _ _)); (fail_if_success (with_reducible show wpAny _ _ (eval (Expr.BoolOp _ _ _) _) _ _ _)); (first | walk1 | (dsimp only; walk1))) | ((fail_if_success (with_reducible show wpAny _ _ (pyIter _) _ _ _)); (fail_if_success (with_reducible show wpAny _ _ (exec (Stmt.For _ _ _ _ _) _) _ _ _)); (fail_if_success (with_reducible show wpAny _ _ (exec (Stmt.While _ _ _ _) _) _ _ _)); (fail_if_success (with_reducible show wpAny _ _ (exec (Stmt.If _ _ _ _) _) _ _ _)); (fail_if_success (with_reducible show wpAny _ _ (eval (Expr.BoolOp _ _ _) _) _ _ _)); leave1; walk_say "STEP leave1"; try dsimp only) | fail "no step")))
  all_goals (try k_data)
  refine' ksw_while (σ := Nat × Tok) (fun _ => news) (fun c => [(Str.ofString "front", .int (c.1 : Int) c.2)]) (fun _ => True) [Str.ofString "front"] (fun c => c.1 ≤ x.length ∧ ∀ v, v < c.1 → x.cps.toList[v]? = some 32) (fun c => x.length - c.1) (0, _) ?F ?N trivial ?hk ⟨Nat.zero_le _, fun v hv => absurd hv (Nat.not_lt_zero _)⟩ ?turn
  case F => assumption
  case N => assumption
  case hk =>
    simp only [List.forall_mem_cons, List.not_mem_nil, false_implies, implies_true, and_true]
    exact rfl
  case turn =>
    rintro ⟨fr, tf⟩ u h₁ tk₁ _ ⟨hf1, hf2⟩ F₁ N₁
    dsimp only at hf1 hf2 F₁
    have hf0 : (fr : Int) ≤ (x.length : Int) := by omega
    refine wpAny_mono (Q := fun b s₂ => (∃ tk', s₂ = { s with heap := h₁, toks := tk' }) ∧ (b = true ↔ ((fr : Int) < (x.length : Int) ∧ x.cps.toList[(fr : Int).toNat]? = some 32))) ?test ?cont (fun _ _ e => e)
    case test =>
      w_strict (repeat' ((fail_if_success (with_reducible show InvEndN _ _ _ _ _ _ _)); (fail_if_success (with_reducible show KswEnd _ _ _ _ _ _ _ _ _ _ _ _)); (fail_if_success (with_reducible show Q _ _)); (first | (k_unfold; (try dsimp only)) | (k_end; wrow_close) | ((fail_if_success (with_reducible show wpAny _ _ (execs _ _) _ _ _)); (first | walk1 | (dsimp only; walk1))) | ((fail_if_success (with_reducible show wpAny _ _ (execs _ _) _ _ _)); leave1; walk_say "STEP leave1"; try dsimp only) | fail "no step")))
      all_goals (try k_data)
      all_goals (first | exact t_yes (by omega) blank_lit (by omega) (by omega) (by assumption) | exact t_no blank_lit (by omega) (by omega) (by assumption) | exact t_out (by omega))
    case cont =>
      rintro b s₂ ⟨⟨tk₂, rfl⟩, hb⟩
      cases b with
      | true =>
        simp only [if_true]
        obtain ⟨hb1, hb2⟩ := hb.mp rfl
        w_strict (repeat' ((fail_if_success (with_reducible show InvEndN _ _ _ _ _ _ _)); (fail_if_success (with_reducible show KswEnd _ _ _ _ _ _ _ _ _ _ _ _)); (fail_if_success (with_reducible show Q _ _)); (first | (k_unfold; (try dsimp only)) | (k_end; wrow_close) | ((fail_if_success (with_reducible show wpAny _ _ (pyIter _) _ _ _)); (fail_if_success (with_reducible show wpAny _ _ (exec (Stmt.For _ _ _ _ _) _) _ _ _)); (fail_if_success (with_reducible show wpAny _ _ (exec (Stmt.While _ _ _ _) _) _ _ _)); (fail_if_success (with_reducible show wpAny _ _ (exec (Stmt.If _ _ _ _) _) _ _ _)); (fail_if_success (with_reducible show wpAny _ _ (eval (Expr.BoolOp _ _ _) _) _ _ _)); (first | walk1 | (dsimp only; walk1))) | ((fail_if_success (with_reducible show wpAny _ _ (pyIter _) _ _ _)); (fail_if_success (with_reducible show wpAny _ _ (exec (Stmt.For _ _ _ _ _) _) _ _ _)); (fail_if_success (with_reducible show wpAny _ _ (exec (Stmt.While _ _ _ _) _) _ _ _)); (fail_if_success (with_reducible show wpAny _ _ (exec (Stmt.If _ _ _ _) _) _ _ _)); (fail_if_success (with_reducible show wpAny _ _ (eval (Expr.BoolOp _ _ _) _) _ _ _)); leave1; walk_say "STEP leave1"; try dsimp only) | fail "no step")))
        all_goals (try k_data)
        refine' ksw_end (fr + 1, _) ?F ?N (fun p hp => hp) trivial ?hk ?hr ⟨?p1, ?p2⟩ ?mu
        case F => assumption
        case N => assumption
        case hk =>
          simp only [List.forall_mem_cons, List.not_mem_nil, false_implies, implies_true, and_true]
          exact rfl
        case hr =>
          intro z h2 h3
          simp only [List.forall_mem_cons, List.not_mem_nil, false_implies, implies_true, and_true, ne_eq] at h2
          simp only [kstB, if_neg h2, h3, Bool.false_eq_true, if_false]
        case p1 => show fr + 1 ≤ _; omega
        case p2 =>
          intro v (hv : v < fr + 1)
          rcases Nat.lt_or_ge v fr with h | h
          · exact hf2 v h
          · have : v = fr := by omega
            rw [this]; simpa using hb2
        case mu =>
          show x.length - (fr + 1) < x.length - fr
          omega
      | false =>
        simp only [Bool.false_eq_true, if_false]
        have hex1 : fr < x.length → x.cps.toList[fr]? ≠ some 32 := fun h1 h2 => by
          have := hb.mpr ⟨by omega, by simpa using h2⟩
          cases this
        clear hb
        w_strict (repeat' ((fail_if_success (with_reducible show InvEndN _ _ _ _ _ _ _)); (fail_if_success (with_reducible show KswEnd _ _ _ _ _ _ _ _ _ _ _ _)); (fail_if_success (with_reducible show Q _ _)); (first | (k_unfold; (try dsimp only)) | (k_end; wrow_close) | ((fail_if_success (with_reducible show wpAny _ _ (pyIter _) _ _ _)); (fail_if_success (with_reducible show wpAny _ _ (exec (Stmt.For _ _ _ _ _) _) _ _ _)); (fail_if_success (with_reducible show wpAny _ _ (exec (Stmt.While _ _ _ _) _) _ _ _)); (fail_if_success (with_reducible show wpAny _ _ (exec (Stmt.If _ _ _ _) _) _ _ _)); (fail_if_success (with_reducible show wpAny _ _ (eval (Expr.BoolOp _ _ _) _) _ _ _)); (first | walk1 | (dsimp only; walk1))) | ((fail_if_success (with_reducible show wpAny _ _ (pyIter _) _ _ _)); (fail_if_success (with_reducible show wpAny _ _ (exec (Stmt.For _ _ _ _ _) _) _ _ _)); (fail_if_success (with_reducible show wpAny _ _ (exec (Stmt.While _ _ _ _) _) _ _ _)); (fail_if_success (with_reducible show wpAny _ _ (exec (Stmt.If _ _ _ _) _) _ _ _)); (fail_if_success (with_reducible show wpAny _ _ (eval (Expr.BoolOp _ _ _) _) _ _ _)); leave1; walk_say "STEP leave1"; try dsimp only) | fail "no step")))
        all_goals (try k_data)
        refine' ksw_while (σ := Nat × Tok) (fun _ => news) (fun c => [(Str.ofString "behind", .int (c.1 : Int) c.2)]) (fun _ => True) [Str.ofString "behind"] (fun c => fr ≤ c.1 ∧ c.1 ≤ x.length ∧ ∀ v, c.1 ≤ v → v < x.length → x.cps.toList[v]? = some 32) (fun c => c.1) (x.length, _) ?F ?N trivial ?hk ⟨hf1, Nat.le_refl _, fun v h1 h2 => absurd h2 (Nat.not_lt.mpr h1)⟩ ?turn
        case F => assumption
        case N => assumption
        case hk =>
          simp only [List.forall_mem_cons, List.not_mem_nil, false_implies, implies_true, and_true]
          exact rfl
        case turn =>
          rintro ⟨be, tb⟩ u₂ h₂ tk₃ _ ⟨hg1, hg2, hg3⟩ F₂ N₂
          dsimp only at hg1 hg2 hg3 F₂
          have hg0 : (be : Int) ≤ (x.length : Int) := by omega
          refine wpAny_mono (Q := fun b s₂ => (∃ tk', s₂ = { s with heap := h₂, toks := tk' }) ∧ (b = true ↔ ((fr : Int) < (be : Int) ∧ x.cps.toList[((be : Int) - 1).toNat]? = some 32))) ?test ?cont (fun _ _ e => e)
          case test =>
            w_strict (repeat' ((fail_if_success (with_reducible show InvEndN _ _ _ _ _ _ _)); (fail_if_success (with_reducible show KswEnd _ _ _ _ _ _ _ _ _ _ _ _)); (fail_if_success (with_reducible show Q _ _)); (first | (k_unfold; (try dsimp only)) | (k_end; wrow_close) | ((fail_if_success (with_reducible show wpAny _ _ (execs _ _) _ _ _)); (first | walk1 | (dsimp only; walk1))) | ((fail_if_success (with_reducible show wpAny _ _ (execs _ _) _ _ _)); leave1; walk_say "STEP leave1"; try dsimp only) | fail "no step")))
            all_goals (try k_data)
            all_goals (first | exact t_yes (by omega) blank_lit (by omega) (by omega) (by assumption) | exact t_no blank_lit (by omega) (by omega) (by assumption) | exact t_out (by omega))
          case cont =>
            rintro b s₂ ⟨⟨tk₄, rfl⟩, hb⟩
            cases b with
            | true =>
              simp only [if_true]
              obtain ⟨hb1, hb2⟩ := hb.mp rfl
              w_strict (repeat' ((fail_if_success (with_reducible show InvEndN _ _ _ _ _ _ _)); (fail_if_success (with_reducible show KswEnd _ _ _ _ _ _ _ _ _ _ _ _)); (fail_if_success (with_reducible show Q _ _)); (first | (k_unfold; (try dsimp only)) | (k_end; wrow_close) | ((fail_if_success (with_reducible show wpAny _ _ (pyIter _) _ _ _)); (fail_if_success (with_reducible show wpAny _ _ (exec (Stmt.For _ _ _ _ _) _) _ _ _)); (fail_if_success (with_reducible show wpAny _ _ (exec (Stmt.While _ _ _ _) _) _ _ _)); (fail_if_success (with_reducible show wpAny _ _ (exec (Stmt.If _ _ _ _) _) _ _ _)); (fail_if_success (with_reducible show wpAny _ _ (eval (Expr.BoolOp _ _ _) _) _ _ _)); (first | walk1 | (dsimp only; walk1))) | ((fail_if_success (with_reducible show wpAny _ _ (pyIter _) _ _ _)); (fail_if_success (with_reducible show wpAny _ _ (exec (Stmt.For _ _ _ _ _) _) _ _ _)); (fail_if_success (with_reducible show wpAny _ _ (exec (Stmt.While _ _ _ _) _) _ _ _)); (fail_if_success (with_reducible show wpAny _ _ (exec (Stmt.If _ _ _ _) _) _ _ _)); (fail_if_success (with_reducible show wpAny _ _ (eval (Expr.BoolOp _ _ _) _) _ _ _)); leave1; walk_say "STEP leave1"; try dsimp only) | fail "no step")))
              all_goals (try k_data)
              refine' ksw_end (be - 1, _) ?F ?N (fun p hp => hp) trivial ?hk ?hr ⟨?p1, ?p2, ?p3⟩ ?mu
              case F => assumption
              case N => assumption
              case hk =>
                simp only [List.forall_mem_cons, List.not_mem_nil, false_implies, implies_true, and_true]
                have e : (((be - 1 : Nat) : Int)) = (be : Int) - 1 := by omega
                rw [e]
                exact rfl
              case hr =>
                intro z h2 h3
                simp only [List.forall_mem_cons, List.not_mem_nil, false_implies, implies_true, and_true, ne_eq] at h2
                simp only [kstB, if_neg h2, h3, Bool.false_eq_true, if_false]
              case p1 => show fr ≤ be - 1; omega
              case p2 => show be - 1 ≤ _; omega
              case p3 =>
                intro v (hv : be - 1 ≤ v) hv2
                rcases Nat.lt_or_ge v be with h | h
                · have e : v = ((be : Int) - 1).toNat := by omega
                  rw [e]; exact hb2
                · exact hg3 v h hv2
              case mu =>
                show be - 1 < be
                omega
            | false =>
              simp only [Bool.false_eq_true, if_false]
              have hex2 : fr < be → x.cps.toList[be - 1]? ≠ some 32 := fun h1 h2 => by
                have := hb.mpr ⟨by omega, by rw [show ((be : Int) - 1).toNat = be - 1 by omega]; exact h2⟩
                cases this
              clear hb
              w_strict (repeat' ((fail_if_success (with_reducible show InvEndN _ _ _ _ _ _ _)); (fail_if_success (with_reducible show KswEnd _ _ _ _ _ _ _ _ _ _ _ _)); (fail_if_success (with_reducible show Q _ _)); (first | (k_unfold; (try dsimp only)) | (k_end; wrow_close) | ((fail_if_success (with_reducible show wpAny _ _ (pyIter _) _ _ _)); (fail_if_success (with_reducible show wpAny _ _ (exec (Stmt.For _ _ _ _ _) _) _ _ _)); (fail_if_success (with_reducible show wpAny _ _ (exec (Stmt.While _ _ _ _) _) _ _ _)); (fail_if_success (with_reducible show wpAny _ _ (exec (Stmt.If _ _ _ _) _) _ _ _)); (fail_if_success (with_reducible show wpAny _ _ (eval (Expr.BoolOp _ _ _) _) _ _ _)); (first | walk1 | (dsimp only; walk1))) | ((fail_if_success (with_reducible show wpAny _ _ (pyIter _) _ _ _)); (fail_if_success (with_reducible show wpAny _ _ (exec (Stmt.For _ _ _ _ _) _) _ _ _)); (fail_if_success (with_reducible show wpAny _ _ (exec (Stmt.While _ _ _ _) _) _ _ _)); (fail_if_success (with_reducible show wpAny _ _ (exec (Stmt.If _ _ _ _) _) _ _ _)); (fail_if_success (with_reducible show wpAny _ _ (eval (Expr.BoolOp _ _ _) _) _ _ _)); leave1; walk_say "STEP leave1"; try dsimp only) | fail "no step")))
              all_goals (try k_data)
              refine wpAny_mono (Q := fun v s₂ => (∃ tk', s₂ = { s with heap := h₂, toks := tk' }) ∧ ∃ b, v = .bool b ∧ (b = true ↔ ((fr : Int) < (be : Int) ∧ x.cps.toList[(fr : Int).toNat]? = some 45))) ?test ?cont (fun _ _ e => e)
              case test =>
                w_strict (repeat' ((fail_if_success (with_reducible show InvEndN _ _ _ _ _ _ _)); (fail_if_success (with_reducible show KswEnd _ _ _ _ _ _ _ _ _ _ _ _)); (fail_if_success (with_reducible show Q _ _)); (first | (k_unfold; (try dsimp only)) | (k_end; wrow_close) | ((fail_if_success (with_reducible show wpAny _ _ (execs _ _) _ _ _)); (first | walk1 | (dsimp only; walk1))) | ((fail_if_success (with_reducible show wpAny _ _ (execs _ _) _ _ _)); leave1; walk_say "STEP leave1"; try dsimp only) | fail "no step")))
                all_goals (try k_data)
                · exact ⟨fun e => ⟨by omega, item_dot _ minus_lit (by omega) (by omega) e⟩, fun e => beq_iff_eq.mpr (by obtain ⟨d, hd, hi⟩ := item_get (x := x) (k := (fr : Int)) (by omega) (by omega); rw [hi, minus_lit]; rw [hd] at e; rw [Option.some.inj e.2])⟩
                · exact ⟨fun e => absurd (of_decide_eq_true e) (by omega), fun e => absurd e.1 (by omega)⟩
              case cont =>
                rintro v s₂ ⟨⟨tk₅, rfl⟩, less, rfl, hless⟩
                w_strict (repeat' ((fail_if_success (with_reducible show InvEndN _ _ _ _ _ _ _)); (fail_if_success (with_reducible show KswEnd _ _ _ _ _ _ _ _ _ _ _ _)); (fail_if_success (with_reducible show Q _ _)); (first | (k_unfold; (try dsimp only)) | (k_end; wrow_close) | ((fail_if_success (with_reducible show wpAny _ _ (pyIter _) _ _ _)); (fail_if_success (with_reducible show wpAny _ _ (exec (Stmt.For _ _ _ _ _) _) _ _ _)); (fail_if_success (with_reducible show wpAny _ _ (exec (Stmt.While _ _ _ _) _) _ _ _)); (fail_if_success (with_reducible show wpAny _ _ (exec (Stmt.If _ _ _ _) _) _ _ _)); (fail_if_success (with_reducible show wpAny _ _ (eval (Expr.BoolOp _ _ _) _) _ _ _)); (first | walk1 | (dsimp only; walk1))) | ((fail_if_success (with_reducible show wpAny _ _ (pyIter _) _ _ _)); (fail_if_success (with_reducible show wpAny _ _ (exec (Stmt.For _ _ _ _ _) _) _ _ _)); (fail_if_success (with_reducible show wpAny _ _ (exec (Stmt.While _ _ _ _) _) _ _ _)); (fail_if_success (with_reducible show wpAny _ _ (exec (Stmt.If _ _ _ _) _) _ _ _)); (fail_if_success (with_reducible show wpAny _ _ (eval (Expr.BoolOp _ _ _) _) _ _ _)); leave1; walk_say "STEP leave1"; try dsimp only) | fail "no step")))
                all_goals (try k_data)
                rename_i hX FX NX
                refine wpAny_If ?_
                refine wpAny_mono (Q := fun b s₂ => (∃ tk', s₂ = { s with heap := hX, toks := tk' }) ∧ (b = true ↔ ((fr : Int) < (be : Int) ∧ (x.cps.toList[(fr : Int).toNat]? = some 43 ∨ x.cps.toList[(fr : Int).toNat]? = some 45)))) ?test ?cont (fun _ _ e => e)
                case test =>
                  w_strict (repeat' ((fail_if_success (with_reducible show InvEndN _ _ _ _ _ _ _)); (fail_if_success (with_reducible show KswEnd _ _ _ _ _ _ _ _ _ _ _ _)); (fail_if_success (with_reducible show Q _ _)); (first | (k_unfold; (try dsimp only)) | (k_end; wrow_close) | ((fail_if_success (with_reducible show wpAny _ _ (execs _ _) _ _ _)); (first | walk1 | (dsimp only; walk1))) | ((fail_if_success (with_reducible show wpAny _ _ (execs _ _) _ _ _)); leave1; walk_say "STEP leave1"; try dsimp only) | fail "no step")))
                  all_goals (try k_data)
                  · rename_i hin
                    obtain ⟨c, hc, hn⟩ := in_no (x := x) (k := (fr : Int)) (by omega) (by omega) hin
                    rw [pm_lit] at hn
                    refine ⟨(fun h => by cases h), fun h => absurd h.2 ?_⟩
                    rw [hc]
                    simp at hn ⊢
                    exact hn
                  · rename_i hin
                    obtain ⟨c, hc, hn⟩ := in_yes (x := x) (k := (fr : Int)) (by omega) (by omega) hin
                    rw [pm_lit] at hn
                    refine ⟨fun _ => ⟨by omega, ?_⟩, fun _ => rfl⟩
                    rw [hc]
                    simpa using hn
                  · exact t_out (by omega)
                case cont =>
                  rintro b s₂ ⟨⟨tk₆, rfl⟩, hb⟩
                  cases b with
                  | true =>
                    simp only [if_true]
                    w_strict (repeat' ((fail_if_success (with_reducible show InvEndN _ _ _ _ _ _ _)); (fail_if_success (with_reducible show KswEnd _ _ _ _ _ _ _ _ _ _ _ _)); (fail_if_success (with_reducible show Q _ _)); (first | (k_unfold; (try dsimp only)) | (k_end; wrow_close) | ((fail_if_success (with_reducible show wpAny _ _ (pyIter _) _ _ _)); (fail_if_success (with_reducible show wpAny _ _ (exec (Stmt.For _ _ _ _ _) _) _ _ _)); (fail_if_success (with_reducible show wpAny _ _ (exec (Stmt.While _ _ _ _) _) _ _ _)); (fail_if_success (with_reducible show wpAny _ _ (exec (Stmt.If _ _ _ _) _) _ _ _)); (fail_if_success (with_reducible show wpAny _ _ (eval (Expr.BoolOp _ _ _) _) _ _ _)); (first | walk1 | (dsimp only; walk1))) | ((fail_if_success (with_reducible show wpAny _ _ (pyIter _) _ _ _)); (fail_if_success (with_reducible show wpAny _ _ (exec (Stmt.For _ _ _ _ _) _) _ _ _)); (fail_if_success (with_reducible show wpAny _ _ (exec (Stmt.While _ _ _ _) _) _ _ _)); (fail_if_success (with_reducible show wpAny _ _ (exec (Stmt.If _ _ _ _) _) _ _ _)); (fail_if_success (with_reducible show wpAny _ _ (eval (Expr.BoolOp _ _ _) _) _ _ _)); leave1; walk_say "STEP leave1"; try dsimp only) | fail "no step")))
                    all_goals (try k_data)
                    have hfb : ((fr : Int) + 1) ≤ (be : Int) := by have := (hb.mp rfl).1; omega
                    have hbody : (Txt.slice x (some ((fr : Int) + 1)) (some (be : Int))).cps.toList = (x.cps.toList.take be).drop (fr + 1) := by
                      rw [slice_eq ⟨by omega, hfb, by omega⟩, show (((fr : Int) + 1)).toNat = (fr + 1) by omega]; simp
                    have hfin : PySem.intText? x = numR less ((x.cps.toList.take be).drop (fr + 1)) := num_final hok hx hf1 hf2 hex1 hg1 hg2 hg3 hex2 hless (by have := hb.mp rfl; simp only [Int.toNat_natCast] at this; exact .inl ⟨rfl, by omega, this.2⟩)
                    refine For_invVF (by assumption) rfl rfl ?_
                    w_strict (repeat' ((fail_if_success (with_reducible show InvEndN _ _ _ _ _ _ _)); (fail_if_success (with_reducible show KswEnd _ _ _ _ _ _ _ _ _ _ _ _)); (fail_if_success (with_reducible show Q _ _)); (first | (k_unfold; (try dsimp only)) | (k_end; wrow_close) | ((fail_if_success (with_reducible show wpAny _ _ (pyIter _) _ _ _)); (fail_if_success (with_reducible show wpAny _ _ (exec (Stmt.For _ _ _ _ _) _) _ _ _)); (fail_if_success (with_reducible show wpAny _ _ (exec (Stmt.While _ _ _ _) _) _ _ _)); (fail_if_success (with_reducible show wpAny _ _ (exec (Stmt.If _ _ _ _) _) _ _ _)); (fail_if_success (with_reducible show wpAny _ _ (eval (Expr.BoolOp _ _ _) _) _ _ _)); (first | walk1 | (dsimp only; walk1))) | ((fail_if_success (with_reducible show wpAny _ _ (pyIter _) _ _ _)); (fail_if_success (with_reducible show wpAny _ _ (exec (Stmt.For _ _ _ _ _) _) _ _ _)); (fail_if_success (with_reducible show wpAny _ _ (exec (Stmt.While _ _ _ _) _) _ _ _)); (fail_if_success (with_reducible show wpAny _ _ (exec (Stmt.If _ _ _ _) _) _ _ _)); (fail_if_success (with_reducible show wpAny _ _ (eval (Expr.BoolOp _ _ _) _) _ _ _)); leave1; walk_say "STEP leave1"; try dsimp only) | fail "no step")))
                    all_goals (try k_data)
                    refine' KStt.kst_text (σ := Nat × Bool × Tok) (fun _ => news) (fun c => [(Str.ofString "worth", .int (c.1 : Int) c.2.2), (Str.ofString "ready", .bool c.2.1)]) (fun _ => True) [Str.ofString "worth", Str.ofString "ready"] (fun pre c => digs (pre.map Int.toNat) = some (c.1, c.2.1) ∧ c.1 < 10 ^ pre.length ∧ pre.length ≤ 10) (0, false, tk₆ + 1 + 1 + 1) rfl ?F ?N trivial ?hk ⟨rfl, (by decide : 0 < 10 ^ 0), (by decide : 0 ≤ 10)⟩ ?turn ?done
                    case F => assumption
                    case N => assumption
                    case hk =>
                      refine List.forall_mem_cons.mpr ⟨rfl, List.forall_mem_cons.mpr ⟨rfl, List.forall_mem_nil _⟩⟩
                    case done =>
                      rintro ⟨a, r, tw⟩ u₃ h₃ tk₇ _ ⟨hP, hP2, _⟩ F₃ N₃
                      dsimp only at hP hP2 F₃
                      w_strict (repeat' ((fail_if_success (with_reducible show InvEndN _ _ _ _ _ _ _)); (fail_if_success (with_reducible show KswEnd _ _ _ _ _ _ _ _ _ _ _ _)); (fail_if_success (with_reducible show Q _ _)); (first | (k_unfold; (try dsimp only)) | (k_end; wrow_close) | ((fail_if_success (with_reducible show wpAny _ _ (pyIter _) _ _ _)); (fail_if_success (with_reducible show wpAny _ _ (exec (Stmt.For _ _ _ _ _) _) _ _ _)); (fail_if_success (with_reducible show wpAny _ _ (exec (Stmt.While _ _ _ _) _) _ _ _)); (first | walk1 | (dsimp only; walk1))) | ((fail_if_success (with_reducible show wpAny _ _ (pyIter _) _ _ _)); (fail_if_success (with_reducible show wpAny _ _ (exec (Stmt.For _ _ _ _ _) _) _ _ _)); (fail_if_success (with_reducible show wpAny _ _ (exec (Stmt.While _ _ _ _) _) _ _ _)); leave1; walk_say "STEP leave1"; try dsimp only) | fail "no step")))
                      all_goals (try k_data)
                      all_goals (rw [codes_back, hbody] at hP)
                      · have hr : r = true := by assumption
                        have hl : less = true := by assumption
                        subst hr hl
                        refine h _ _ _ tk₇ ?_ (by assumption) (by assumption)
                        rw [hfin]; unfold numR; rw [hP]; rfl
                      · have hr : r = true := by assumption
                        have hl : less = false := by assumption
                        subst hr hl
                        refine h _ _ _ tw ?_ (by assumption) (by assumption)
                        rw [hfin]; unfold numR; rw [hP]; rfl
                      · have hr : r = false := by assumption
                        subst hr
                        refine h _ _ _ 0 ?_ (by assumption) (by assumption)
                        rw [hfin]; unfold numR; rw [hP]
                    case turn =>
                      rintro ⟨a, r, tw⟩ pre post c tt u₃ h₃ tk₇ own hcs hoff _ ⟨hP, hP2, hP3⟩ F₃ N₃
                      dsimp only at hP hP2 F₃
                      w_strict (repeat' ((fail_if_success (with_reducible show InvEndN _ _ _ _ _ _ _)); (fail_if_success (with_reducible show KswEnd _ _ _ _ _ _ _ _ _ _ _ _)); (fail_if_success (with_reducible show Q _ _)); (first | (k_unfold; (try dsimp only)) | (k_end; wrow_close) | ((fail_if_success (with_reducible show wpAny _ _ (pyIter _) _ _ _)); (fail_if_success (with_reducible show wpAny _ _ (exec (Stmt.For _ _ _ _ _) _) _ _ _)); (fail_if_success (with_reducible show wpAny _ _ (exec (Stmt.While _ _ _ _) _) _ _ _)); (first | walk1 | (dsimp only; walk1))) | ((fail_if_success (with_reducible show wpAny _ _ (pyIter _) _ _ _)); (fail_if_success (with_reducible show wpAny _ _ (exec (Stmt.For _ _ _ _ _) _) _ _ _)); (fail_if_success (with_reducible show wpAny _ _ (exec (Stmt.While _ _ _ _) _) _ _ _)); leave1; walk_say "STEP leave1"; try dsimp only) | fail "no step")))
                      all_goals (try k_data)
                      all_goals (have hmap : (pre ++ [(c : Int)]).map Int.toNat = pre.map Int.toNat ++ [c] := by simp)
                      all_goals (have hsplit : ((x.cps.toList.take be).drop (fr + 1)) = pre.map Int.toNat ++ c :: post.map Int.toNat := by rw [← hbody, ← codes_back, hcs]; simp)
                      · have hr : r = true := by assumption
                        have hu : c = 95 := under_yes (by assumption)
                        subst hr hu
                        refine' kst_end (a, false, tw) ?F ?N ?a ?b rfl trivial ?hk ?c ⟨?p1, ?p2, ?p3⟩
                        case F => assumption
                        case N => assumption
                        case a => exact fun p hp => List.mem_append_left _ hp
                        case b => exact fun p hp => List.mem_append_right _ hp
                        case hk =>
                          refine List.forall_mem_cons.mpr ⟨?_, List.forall_mem_cons.mpr ⟨rfl, List.forall_mem_nil _⟩⟩
                          exact rfl
                        case c =>
                          intro z h1 h2 h3
                          simp only [List.forall_mem_cons, List.not_mem_nil, false_implies, implies_true, and_true, ne_eq] at h2
                          obtain ⟨z1, z2⟩ := h2
                          simp only [kstB, if_neg h1, if_neg z1, if_neg z2, h3, Bool.false_eq_true, if_false]
                        case p1 => exact by rw [hmap, digs_snoc hP]; rfl
                        case p2 => exact by show a < 10 ^ (pre ++ [_]).length; rw [List.length_append]; exact Nat.lt_of_lt_of_le hP2 (Nat.pow_le_pow_right (by decide) (by simp))
                        case p3 =>
                          have q1 := congrArg List.length hcs
                          rw [KStt.codes_length] at q1
                          have q2 := Txt.slice_le x (some ((fr : Int) + 1)) (some (be : Int))
                          simp at q1 q2 ⊢
                          omega
                      · have hr : r = false := by assumption
                        have hu : c = 95 := under_yes (by assumption)
                        subst hr hu
                        refine h _ _ _ 0 ?_ (by assumption) (news_left (by assumption))
                        rw [hfin]; unfold numR; rw [hsplit, digs_none hP (by rfl)]
                      · have hu : c = 95 := under_yes (by assumption)
                        have hn : 48 ≤ c ∧ c ≤ 57 := fig_in (by assumption)
                        omega
                      · have hu : c ≠ 95 := under_no (by assumption)
                        have hn : ¬ (48 ≤ c ∧ c ≤ 57) := fig_out (by assumption)
                        refine h _ _ _ 0 ?_ (by assumption) (news_left (by assumption))
                        rw [hfin]; unfold numR; rw [hsplit, digs_none hP (by unfold digStep; rw [if_neg (fun q => hu q.1), if_neg hn])]
                      · have hu : c ≠ 95 := under_no (by assumption)
                        have hn : 48 ≤ c ∧ c ≤ 57 := fig_in (by assumption)
                        refine' kst_end (a * 10 + (c - 48), true, _) ?F ?N ?a ?b rfl trivial ?hk ?c ⟨?p1, ?p2, ?p3⟩
                        case F => assumption
                        case N => assumption
                        case a => exact fun p hp => List.mem_append_left _ hp
                        case b => exact fun p hp => List.mem_append_right _ hp
                        case hk =>
                          refine List.forall_mem_cons.mpr ⟨?_, List.forall_mem_cons.mpr ⟨rfl, List.forall_mem_nil _⟩⟩
                          have e : ((a * 10 + (c - 48) : Nat) : Int) = (a : Int) * 10 + Txt.find (Str.ofString "0123456789") ⟨#[c]⟩ := by rw [fig_find hn]; omega
                          dsimp only
                          rw [e]
                          exact rfl
                        case c =>
                          intro z h1 h2 h3
                          simp only [List.forall_mem_cons, List.not_mem_nil, false_implies, implies_true, and_true, ne_eq] at h2
                          obtain ⟨z1, z2⟩ := h2
                          simp only [kstB, if_neg h1, if_neg z1, if_neg z2, h3, Bool.false_eq_true, if_false]
                        case p1 => exact by rw [hmap, digs_snoc hP]; unfold digStep; rw [if_neg (fun q => hu q.1), if_pos hn]
                        case p2 => exact by show a * 10 + (c - 48) < 10 ^ (pre ++ [_]).length; rw [List.length_append]; exact pow_step hP2 hn.2 hn.1
                        case p3 =>
                          have q1 := congrArg List.length hcs
                          rw [KStt.codes_length] at q1
                          have q2 := Txt.slice_le x (some ((fr : Int) + 1)) (some (be : Int))
                          simp at q1 q2 ⊢
                          omega
                  | false =>
                    simp only [Bool.false_eq_true, if_false]
                    w_strict (repeat' ((fail_if_success (with_reducible show InvEndN _ _ _ _ _ _ _)); (fail_if_success (with_reducible show KswEnd _ _ _ _ _ _ _ _ _ _ _ _)); (fail_if_success (with_reducible show Q _ _)); (first | (k_unfold; (try dsimp only)) | (k_end; wrow_close) | ((fail_if_success (with_reducible show wpAny _ _ (pyIter _) _ _ _)); (fail_if_success (with_reducible show wpAny _ _ (exec (Stmt.For _ _ _ _ _) _) _ _ _)); (fail_if_success (with_reducible show wpAny _ _ (exec (Stmt.While _ _ _ _) _) _ _ _)); (fail_if_success (with_reducible show wpAny _ _ (exec (Stmt.If _ _ _ _) _) _ _ _)); (fail_if_success (with_reducible show wpAny _ _ (eval (Expr.BoolOp _ _ _) _) _ _ _)); (first | walk1 | (dsimp only; walk1))) | ((fail_if_success (with_reducible show wpAny _ _ (pyIter _) _ _ _)); (fail_if_success (with_reducible show wpAny _ _ (exec (Stmt.For _ _ _ _ _) _) _ _ _)); (fail_if_success (with_reducible show wpAny _ _ (exec (Stmt.While _ _ _ _) _) _ _ _)); (fail_if_success (with_reducible show wpAny _ _ (exec (Stmt.If _ _ _ _) _) _ _ _)); (fail_if_success (with_reducible show wpAny _ _ (eval (Expr.BoolOp _ _ _) _) _ _ _)); leave1; walk_say "STEP leave1"; try dsimp only) | fail "no step")))
                    all_goals (try k_data)
                    have hfb : (fr : Int) ≤ (be : Int) := by omega
                    have hbody : (Txt.slice x (some (fr : Int)) (some (be : Int))).cps.toList = (x.cps.toList.take be).drop fr := by
                      rw [slice_eq ⟨by omega, hfb, by omega⟩, show ((fr : Int)).toNat = fr by omega]; simp
                    have hfin : PySem.intText? x = numR less ((x.cps.toList.take be).drop fr) := num_final hok hx hf1 hf2 hex1 hg1 hg2 hg3 hex2 hless (by refine .inr ⟨rfl, fun q => ?_⟩; have := hb.mpr ⟨by omega, by simpa only [Int.toNat_natCast] using q.2⟩; cases this)
                    refine For_invVF (by assumption) rfl rfl ?_
                    w_strict (repeat' ((fail_if_success (with_reducible show InvEndN _ _ _ _ _ _ _)); (fail_if_success (with_reducible show KswEnd _ _ _ _ _ _ _ _ _ _ _ _)); (fail_if_success (with_reducible show Q _ _)); (first | (k_unfold; (try dsimp only)) | (k_end; wrow_close) | ((fail_if_success (with_reducible show wpAny _ _ (pyIter _) _ _ _)); (fail_if_success (with_reducible show wpAny _ _ (exec (Stmt.For _ _ _ _ _) _) _ _ _)); (fail_if_success (with_reducible show wpAny _ _ (exec (Stmt.While _ _ _ _) _) _ _ _)); (fail_if_success (with_reducible show wpAny _ _ (exec (Stmt.If _ _ _ _) _) _ _ _)); (fail_if_success (with_reducible show wpAny _ _ (eval (Expr.BoolOp _ _ _) _) _ _ _)); (first | walk1 | (dsimp only; walk1))) | ((fail_if_success (with_reducible show wpAny _ _ (pyIter _) _ _ _)); (fail_if_success (with_reducible show wpAny _ _ (exec (Stmt.For _ _ _ _ _) _) _ _ _)); (fail_if_success (with_reducible show wpAny _ _ (exec (Stmt.While _ _ _ _) _) _ _ _)); (fail_if_success (with_reducible show wpAny _ _ (exec (Stmt.If _ _ _ _) _) _ _ _)); (fail_if_success (with_reducible show wpAny _ _ (eval (Expr.BoolOp _ _ _) _) _ _ _)); leave1; walk_say "STEP leave1"; try dsimp only) | fail "no step")))
                    all_goals (try k_data)
                    refine' KStt.kst_text (σ := Nat × Bool × Tok) (fun _ => news) (fun c => [(Str.ofString "worth", .int (c.1 : Int) c.2.2), (Str.ofString "ready", .bool c.2.1)]) (fun _ => True) [Str.ofString "worth", Str.ofString "ready"] (fun pre c => digs (pre.map Int.toNat) = some (c.1, c.2.1) ∧ c.1 < 10 ^ pre.length ∧ pre.length ≤ 10) (0, false, tk₆) rfl ?F ?N trivial ?hk ⟨rfl, (by decide : 0 < 10 ^ 0), (by decide : 0 ≤ 10)⟩ ?turn ?done
                    case F => assumption
                    case N => assumption
                    case hk =>
                      refine List.forall_mem_cons.mpr ⟨rfl, List.forall_mem_cons.mpr ⟨rfl, List.forall_mem_nil _⟩⟩
                    case done =>
                      rintro ⟨a, r, tw⟩ u₃ h₃ tk₇ _ ⟨hP, hP2, _⟩ F₃ N₃
                      dsimp only at hP hP2 F₃
                      w_strict (repeat' ((fail_if_success (with_reducible show InvEndN _ _ _ _ _ _ _)); (fail_if_success (with_reducible show KswEnd _ _ _ _ _ _ _ _ _ _ _ _)); (fail_if_success (with_reducible show Q _ _)); (first | (k_unfold; (try dsimp only)) | (k_end; wrow_close) | ((fail_if_success (with_reducible show wpAny _ _ (pyIter _) _ _ _)); (fail_if_success (with_reducible show wpAny _ _ (exec (Stmt.For _ _ _ _ _) _) _ _ _)); (fail_if_success (with_reducible show wpAny _ _ (exec (Stmt.While _ _ _ _) _) _ _ _)); (first | walk1 | (dsimp only; walk1))) | ((fail_if_success (with_reducible show wpAny _ _ (pyIter _) _ _ _)); (fail_if_success (with_reducible show wpAny _ _ (exec (Stmt.For _ _ _ _ _) _) _ _ _)); (fail_if_success (with_reducible show wpAny _ _ (exec (Stmt.While _ _ _ _) _) _ _ _)); leave1; walk_say "STEP leave1"; try dsimp only) | fail "no step")))
                      all_goals (try k_data)
                      all_goals (rw [codes_back, hbody] at hP)
                      · have hr : r = true := by assumption
                        have hl : less = true := by assumption
                        subst hr hl
                        refine h _ _ _ tk₇ ?_ (by assumption) (by assumption)
                        rw [hfin]; unfold numR; rw [hP]; rfl
                      · have hr : r = true := by assumption
                        have hl : less = false := by assumption
                        subst hr hl
                        refine h _ _ _ tw ?_ (by assumption) (by assumption)
                        rw [hfin]; unfold numR; rw [hP]; rfl
                      · have hr : r = false := by assumption
                        subst hr
                        refine h _ _ _ 0 ?_ (by assumption) (by assumption)
                        rw [hfin]; unfold numR; rw [hP]
                    case turn =>
                      rintro ⟨a, r, tw⟩ pre post c tt u₃ h₃ tk₇ own hcs hoff _ ⟨hP, hP2, hP3⟩ F₃ N₃
                      dsimp only at hP hP2 F₃
                      w_strict (repeat' ((fail_if_success (with_reducible show InvEndN _ _ _ _ _ _ _)); (fail_if_success (with_reducible show KswEnd _ _ _ _ _ _ _ _ _ _ _ _)); (fail_if_success (with_reducible show Q _ _)); (first | (k_unfold; (try dsimp only)) | (k_end; wrow_close) | ((fail_if_success (with_reducible show wpAny _ _ (pyIter _) _ _ _)); (fail_if_success (with_reducible show wpAny _ _ (exec (Stmt.For _ _ _ _ _) _) _ _ _)); (fail_if_success (with_reducible show wpAny _ _ (exec (Stmt.While _ _ _ _) _) _ _ _)); (first | walk1 | (dsimp only; walk1))) | ((fail_if_success (with_reducible show wpAny _ _ (pyIter _) _ _ _)); (fail_if_success (with_reducible show wpAny _ _ (exec (Stmt.For _ _ _ _ _) _) _ _ _)); (fail_if_success (with_reducible show wpAny _ _ (exec (Stmt.While _ _ _ _) _) _ _ _)); leave1; walk_say "STEP leave1"; try dsimp only) | fail "no step")))
                      all_goals (try k_data)
                      all_goals (have hmap : (pre ++ [(c : Int)]).map Int.toNat = pre.map Int.toNat ++ [c] := by simp)
                      all_goals (have hsplit : ((x.cps.toList.take be).drop fr) = pre.map Int.toNat ++ c :: post.map Int.toNat := by rw [← hbody, ← codes_back, hcs]; simp)
                      · have hr : r = true := by assumption
                        have hu : c = 95 := under_yes (by assumption)
                        subst hr hu
                        refine' kst_end (a, false, tw) ?F ?N ?a ?b rfl trivial ?hk ?c ⟨?p1, ?p2, ?p3⟩
                        case F => assumption
                        case N => assumption
                        case a => exact fun p hp => List.mem_append_left _ hp
                        case b => exact fun p hp => List.mem_append_right _ hp
                        case hk =>
                          refine List.forall_mem_cons.mpr ⟨?_, List.forall_mem_cons.mpr ⟨rfl, List.forall_mem_nil _⟩⟩
                          exact rfl
                        case c =>
                          intro z h1 h2 h3
                          simp only [List.forall_mem_cons, List.not_mem_nil, false_implies, implies_true, and_true, ne_eq] at h2
                          obtain ⟨z1, z2⟩ := h2
                          simp only [kstB, if_neg h1, if_neg z1, if_neg z2, h3, Bool.false_eq_true, if_false]
                        case p1 => exact by rw [hmap, digs_snoc hP]; rfl
                        case p2 => exact by show a < 10 ^ (pre ++ [_]).length; rw [List.length_append]; exact Nat.lt_of_lt_of_le hP2 (Nat.pow_le_pow_right (by decide) (by simp))
                        case p3 =>
                          have q1 := congrArg List.length hcs
                          rw [KStt.codes_length] at q1
                          have q2 := Txt.slice_le x (some (fr : Int)) (some (be : Int))
                          simp at q1 q2 ⊢
                          omega
                      · have hr : r = false := by assumption
                        have hu : c = 95 := under_yes (by assumption)
                        subst hr hu
                        refine h _ _ _ 0 ?_ (by assumption) (news_left (by assumption))
                        rw [hfin]; unfold numR; rw [hsplit, digs_none hP (by rfl)]
                      · have hu : c = 95 := under_yes (by assumption)
                        have hn : 48 ≤ c ∧ c ≤ 57 := fig_in (by assumption)
                        omega
                      · have hu : c ≠ 95 := under_no (by assumption)
                        have hn : ¬ (48 ≤ c ∧ c ≤ 57) := fig_out (by assumption)
                        refine h _ _ _ 0 ?_ (by assumption) (news_left (by assumption))
                        rw [hfin]; unfold numR; rw [hsplit, digs_none hP (by unfold digStep; rw [if_neg (fun q => hu q.1), if_neg hn])]
                      · have hu : c ≠ 95 := under_no (by assumption)
                        have hn : 48 ≤ c ∧ c ≤ 57 := fig_in (by assumption)
                        refine' kst_end (a * 10 + (c - 48), true, _) ?F ?N ?a ?b rfl trivial ?hk ?c ⟨?p1, ?p2, ?p3⟩
                        case F => assumption
                        case N => assumption
                        case a => exact fun p hp => List.mem_append_left _ hp
                        case b => exact fun p hp => List.mem_append_right _ hp
                        case hk =>
                          refine List.forall_mem_cons.mpr ⟨?_, List.forall_mem_cons.mpr ⟨rfl, List.forall_mem_nil _⟩⟩
                          have e : ((a * 10 + (c - 48) : Nat) : Int) = (a : Int) * 10 + Txt.find (Str.ofString "0123456789") ⟨#[c]⟩ := by rw [fig_find hn]; omega
                          dsimp only
                          rw [e]
                          exact rfl
                        case c =>
                          intro z h1 h2 h3
                          simp only [List.forall_mem_cons, List.not_mem_nil, false_implies, implies_true, and_true, ne_eq] at h2
                          obtain ⟨z1, z2⟩ := h2
                          simp only [kstB, if_neg h1, if_neg z1, if_neg z2, h3, Bool.false_eq_true, if_false]
                        case p1 => exact by rw [hmap, digs_snoc hP]; unfold digStep; rw [if_neg (fun q => hu q.1), if_pos hn]
                        case p2 => exact by show a * 10 + (c - 48) < 10 ^ (pre ++ [_]).length; rw [List.length_append]; exact pow_step hP2 hn.2 hn.1
                        case p3 =>
                          have q1 := congrArg List.length hcs
                          rw [KStt.codes_length] at q1
                          have q2 := Txt.slice_le x (some (fr : Int)) (some (be : Int))
                          simp at q1 q2 ⊢
                          omega
end Mine
end
section
open PySem PySem.W PyProof.Rows
open AutoSeq1 (wpAny_loadPart')
set_option maxRecDepth 100000
namespace Mine
theorem mp_mro : mroOf (.type "map") = pure [.type "map", .type "object"] := by rw [mroOf_type]; kernel_rfl
theorem mp_lookup_new : typeLookup (.type "map") "__new__" = pure (some (.builtin "map.__new__")) := by rw [typeLookup_type, builtinLookup_eq_fast]; kernel_rfl
theorem mp_slot_init : Slot "map" "__init__" "object.__init__" :=
  .of (owner := "object") (n := "__init__") (by rw [typeLookup_type, builtinLookup_eq_fast]; kernel_rfl) (by decide +kernel) (by decide +kernel) (by decide +kernel)
    (by first | exact .inl (by decide +kernel) | exact .inr (by decide +kernel)) (by rw [isSubtype_type]; kernel_rfl)
theorem mp_called : TypeCalled "map" "map.__new__" "object.__init__" :=
  ⟨by decide +kernel, by decide +kernel, ⟨_, _, mp_mro⟩, madeBy_type mp_mro mp_lookup_new (by decide +kernel), by decide +kernel, by rw [isSubtype_type]; kernel_rfl, mp_slot_init⟩
theorem mp_typeCall (a b : Value) : checkTypeCall "map" ⟨[a, b], []⟩ = pure () := by kernel_rfl
theorem mp_newCall (a b : Value) : checkBuiltinCall "map.__new__" ⟨[.type "map", a, b], []⟩ = pure () := by kernel_rfl
theorem mp_args_init (a b c : Value) : argsOk "object.__init__" ⟨[a, b, c], []⟩ := by unfold argsOk; kernel_rfl
theorem mp_entry_new : entryFor table "map.__new__" = some Builtin.«map.__new__» := entryFor_of_tree (by kernel_rfl)
theorem mp_entry_next : entryFor table "map.__next__" = some Builtin.«map.__next__» := entryFor_of_tree (by kernel_rfl)
theorem mp_slot_next : Slot "map" "__next__" "map.__next__" :=
  .of (owner := "map") (n := "__next__") (by rw [typeLookup_type, builtinLookup_eq_fast]; kernel_rfl) (by decide +kernel) (by decide +kernel) (by decide +kernel)
    (by first | exact .inl (by decide +kernel) | exact .inr (by decide +kernel)) (by rw [isSubtype_type]; kernel_rfl)
theorem mp_slot_iter : Slot "map" "__iter__" "map.__iter__" :=
  .of (owner := "map") (n := "__iter__") (by rw [typeLookup_type, builtinLookup_eq_fast]; kernel_rfl) (by decide +kernel) (by decide +kernel) (by decide +kernel)
    (by first | exact .inl (by decide +kernel) | exact .inr (by decide +kernel)) (by rw [isSubtype_type]; kernel_rfl)
theorem mp_entry_iter : entryFor table "map.__iter__" = some Builtin.«dict_keyiterator.__iter__» :=
  entryFor_alias (id' := "dict_keyiterator.__iter__") (by kernel_rfl) (by first | rfl | decide +kernel | (unfold String.splitOn; simp +decide [String.splitOnAux])) (by decide +kernel) (by kernel_rfl)
theorem mp_args_iter (a : Value) : argsOk "map.__iter__" ⟨[a], []⟩ := by unfold argsOk; kernel_rfl
theorem mp_args_next (a : Value) : argsOk "map.__next__" ⟨[a], []⟩ := by unfold argsOk; kernel_rfl
theorem mp_sub : isSubtype (.type "map") (.type "map") = pure true := by rw [isSubtype_type]; kernel_rfl

abbrev itObj (l : Addr) (i : Int) : Obj := { cls := .type "list_iterator", data := .fields #[.ref l, .int i 0] }
abbrev mpObj (t : Addr) : Obj := { cls := .type "map", data := .fields #[.ref t, .type "int"] }
abbrev tup1 (i : Addr) : Obj := { cls := .type "tuple", data := .seq #[.ref i] }

set_option maxHeartbeats 4000000 in
theorem mp_meets_new (l : Addr) (items : Array Value) (n : Nat) (dct : Option Addr) (sl : Array (Option Value)) :
    Meets (Builtin.«map.__new__» ⟨[.type "map", .type "int", .ref l], []⟩) (fun _ R s => s.heap.get? l = some { cls := .type "list", dict := dct, data := .seq items n, slots := sl } ∧
      R (.ok (.ret (.ref ((s.heap.push (itObj l 0)).push (tup1 s.heap.objs.size)).objs.size)))
        { s with heap := ((s.heap.push (itObj l 0)).push (tup1 s.heap.objs.size)).push (mpObj (s.heap.push (itObj l 0)).objs.size) }) :=
  .of_wp fun prog w A R s h => by
    obtain ⟨hp, g, d, tk, os⟩ := s; obtain ⟨hl, h⟩ := h
    have hsub := mp_sub
    have hL : Heap.IsList (Shared.heap ⟨hp, g, d, tk, os⟩) l items := ⟨_, hl, rfl, n, rfl⟩
    wp_walk using wpAny_loadPart' hl, wpAny_pyIter_list hL
    exact ⟨_, rfl, h⟩
end Mine
end
section
open PySem PySem.W PyProof.Rows
open Sem (wp)
set_option maxRecDepth 100000
namespace Mine
/-- a stack on which map.__next__ stands ahead of any frame of Python code -/
def Sealed (l : List Code) : Prop := ∃ pre args post, l = pre ++ Code.builtin "map.__next__" args :: post ∧ ∀ c ∈ pre, c.env? = none
theorem Sealed.cons {c : Code} {l : List Code} (hc : c.env? = none) (h : Sealed l) : Sealed (c :: l) := by
  obtain ⟨pre, args, post, rfl, hp⟩ := h
  refine ⟨c :: pre, args, post, rfl, fun d hd => ?_⟩
  rcases List.mem_cons.mp hd with rfl | hd
  · exact hc
  · exact hp d hd
theorem Sealed.here (args : Args) (l : List Code) : Sealed (Code.builtin "map.__next__" args :: l) := ⟨[], args, l, rfl, fun _ h => nomatch h⟩
theorem Sealed.quiet {l : List Code} (h : Sealed l) : pythonCodeMadeTheCall ["int.__new__"] l = false := by
  obtain ⟨pre, args, post, rfl, hp⟩ := h
  have hm : Code.builtin "map.__next__" args ∈ (pre ++ Code.builtin "map.__next__" args :: post).takeWhile (·.env?.isNone) := by
    rw [List.takeWhile_append_of_pos (fun c hc => by rw [hp c hc]; rfl)]
    refine List.mem_append_right _ ?_
    rw [List.takeWhile_cons]
    exact List.mem_cons_self
  unfold pythonCodeMadeTheCall
  rw [Bool.and_eq_false_iff]
  right
  rw [List.all_eq_false]
  exact ⟨_, hm, by simp⟩

section
variable {α β : Type} {M : Model} {A : Around} {E : Value → Shared → Prop} {s : Shared}
def wpS {α : Type} (M : Model) (A : Around) (t : Sem α) (Q : α → Shared → Prop) (E : Value → Shared → Prop) (s : Shared) : Prop :=
  ∀ Γ p, Γ.In A → Sealed (Γ.code :: Γ.below.map (·.1)) → wp M Γ t (fun a _ s' => Q a s') (fun e _ s' => E e s') p s
def codeS (M : Model) (A : Around) (c : Code) (R : Result → Shared → Prop) (s : Shared) : Prop :=
  ∀ Γ p, Γ.code = c → Γ.Below A → Sealed (Γ.below.map (·.1)) → wpCode M Γ R p s
theorem wpS_of {t : Sem α} {Q : α → Shared → Prop} (h : wpAny M A t Q E s) : wpS M A t Q E s := fun Γ p hΓ _ => h Γ p hΓ
theorem wpS_bind {m : Sem α} {f : α → Sem β} {Q : β → Shared → Prop} (h : wpS M A m (fun a s' => wpS M A (f a) Q E s') E s) : wpS M A (m >>= f) Q E s := fun Γ p hΓ hS => by
  rw [Sem.wp_bind']
  exact Sem.wp_mono M Γ m (fun a p' s' h' => h' Γ p' hΓ hS) (fun _ _ _ h' => h') p s (h Γ p hΓ hS)
theorem wpS_holding {vs : List Value} {m : Sem α} {Q : α → Shared → Prop} (h : wpS M A m Q E s) : wpS M A (holding vs m) Q E s := fun Γ p hΓ hS => by rw [Sem.wp_holding]; exact h Γ p hΓ hS
theorem wpS_call {f : Value} {pos : List Value} {kw : List (Str × Value)} {Q : Value → Shared → Prop}
    (hc : codeS M A (.call f ⟨pos, kw⟩) (fun r s' => match r with | .ok (.ret v) => Q v s' | .ok _ => False | .error e => E e s') s) : wpS M A (call f pos kw) Q E s := fun Γ p hΓ hS => by
  rw [Sem.wp_cmd_call]
  exact hc _ p rfl (hΓ.enter _ none p (by intro x; cases x)) hS
theorem codeS_of_tree {c : Code} {R : Result → Shared → Prop} (hc : c.env? = none)
    (h : wpS M (A.under c) (M.den c) (fun fin s' => match fin with | .done f => R (.ok f) s' | .again c' => c'.quiet = true ∧ codeS M A c' R s') (fun e s' => R (.error e) s') s) : codeS M A c R s := fun Γ p hcc hΓ hS => by
  rw [wpCode_iff_wp, hcc]
  refine Sem.wp_mono M Γ _ (fun fin p' s' h' => ?_) (fun _ _ _ h' => h') p s (h Γ p (hcc ▸ hΓ.in) (by rw [hcc]; exact hS.cons hc))
  cases fin with
  | done f => exact h'
  | again c' => exact ⟨h'.1, h'.2 (Γ.goto c') p' rfl (hΓ.goto c') hS⟩
theorem codeS_builtin {prog : Program} {w : World} {id : String} {args : Args} {b : Builtin} {R : Result → Shared → Prop} (hb : entryFor table id = some b)
    (h : wpS (model prog w) (A.under (.builtin id args)) (b args) (fun fin s' => match fin with | .done f => R (.ok f) s' | .again c' => c'.quiet = true ∧ codeS (model prog w) A c' R s') (fun e s' => R (.error e) s') s) :
    codeS (model prog w) A (.builtin id args) R s := by
  refine codeS_of_tree rfl ?_
  show wpS _ _ (match entryFor table id with | some b => b args | none => unsupported ((withoutEnding? id "#data").getD id)) _ _ s
  rw [hb]; exact h
theorem codeS_call_builtin {prog : Program} {w : World} {id : String} {args : Args} {R : Result → Shared → Prop} (hq : (Code.builtin id args).quiet = true) (hc : checkBuiltinCall id args = pure ())
    (h : codeS (model prog w) A (.builtin id args) R s) : codeS (model prog w) A (.call (.builtin id) args) R s := by
  refine codeS_of_tree rfl ?_
  show wpS _ _ (do checkBuiltinCall id args; again (.builtin id args)) _ _ s
  rw [hc, pure_bind]
  exact wpS_of (wpAny_pure ⟨hq, h⟩)
theorem codeS_call_type {prog : Program} {w : World} {T : String} {args : List Value} {R : Result → Shared → Prop}
    (h : codeS (model prog w) A (.builtin "type.__call__" ⟨.type T :: args, []⟩) R s) : codeS (model prog w) A (.call (.type T) ⟨args, []⟩) R s := by
  refine codeS_of_tree rfl ?_
  show wpS _ _ (callAny (.type T) _) _ _ _
  exact wpS_of (wpAny_pure ⟨Code.quiet_builtin _ (by decide +kernel), h⟩)
theorem wpS_mark {e : Value} {Q : Unit → Shared → Prop} (h : Q () s) : wpS M A (markTheRefusal ["int.__new__"] e) Q E s := fun Γ p hΓ hS => by
  have hq := hS.quiet
  unfold markTheRefusal
  show wp M Γ (if pythonCodeMadeTheCall ["int.__new__"] ((((Γ.code, p) :: Γ.below)).map (·.1)) = true then _ else _) _ _ p s
  rw [List.map_cons, hq]
  exact h
end

theorem str_int : typeLookup (.type "str") "__int__" = pure none := by rw [typeLookup_type, builtinLookup_eq_fast]; kernel_rfl
theorem type_call_eq (x : Str) (t : Tok) : ∃ K, Builtin.«type.__call__» ⟨[.type "int", .str x t], []⟩ = (holding [.builtin "int.__new__"] (call (.builtin "int.__new__") [.type "int", .str x t]) >>= K) := by
  refine' ⟨_, ?_⟩
  rotate_left
  have h1 := F.called_int.notType
  have h2 := F.called_int.canCreate
  obtain ⟨c, tl, h3⟩ := F.called_int.mro
  have h4 := F.called_int.made
  have h5 := F.typeCall_int_1 (.str x t)
  unfold Builtin.«type.__call__»
  simp only [h1, h2, h3, h4, h5, Bool.false_eq_true, if_false, pure_bind, List.isEmpty_cons]
  rfl
theorem special_none {x : Str} {t : Tok} {n : Str} (h : typeLookup (.type "str") n = pure none) : specialOf (.str x t) n = pure none := by
  show (typeOf (.str x t) >>= fun c => typeLookup c n) = pure none
  rw [show typeOf (.str x t) = pure (.type "str") from rfl, pure_bind, h]
theorem callSpecial_none {x : Str} {t : Tok} {n : Str} (h : typeLookup (.type "str") n = pure none) : callSpecial? (.str x t) n = pure none := by
  unfold callSpecial?
  rw [special_none h, pure_bind]
theorem fromObject_eq (x : Str) (t : Tok) : (int_private% "intFromObject") (.str x t) = (int_private% "intFromText") (.str x t) (numTextOf x) 10 := by
  have f3 := callSpecial_none (x := x) (t := t) KIN.str_int
  have f4 := special_none (x := x) (t := t) KIN.str_idx
  have f5 := special_none (x := x) (t := t) KIN.str_trunc
  show (callSpecial? (.str x t) "__int__" >>= _) = _
  rw [f3, pure_bind]
  show (specialOf (.str x t) "__index__" >>= _) = _
  rw [f4, pure_bind]
  show (specialOf (.str x t) "__trunc__" >>= _) = _
  rw [f5, pure_bind]
  rfl
theorem int_new_eq (x : Str) (t : Tok) : ∃ K, Builtin.«int.__new__» ⟨[.type "int", .str x t], []⟩ = ((int_private% "intFromText") (.str x t) (numTextOf x) 10 >>= K) := by
  refine' ⟨_, ?_⟩
  rotate_left
  have f1 := F.conv_sub_int
  have f2 := F.madeHere_int
  rw [← fromObject_eq]
  unfold Builtin.«int.__new__»
  dsimp only [isType]
  simp only [pure_bind, f1, f2, Bool.not_true, Bool.false_eq_true, if_false]
  rfl

section
variable {prog : Program} {w : World} {A : Around} {E : Value → Shared → Prop} {s : Shared} {x : Str} {t : Tok}
/-- the tail of a refused int(text) -/
def refuse (v : Value) : Sem Value := do
  rule "int.__new__.invalid-literal"
  let shown ← pyRepr v
  let m ← mkStr (((s!"invalid literal for int() with base {10}: " : String) ++ ⟨shown.cps.extract 0 200⟩ : Str))
  let refusal ← newExc (.type "ValueError") [m]
  markTheRefusal ["int.__new__"] refusal
  raiseNew refusal
theorem fromText_eq (hl : (numSeenOf x).length ≤ 640) (hn : PySem.intText? x = none) : (int_private% "intFromText") (.str x t) (numTextOf x) 10 = refuse (.str x t) := by
  rcases read0 x hl with ⟨m, h1, _, _⟩ | ⟨_, h | ⟨i, h, hne⟩⟩
  · rw [hn] at h1; cases h1
  · show (ite ((numSeenOf x).length ≤ 640) _ _) = _
    rw [if_pos hl, pure_bind]
    simp only [h]
    rfl
  · show (ite ((numSeenOf x).length ≤ 640) _ _) = _
    rw [if_pos hl, pure_bind]
    simp only [h, if_neg hne]
    rfl
theorem refuse_S {Q : Value → Shared → Prop} (hr : (reprText x).length ≤ sizeLine) (hh : A.handled = none) (h : ∀ h' tk e, Heap.NewExc s.heap h' e "ValueError" → E (.ref e) { s with heap := h', toks := tk }) :
    wpS (model prog w) A (refuse (.str x t)) Q E s := by
  unfold refuse
  refine wpS_bind (wpS_of (wpAny_rule ?_))
  refine wpS_bind (wpS_of (wpAny_pyRepr_str ?_ hr))
  refine wpS_bind (wpS_of (wpAny_mkStr ?_ ?hm))
  case hm =>
    rw [Str.length_append]
    have h1 : (Str.mk ((reprText x).cps.extract 0 200)).length ≤ 200 := by show ((reprText x).cps.extract 0 200).size ≤ 200; simp; omega
    have h2 : (Str.ofString (toString "invalid literal for int() with base " ++ toString 10 ++ toString ": ")).length ≤ 100 := by decide +kernel
    rw [sizeLine_eq]
    omega
  refine wpS_bind (wpS_of ?_)
  unfold newExc newTuple
  refine wpAny_bind (wpAny_newObj_type ?_)
  refine wpAny_bind (m := firstArgMember _ _) (wpAny_of_eq (a := Value.none) (by simp only [firstArgMember, plainExc_ValueError.first]; rfl) ?_)
  rw [plainExc_ValueError.own]
  refine wpAny_newObj_type ?_
  refine wpS_bind (wpS_mark ?_)
  refine wpS_of ?_
  unfold raiseNew
  refine wpAny_bind (wpAny_handled ?_)
  rw [hh]
  first
    | refine wpAny_throw ?_
    | refine wpAny_bind (wpAny_pure (wpAny_throw ?_))
  exact h _ _ _ ⟨fun b o hb => Heap.get?_push_of_some _ (Heap.get?_push_of_some _ hb), Heap.get?_none_of_le (by simp), _, .ref s.heap.objs.size, Heap.get?_push_size _ rfl, rfl, by simp⟩
theorem int_refused {Q : Value → Shared → Prop} (hl : x.length ≤ 640) (hn : PySem.intText? x = none) (hr : (reprText x).length ≤ sizeLine) (hh : A.handled = none)
    (h : ∀ h' tk e, Heap.NewExc s.heap h' e "ValueError" → E (.ref e) { s with heap := h', toks := tk }) :
    wpS (model prog w) A (call (.type "int") [.str x t]) Q E s := by
  obtain ⟨K, hK⟩ := type_call_eq x t
  obtain ⟨K2, hK2⟩ := int_new_eq x t
  refine wpS_call (codeS_call_type (codeS_builtin F.entry_type_call ?_))
  rw [hK]
  refine wpS_bind (wpS_holding (wpS_call (codeS_call_builtin (plainId_quiet F.called_int.plain _) (F.newCall_int_1 _) (codeS_builtin F.entry_int_new ?_))))
  rw [hK2, fromText_eq (Nat.le_trans (seen_length x) hl) hn]
  exact wpS_bind (refuse_S hr hh h)
end
end Mine
end
section
open PySem PySem.W PyProof.Rows
open Sem (wp)
set_option maxRecDepth 100000
namespace Mine
/-- a map of int over a list's items, i of them taken -/
structure MapAt (h : Heap) (R T I l : Addr) (i : Nat) (items : Array Value) : Prop where
  r : h.get? R = some (mpObj T)
  t : h.get? T = some (tup1 I)
  it : h.IsListIter I l i
  ls : h.IsList l items
  n1 : R ≠ I
  n2 : T ≠ I
  n3 : l ≠ I
theorem MapAt.step {h h' : Heap} {R T I l : Addr} {i j : Nat} {items : Array Value} (m : MapAt h R T I l i items) (hi : h'.IsListIter I l j) (hs : Heap.ExtBut I h h') : MapAt h' R T I l j items :=
  ⟨hs _ _ m.n1 m.r, hs _ _ m.n2 m.t, hi, m.ls.extBut hs m.n3, m.n1, m.n2, m.n3⟩
theorem MapAt.keeps {h h' : Heap} {R T I l : Addr} {i : Nat} {items : Array Value} (m : MapAt h R T I l i items) (hs : ∀ b o, h.get? b = some o → h'.get? b = some o) : MapAt h' R T I l i items :=
  ⟨hs _ _ m.r, hs _ _ m.t, let ⟨o, a, b⟩ := m.it; ⟨o, hs _ _ a, b⟩, m.ls.at fun _ e => hs _ _ e, m.n1, m.n2, m.n3⟩

theorem next_eq (R : Addr) : Builtin.«map.__next__» ⟨[.ref R], []⟩ = (do
    let some its ← seqItems? (← field (.ref R) 0) | unsupported "internal:map.__next__"
    let mut items : Array Value := #[]
    for it in its do
      items := items.push (← holding items.toList (Builtin.SmallTypes.nextOf it))
    let result ← holding items.toList (call (← field (.ref R) 1) items.toList)
    letGo items.toList [result]
    ret result) := rfl

theorem own_of_S {prog : Program} {w : World} {A : Around} {E : Value → Shared → Prop} {s : Shared} {args : Args} {α : Type} {t : Sem α} {Q : α → Shared → Prop} (h : wpS (model prog w) (A.under (.builtin "map.__next__" args)) t Q E s) :
    wpOwn (model prog w) A (.builtin "map.__next__" args) t Q E s := fun Γ p hc hΓ => h Γ p (hc ▸ hΓ.in) (by rw [hc]; exact Sealed.here _ _)

section
variable {prog : Program} {w : World} {A : Around} {E : Value → Shared → Prop} {s : Shared} {R T I l : Addr} {i : Nat} {items : Array Value} {x : Str} {t : Tok}
theorem one_round {α : Type} (a : Value) (f : Value → Array Value → Sem (ForInStep (Array Value))) (k : Array Value → Sem α) : ((forIn (#[a] : Array Value) (#[] : Array Value) f) >>= k) = (f a #[] >>= fun r => match r with | .done b => k b | .yield b => k b) := by
  rw [show (#[a] : Array Value) = [a].toArray from rfl, List.forIn_toArray, List.forIn_cons, bind_assoc]
  refine congrArg _ (funext fun r => ?_)
  cases r with
  | done b => rw [pure_bind]
  | yield b =>
    dsimp only
    rw [List.forIn_nil, pure_bind]
theorem mp_next_S {Q : PySem.Fin → Shared → Prop} (m : MapAt s.heap R T I l i items) (hx : items[i]? = some (.str x t))
    (h : ∀ h', h'.IsListIter I l (i + 1) → Heap.SameBut I s.heap h' → wpS (model prog w) A (call (.type "int") [.str x t]) (fun v s' => Q (.done (.ret v)) s') E { s with heap := h' }) :
    wpS (model prog w) A (Builtin.«map.__next__» ⟨[.ref R], []⟩) Q E s := by
  rw [next_eq]
  refine wpS_bind (wpS_of (wpAny_field m.r rfl (x := .ref T) rfl ?_))
  refine wpS_bind (wpS_of (wpAny_seqItems m.t rfl ?_))
  dsimp only
  rw [one_round]
  refine wpS_bind (wpS_of (wpAny_bind (wpAny_holding (wpAny_nextOf_list_item m.it m.ls hx fun h' hi hs => wpAny_pure ?_))))
  dsimp only
  have m' := m.step hi hs.extBut
  refine wpS_bind (wpS_of (wpAny_field m'.r rfl (x := .type "int") rfl ?_))
  refine wpS_bind (wpS_holding ?_)
  refine fun Γ p hΓ hS => Sem.wp_mono _ _ _ (fun v p' s' hv => ?_) (fun _ _ _ e => e) _ _ (h h' hi hs Γ p hΓ hS)
  exact wpS_bind (wpS_of (wpAny_letGo (wpS_of (wpAny_pure hv))))
theorem mp_next_end {Q : PySem.Fin → Shared → Prop} (m : MapAt s.heap R T I l i items) (hh : A.handled = none) (hx : items[i]? = none)
    (h : ∀ h' e, Heap.ExtBut I s.heap h' → (∃ o, h'.get? e = some o ∧ o.cls = .type "StopIteration") → E (.ref e) { s with heap := h' }) :
    wpAny (model prog w) A (Builtin.«map.__next__» ⟨[.ref R], []⟩) Q E s := by
  rw [next_eq]
  refine wpAny_bind (wpAny_field m.r rfl (x := .ref T) rfl ?_)
  refine wpAny_bind (wpAny_seqItems m.t rfl ?_)
  dsimp only
  rw [one_round]
  exact wpAny_bind (wpAny_bind (wpAny_holding (wpAny_nextOf_list_end hh m.it m.ls hx h)))
theorem mp_pyNext {Q : Option Value → Shared → Prop} (m : MapAt s.heap R T I l i items)
    (h : wpOwn (model prog w) A (.builtin "map.__next__" ⟨[.ref R], []⟩) (Builtin.«map.__next__» ⟨[.ref R], []⟩) (fun fin s' => ∃ v, fin = .done (.ret v) ∧ Q (some v) s')
      (fun e s' => wpAny (model prog w) A (do if ← isInstance e (.type "StopIteration") then pure none else throw e) Q E s') s) :
    wpAny (model prog w) A (pyNext (.ref R)) Q E s := by
  have hT : s.TypeIs (.ref R) "map" := ⟨_, m.r, rfl⟩
  unfold pyNext
  refine wpAny_bind (wpAny_attempt (wpAny_callSpecial?_slot (name := Str.ofString "__next__") hT mp_slot_next ?_))
  refine wpAny_call (codeAny_call_builtin_own (plainId_quiet mp_slot_next.plain _) mp_entry_next (mp_slot_next.check _ _ _ _ _ _ _ _ hT (mp_args_next _) (wpOwn_mono h (fun fin s' hf => ?_) fun e s' he => he)))
  obtain ⟨v, rfl, hv⟩ := hf
  exact wpAny_pure hv
theorem mp_item {Q : Option Value → Shared → Prop} {n : Int} (m : MapAt s.heap R T I l i items) (hx : items[i]? = some (.str x t)) (hn : PySem.intText? x = some n) (hl : x.length ≤ 640)
    (h : ∀ h' tk u, MapAt h' R T I l (i + 1) items → Heap.SameBut I s.heap h' → Q (some (.int n u)) { s with heap := h', toks := tk }) : wpAny (model prog w) A (pyNext (.ref R)) Q E s :=
  mp_pyNext m (own_of_S (mp_next_S m hx fun h' hi hs => wpS_of (KIN.call_text hn hl ⟨_, rfl, h h' _ _ (m.step hi hs.extBut) hs⟩)))
theorem mp_end {Q : Option Value → Shared → Prop} (m : MapAt s.heap R T I l i items) (hh : A.handled = none) (hx : items[i]? = none)
    (h : ∀ h', Heap.ExtBut I s.heap h' → Q none { s with heap := h' }) : wpAny (model prog w) A (pyNext (.ref R)) Q E s := by
  refine mp_pyNext m (wpOwn_of_wpAny (mp_next_end m hh hx fun h' e hs ho => ?_))
  obtain ⟨o, ho, hc⟩ := ho
  exact wpAny_bind (wpAny_isInstance (T := "StopIteration") (b := true) ⟨o, ho, hc⟩ isSubtype_stop (wpAny_pure (h h' hs)))
theorem ve_not_stop : isSubtype (.type "ValueError") (.type "StopIteration") = pure false := by rw [isSubtype_type]; kernel_rfl
theorem mp_refused {Q : Option Value → Shared → Prop} (m : MapAt s.heap R T I l i items) (hx : items[i]? = some (.str x t)) (hn : PySem.intText? x = none) (hl : x.length ≤ 640) (hr : (reprText x).length ≤ sizeLine) (hh : A.handled = none)
    (h : ∀ h' h'' tk e, Heap.SameBut I s.heap h' → Heap.NewExc h' h'' e "ValueError" → E (.ref e) { s with heap := h'', toks := tk }) : wpAny (model prog w) A (pyNext (.ref R)) Q E s := by
  refine mp_pyNext m (own_of_S (mp_next_S m hx fun h' hi hs => int_refused hl hn hr hh fun h'' tk e hN => ?_))
  obtain ⟨ob, tt, ho, hc, _⟩ := hN.there
  exact wpAny_bind (wpAny_isInstance (T := "ValueError") (b := false) ⟨ob, ho, hc⟩ ve_not_stop (wpAny_throw (h h' h'' tk e hs hN)))
theorem mp_iter {Q : Value → Shared → Prop} (m : MapAt s.heap R T I l i items) (h : Q (.ref R) s) : wpAny (model prog w) A (pyIter (.ref R)) Q E s := by
  have hT : s.TypeIs (.ref R) "map" := ⟨_, m.r, rfl⟩
  refine wpAny_pyIter_slot hT mp_slot_iter (wpAny_call_entry mp_slot_iter hT mp_entry_iter ?_ (mp_args_iter _))
  show wpAny _ _ (ret (.ref R)) _ _ s
  exact wpAny_pure ⟨_, rfl, "map", _, hT, mp_slot_next.lookup, h⟩
theorem mp_call {Q : Value → Shared → Prop} (hL : s.heap.IsList l items)
    (h : ∀ h' R T I, MapAt h' R T I l 0 items → (∀ b o, s.heap.get? b = some o → h'.get? b = some o) → s.heap.objs.size ≤ R → s.heap.objs.size ≤ T → s.heap.objs.size ≤ I → Q (.ref R) { s with heap := h' }) :
    wpAny (model prog w) A (call (.type "map") [.type "int", .ref l]) Q E s := by
  obtain ⟨⟨c, dct, dt, sl⟩, hl, hc, n, hd⟩ := id hL
  replace hc : c = .type "list" := hc
  replace hd : dt = .seq items n := hd
  subst hc hd
  refine callType_new mp_called (by decide) (mp_typeCall _ _) (mp_newCall _ _) (fun obj => mp_args_init obj _ _) mp_entry_new (mp_meets_new l items n dct sl) ⟨hl, ?_⟩
  have hz : (s.heap.push (itObj l 0)).objs.size = s.heap.objs.size + 1 := Heap.size_push ..
  have hz2 : ((s.heap.push (itObj l 0)).push (tup1 s.heap.objs.size)).objs.size = s.heap.objs.size + 2 := by rw [Heap.size_push, hz]
  show _ ∧ _
  rw [hz, hz2]
  have hR : (((s.heap.push (itObj l 0)).push (tup1 s.heap.objs.size)).push (mpObj (s.heap.objs.size + 1))).get? (s.heap.objs.size + 2) = some (mpObj (s.heap.objs.size + 1)) := by
    have := Heap.get?_push_size ((s.heap.push (itObj l 0)).push (tup1 s.heap.objs.size)) (o := mpObj (s.heap.objs.size + 1)) rfl
    rwa [hz2] at this
  have hTt : (((s.heap.push (itObj l 0)).push (tup1 s.heap.objs.size)).push (mpObj (s.heap.objs.size + 1))).get? (s.heap.objs.size + 1) = some (tup1 s.heap.objs.size) := by
    have := Heap.get?_push_size (s.heap.push (itObj l 0)) (o := tup1 s.heap.objs.size) rfl
    rw [hz] at this
    exact Heap.get?_push_of_some _ this
  have hlt : l < s.heap.objs.size := Heap.lt_size hl
  have q1 : (s.heap.objs.size + 2 : Nat) ≠ s.heap.objs.size := by omega
  have q2 : (s.heap.objs.size + 1 : Nat) ≠ s.heap.objs.size := by omega
  refine ⟨⟨_, hR, rfl⟩, h _ _ _ s.heap.objs.size ⟨hR, hTt, ⟨_, Heap.get?_push_of_some _ (Heap.get?_push_of_some _ (Heap.get?_push_size _ rfl)), rfl, rfl⟩, hL.at fun o e => Heap.get?_push_of_some _ (Heap.get?_push_of_some _ (Heap.get?_push_of_some _ e)), q1, q2, Nat.ne_of_lt hlt⟩
    (fun b o x => Heap.get?_push_of_some _ (Heap.get?_push_of_some _ (Heap.get?_push_of_some _ x))) (Nat.le_add_right _ _) (Nat.le_add_right _ _) (Nat.le_refl _)⟩
end
end Mine
end
section
open PySem PySem.W PyProof.Rows
set_option maxRecDepth 100000
namespace Mine
/-- the pair that two number texts give -/
def pairOf : List Str → Option (Int × Int)
  | [p, q] => match PySem.intText? p, PySem.intText? q with
    | some a, some b => some (a, b)
    | _, _ => none
  | _ => none
section
variable {prog : Program} {w : World} {A : Around} {E : Value → Shared → Prop} {s : Shared} {R T I l : Addr}
theorem mp_unpack {vs : List Value} {ws : List Str} {Q : List Value → Shared → Prop} (m : MapAt s.heap R T I l 0 vs.toArray) (hw : StrsAre vs ws) (hl : ∀ x ∈ ws, x.length ≤ 640 ∧ (reprText x).length ≤ sizeLine) (hh : A.handled = none)
    (hok : ∀ a b h' tk u1 u2, pairOf ws = some (a, b) → Heap.ExtBut I s.heap h' → Q [.int a u1, .int b u2] { s with heap := h', toks := tk })
    (hbad : pairOf ws = none → ∀ h₁ h' tk e, Heap.ExtBut I s.heap h₁ → Heap.NewExc h₁ h' e "ValueError" → E (.ref e) { s with heap := h', toks := tk }) :
    wpAny (model prog w) A (unpackItems (.ref R) 2 none) Q E s := by
  have hT : s.TypeIs (.ref R) "map" := ⟨_, m.r, rfl⟩
  unfold unpackItems
  refine wpAny_bind ?_
  unfold notIterableAtAll
  refine wpAny_bind (wpAny_specialOf hT mp_slot_iter.lookup ?_)
  refine wpAny_pure ?_
  simp only [Bool.false_eq_true, if_false]
  refine wpAny_bind (wpAny_holding (mp_iter m ?_))
  refine wpAny_bind (wpAny_holding ?_)
  show wpAny _ _ (pyNext (.ref R) >>= _) _ _ _
  cases hw with
  | nil =>
    refine wpAny_bind (mp_end m hh rfl fun h' hs => wpAny_pure ?_)
    simp only [List.length_nil, show (0 : Nat) < 2 from by decide, if_true]
    refine wpAny_bind (wpAny_rule (wpAny_bind ?_))
    exact_raiseError plainExc_ValueError hh (fun h'' tk e hN => hbad rfl _ _ _ _ hs hN)
  | cons p t hw =>
    rename_i vs ws
    have hlp := hl p (by simp)
    cases hp : PySem.intText? p with
    | none =>
      refine wpAny_bind (mp_refused m rfl hp hlp.1 hlp.2 hh fun h₁ h' tk e hs hN => hbad ?_ _ _ _ _ hs.extBut hN)
      unfold pairOf
      split
      · rename_i p' q' e
        injection e with e1 e2
        rw [e1] at hp
        rw [hp]
      · rfl
    | some a =>
      refine wpAny_bind (mp_item m rfl hp hlp.1 fun h₁ tk₁ u₁ m₁ hs₁ => ?_)
      refine wpAny_bind (wpAny_holding ?_)
      show wpAny _ _ (pyNext (.ref R) >>= _) _ _ _
      cases hw with
      | nil =>
        refine wpAny_bind (mp_end m₁ hh rfl fun h' hs => wpAny_pure (wpAny_pure ?_))
        simp only [List.length_cons, List.length_nil, show (0 + 1 : Nat) < 2 from by decide, if_true]
        refine wpAny_bind (wpAny_rule (wpAny_bind ?_))
        exact_raiseError plainExc_ValueError hh (fun h'' tk e hN => hbad rfl _ _ _ _ (hs₁.extBut.trans hs) hN)
      | cons q t₂ hw =>
        rename_i vs ws
        have hlq := hl q (by simp)
        cases hq : PySem.intText? q with
        | none =>
          refine wpAny_bind (mp_refused m₁ rfl hq hlq.1 hlq.2 hh fun h₂ h' tk e hs hN => hbad ?_ _ _ _ _ (hs₁.extBut.trans hs.extBut) hN)
          unfold pairOf
          split
          · rename_i p' q' e
            injection e with e1 e2
            injection e2 with e3 e4
            rw [e3] at hq
            rw [hq]
            split <;> simp_all
          · rfl
        | some b =>
          refine wpAny_bind (mp_item m₁ rfl hq hlq.1 fun h₂ tk₂ u₂ m₂ hs₂ => ?_)
          refine wpAny_bind (wpAny_holding (wpAny_pure (wpAny_pure (wpAny_pure ?_))))
          simp only [List.length_cons, List.length_nil, show ¬ ((0 + 1 + 1 : Nat) < 2) from by decide, if_false]
          refine wpAny_bind (wpAny_holding ?_)
          cases hw with
          | nil =>
            refine mp_end m₂ hh rfl fun h' hs => ?_
            simp only [Option.isSome_none, Bool.false_eq_true, if_false]
            exact wpAny_pure (hok a b h' _ u₁ u₂ (by simp [pairOf, hp, hq]) ((hs₁.extBut.trans hs₂.extBut).trans hs))
          | cons r t₃ hw =>
            have hlr := hl r (by simp)
            cases hr : PySem.intText? r with
            | none => exact mp_refused m₂ rfl hr hlr.1 hlr.2 hh fun h₃ h' tk e hs hN => hbad rfl _ _ _ _ ((hs₁.extBut.trans hs₂.extBut).trans hs.extBut) hN
            | some c =>
              refine mp_item m₂ rfl hr hlr.1 fun h₃ tk₃ u₃ m₃ hs₃ => ?_
              simp only [Option.isSome_some, if_true]
              refine wpAny_bind (wpAny_rule (wpAny_bind ?_))
              exact_raiseError plainExc_ValueError hh (fun h'' tk e hN => hbad rfl _ _ _ _ ((hs₁.extBut.trans hs₂.extBut).trans hs₃.extBut) hN)
end
end Mine
end
section
open PySem PySem.W PyProof.Rows
namespace Mine
section
variable {prog : Program} {w : World} {A : Around} {E : Value → Shared → Prop} {s : Shared} {R T I l : Addr}
theorem mp_assign {env : Env} {elts : List Expr} {k : Nat} {pos : Pos} {vs : List Value} {ws : List Str} {Q : Unit → Shared → Prop} (m : MapAt s.heap R T I l 0 vs.toArray) (hw : StrsAre vs ws) (hl : ∀ x ∈ ws, x.length ≤ 640 ∧ (reprText x).length ≤ sizeLine) (hh : A.handled = none)
    (hn : (assignEach elts env).length = 2) (hstar : (assignEach elts env).findIdx? (·.1) = none)
    (hok : ∀ a b h' tk u1 u2, pairOf ws = some (a, b) → Heap.ExtBut I s.heap h' → wpAny (model prog w) A (assignInOrder ((assignEach elts env).map (·.2)) [.int a u1, .int b u2]) Q E { s with heap := h', toks := tk })
    (hbad : pairOf ws = none → ∀ h₁ h' tk e, Heap.ExtBut I s.heap h₁ → Heap.NewExc h₁ h' e "ValueError" → E (.ref e) { s with heap := h', toks := tk }) :
    wpAny (model prog w) A (assign (.Tuple elts k pos) env (.ref R)) Q E s := by
  rw [arm_assign_Tuple]
  refine wpAny_bind (wpAny_standAt ?_)
  unfold unpack
  rw [hn, hstar]
  exact wpAny_bind (wpAny_holding (mp_unpack m hw hl hh hok hbad))
end
end Mine
end
section
open PySem PySem.W PyProof.Rows
namespace Mine
theorem splitD_head : ∀ {p : List Nat} (r : List Nat), 46 ∉ p → splitD (p ++ 46 :: r) = p :: splitD r
  | [], r, _ => by show splitD (46 :: r) = _; rw [splitD]; simp
  | c :: p, r, h => by
    have h1 : c ≠ 46 := fun e => h (by simp [e])
    have h2 : 46 ∉ p := fun e => h (by simp [e])
    show splitD (c :: (p ++ 46 :: r)) = _
    rw [splitD, splitD_head r h2]
    simp [h1]
theorem splitD_join : ∀ {ps : List Str}, ps ≠ [] → (∀ p ∈ ps, 46 ∉ p.cps.toList) → splitD (Str.join ⟨#[46]⟩ ps).cps.toList = ps.map (·.cps.toList)
  | [], h, _ => absurd rfl h
  | [p], _, h => by
    show splitD p.cps.toList = _
    rw [splitD_free (h p (by simp))]; rfl
  | p :: q :: r, _, h => by
    have ih := splitD_join (ps := q :: r) (by simp) (fun x hx => h x (by simp [hx]))
    have e : (Str.join ⟨#[46]⟩ (p :: q :: r)).cps.toList = p.cps.toList ++ 46 :: (Str.join ⟨#[46]⟩ (q :: r)).cps.toList := by
      show ((p.cps ++ #[46]) ++ (Str.join ⟨#[46]⟩ (q :: r)).cps).toList = _
      simp
    rw [e, splitD_head _ (h p (by simp)), ih]; rfl
theorem mkS_back (x : Str) : mkS x.cps.toList = x := by show (⟨x.cps.toList.toArray⟩ : Str) = x; simp
theorem split_dots (x : Str) : Txt.split x (Str.ofString ".") = (splitD x.cps.toList).map mkS := by
  rw [dot_lit]
  by_cases hx : Txt.split x ⟨#[46]⟩ = []
  · have hj := StrLaws.join_split x ⟨#[46]⟩
    rw [hx] at hj
    have : x = ⟨#[]⟩ := hj.symm
    subst this
    exact absurd hx (by decide +kernel)
  · have := splitD_join hx (StrLaws.split_free x 46)
    rw [StrLaws.join_split] at this
    rw [this, List.map_map]
    conv => lhs; rw [← List.map_id (Txt.split x ⟨#[46]⟩)]
    exact List.map_congr_left fun p _ => (mkS_back p).symm
theorem repr_small {x : Str} (hx : x.length ≤ 10) (hok : ∀ c ∈ x.cps.toList, c < 128) : (reprText x).length ≤ sizeLine := by
  have := StrLaws.reprText_len x (fun c hc => Nat.lt_trans (hok c hc) (by decide))
  have : (102 : Nat) ≤ sizeLine := by decide
  omega
theorem splitD_mem : ∀ {p q : List Nat} {c : Nat}, q ∈ splitD p → c ∈ q → c ∈ p
  | [], q, c, h, hc => by simp [splitD] at h; subst h; simp at hc
  | d :: r, q, c, h, hc => by
    unfold splitD at h
    split at h
    · rcases List.mem_cons.mp h with e | h
      · subst e; simp at hc
      · exact List.mem_cons_of_mem _ (splitD_mem h hc)
    · split at h
      · rename_i e
        exact absurd e (splitD_ne r)
      · rename_i a b e
        rcases List.mem_cons.mp h with e2 | h
        · subst e2
          rcases List.mem_cons.mp hc with rfl | hc
          · simp
          · exact List.mem_cons_of_mem _ (splitD_mem (by rw [e]; simp) hc)
        · exact List.mem_cons_of_mem _ (splitD_mem (by rw [e]; simp [h]) hc)
theorem parts_small {x : Str} (hx : x.length ≤ 10) (hok : ∀ c ∈ x.cps.toList, c < 128) : ∀ y ∈ (splitD x.cps.toList).map mkS, y.length ≤ 640 ∧ (reprText y).length ≤ sizeLine := by
  intro y hy
  obtain ⟨q, hq, rfl⟩ := List.mem_map.mp hy
  have h1 := splitD_len hq
  have h2 : (mkS q).length ≤ 10 := by
    have : (mkS q).length = q.length := by simp [mkS, Str.length]
    have h3 : x.cps.toList.length = x.length := by simp [Str.length]
    omega
  exact ⟨by omega, repr_small h2 fun c hc => hok c (splitD_mem hq (by simpa [mkS] using hc))⟩
end Mine
end
section
open PySem PySem.W PyProof.Rows
namespace Mine
open PySem.Challenge

set_option maxRecDepth 100000 in
set_option maxHeartbeats 8000000 in
theorem glc_spec {w : World} {A₀ : Around} {base h₀ : Heap} {outer : List Env} {L : Addr} {m mg mb : Str → Option Value} {news : List (Addr × Obj)} {s : Shared} {env : Env} {loose : List Str} {mean : ExcName → Option Value} {Q : Value → Shared → Prop} {E : Value → Shared → Prop} {x : Str} {t : Tok}
    (cx : Cx w base A₀ outer h₀ L env loose mean mg mb) (F : Fr h₀ L s.heap m) (N : News h₀ L s.heap news)
    (hx : x.length ≤ 10) (hok : ∀ c ∈ x.cps.toList, c < 128)
    (h : ∀ a b tt u1 u2 h' tk, pairOf ((splitD x.cps.toList).map mkS) = some (a, b) → Fr h₀ L h' m → News h₀ L h' ((tt, tupOf [.int a u1, .int b u2]) :: news) → (∀ p ∈ news, p.1 < tt) → Q (.ref tt) { s with heap := h', toks := tk })
    (hE : pairOf ((splitD x.cps.toList).map mkS) = none → ∀ e g h' tk, Fr h₀ L g m → g.UpToSlots h' → RaisedN base (env :: outer) e (.type "ValueError") news h' → E (.ref e) { s with heap := h', toks := tk }) :
    wpAny (model rw_mj0064_01.row.prog w) (AA 400 60 env outer) (call (.ref 35) [.str x t] []) Q E s := by
  obtain ⟨B, X, T, hf, hke⟩ := cx
  w_on
  revert X
  k_fill
  intro X
  refine wpAny_call ?_
  refine' code_def B F X N T rfl hf hke ?k6 ?k7 ?k8 ?k9 ?kB ?_ ?c2 ?c3 ?c4 ?c5
  (case k6 => k_is); (case k7 => k_is); (case k8 => exact Nat.le_of_ble_eq_true rfl); (case k9 => exact BindsTo.of_eq rfl)
  (case c5 => decide); (case kB => exact locs rfl); (case c2 => exact rfl); (case c3 => exact rfl); (case c4 => exact rfl)
  intro g' L' h' FG' F' N' B' X' T'
  try dsimp only
  try k_fold
  w_strict (repeat' ((fail_if_success (with_reducible show InvEndN _ _ _ _ _ _ _)); (fail_if_success (with_reducible show KswEnd _ _ _ _ _ _ _ _ _ _ _ _)); (fail_if_success (with_reducible show Q _ _)); (fail_if_success (with_reducible show E _ _)); (first | (k_unfold; (try dsimp only)) | (k_end; wrow_close) | ((fail_if_success (with_reducible show wpAny _ _ (call (Value.type "map") _ _) _ _ _)); (fail_if_success (with_reducible show wpAny _ _ (unpackItems _ _ _) _ _ _)); (fail_if_success (with_reducible show wpAny _ _ (leaving _ _) _ _ _)); (fail_if_success (with_reducible show wpAny _ _ (assign (Expr.Tuple _ _ _) _ _) _ _ _)); (first | walk1 | (dsimp only; walk1))) | ((fail_if_success (with_reducible show wpAny _ _ (call (Value.type "map") _ _) _ _ _)); (fail_if_success (with_reducible show wpAny _ _ (unpackItems _ _ _) _ _ _)); (fail_if_success (with_reducible show wpAny _ _ (leaving _ _) _ _ _)); (fail_if_success (with_reducible show wpAny _ _ (assign (Expr.Tuple _ _ _) _ _) _ _ _)); leave1; walk_say "STEP leave1"; try dsimp only) | fail "no step")))
  all_goals (try k_data)
  rename (List.map _ _ = Txt.split _ _) => hsp
  rename (StrsAre _ _) => hst
  rename (Fr g' L' _ _) => F2
  rename (News g' L' _ _) => N2
  rename (Heap.IsList _ _ _) => hLL
  rw [hsp, split_dots] at hst
  refine mp_call hLL ?_
  intro h1 R T2 I M hs hR hT2 hI
  have F3 := F2.keeps hs
  have N3 := N2.keeps hs
  w_strict (repeat' ((fail_if_success (with_reducible show InvEndN _ _ _ _ _ _ _)); (fail_if_success (with_reducible show KswEnd _ _ _ _ _ _ _ _ _ _ _ _)); (fail_if_success (with_reducible show Q _ _)); (fail_if_success (with_reducible show E _ _)); (first | (k_unfold; (try dsimp only)) | (k_end; wrow_close) | ((fail_if_success (with_reducible show wpAny _ _ (call (Value.type "map") _ _) _ _ _)); (fail_if_success (with_reducible show wpAny _ _ (unpackItems _ _ _) _ _ _)); (fail_if_success (with_reducible show wpAny _ _ (leaving _ _) _ _ _)); (fail_if_success (with_reducible show wpAny _ _ (assign (Expr.Tuple _ _ _) _ _) _ _ _)); (first | walk1 | (dsimp only; walk1))) | ((fail_if_success (with_reducible show wpAny _ _ (call (Value.type "map") _ _) _ _ _)); (fail_if_success (with_reducible show wpAny _ _ (unpackItems _ _ _) _ _ _)); (fail_if_success (with_reducible show wpAny _ _ (leaving _ _) _ _ _)); (fail_if_success (with_reducible show wpAny _ _ (assign (Expr.Tuple _ _ _) _ _) _ _ _)); leave1; walk_say "STEP leave1"; try dsimp only) | fail "no step")))
  refine' mp_assign M hst (parts_small hx hok) ?hh ?hn ?hst ?_ ?_
  (case hh => rfl); (case hn => rfl); (case hst => rfl)
  · intro a b h2 tk2 u1 u2 hpair he
    have he2 : Heap.ExtBut I _ h2 := fun b o hne e => he b o hne (hs b o e)
    have F4 := F2.extBut he2 hI
    have N4 := News.tail' (N2.extBut he2 hI)
    clear F2 N2 F3 N3
    w_strict (repeat' ((fail_if_success (with_reducible show InvEndN _ _ _ _ _ _ _)); (fail_if_success (with_reducible show KswEnd _ _ _ _ _ _ _ _ _ _ _ _)); (fail_if_success (with_reducible show Q _ _)); (fail_if_success (with_reducible show E _ _)); (first | (k_unfold; (try dsimp only)) | (k_end; wrow_close) | ((fail_if_success (with_reducible show wpAny _ _ (call (Value.type "map") _ _) _ _ _)); (fail_if_success (with_reducible show wpAny _ _ (unpackItems _ _ _) _ _ _)); (fail_if_success (with_reducible show wpAny _ _ (leaving _ _) _ _ _)); (fail_if_success (with_reducible show wpAny _ _ (assign (Expr.Tuple _ _ _) _ _) _ _ _)); (first | walk1 | (dsimp only; walk1))) | ((fail_if_success (with_reducible show wpAny _ _ (call (Value.type "map") _ _) _ _ _)); (fail_if_success (with_reducible show wpAny _ _ (unpackItems _ _ _) _ _ _)); (fail_if_success (with_reducible show wpAny _ _ (leaving _ _) _ _ _)); (fail_if_success (with_reducible show wpAny _ _ (assign (Expr.Tuple _ _ _) _ _) _ _ _)); leave1; walk_say "STEP leave1"; try dsimp only) | fail "no step")))
    all_goals (try k_data)
    refine' h _ _ _ u1 u2 _ _ hpair ?_ ?_ ?_
    · assumption
    · assumption
    · first | assumption | exact ltOf (by assumption)
  · intro hpair h2 h3 tk3 e he hx3
    have he2 : Heap.ExtBut I _ h2 := fun b o hne e => he b o hne (hs b o e)
    have F4 := F2.extBut he2 hI
    have N4 := News.tail' (N2.extBut he2 hI)
    clear F2 N2 F3 N3
    refine leave_newK B' hx3 F4 N4 ?_
    intro h5 R5 U5
    exact hE hpair _ _ _ _ FG' U5 R5
end Mine
end
section
open PySem PySem.W PyProof.Rows
namespace Mine
open PySem.Challenge

def Alpha (c : Nat) : Prop := c = 10 ∨ NumOK c
def alphaB (c : Nat) : Bool := c == 10 || (c != 0 && decide (c < 128) && !(decide (9 ≤ c) && decide (c ≤ 13)))
theorem alpha_of {c : Nat} (h : alphaB c = true) : Alpha c := by
  unfold alphaB at h
  unfold Alpha NumOK
  simp only [Bool.or_eq_true, beq_iff_eq, Bool.and_eq_true, bne_iff_ne, decide_eq_true_eq, Bool.not_eq_true', Bool.and_eq_false_iff, decide_eq_false_iff_not] at h
  omega
structure TextOK (x : Str) (a b : Nat) : Prop where
  lo : a ≤ x.length
  hi : x.length ≤ b
  ok : ∀ c ∈ x.cps.toList, Alpha c
theorem TextOK.add {x y : Str} {a b c d : Nat} (h : TextOK x a b) (k : TextOK y c d) : TextOK (x ++ y) (a + c) (b + d) := by
  have e : (x ++ y).length = x.length + y.length := by show (x.cps ++ y.cps).size = _; rw [Array.size_append]; rfl
  refine ⟨by rw [e]; exact Nat.add_le_add h.lo k.lo, by rw [e]; exact Nat.add_le_add h.hi k.hi, fun z hz => ?_⟩
  have : z ∈ (x.cps ++ y.cps).toList := hz
  rw [Array.toList_append, List.mem_append] at this
  exact this.elim (h.ok z) (k.ok z)
theorem TextOK.weak {x : Str} {a b c d : Nat} (h : TextOK x a b) (h1 : c ≤ a) (h2 : b ≤ d) : TextOK x c d := ⟨Nat.le_trans h1 h.lo, Nat.le_trans h.hi h2, h.ok⟩
theorem TextOK.of {x : Str} {a b : Nat} (h : (decide (a ≤ x.length) && decide (x.length ≤ b) && x.cps.toList.all alphaB) = true) : TextOK x a b := by
  simp only [Bool.and_eq_true, decide_eq_true_eq, List.all_eq_true] at h
  exact ⟨h.1.1, h.1.2, fun c hc => alpha_of (h.2 c hc)⟩
theorem num100 : ∀ k : Nat, k < 100 → (decide (1 ≤ (Str.ofString (toString (k : Int))).length) && decide ((Str.ofString (toString (k : Int))).length ≤ 2) && (Str.ofString (toString (k : Int))).cps.toList.all alphaB) = true := by decide +kernel
theorem num10 : ∀ k : Nat, k < 10 → (decide (1 ≤ (Str.ofString (toString (k : Int))).length) && decide ((Str.ofString (toString (k : Int))).length ≤ 1) && (Str.ofString (toString (k : Int))).cps.toList.all alphaB) = true := by decide +kernel
theorem text100 (n : Int) : TextOK (Str.ofString (toString (n.fmod 100))) 1 2 := by
  have h0 := Int.fmod_nonneg_of_pos n (b := 100) (by decide)
  have h1 := Int.fmod_lt_of_pos n (b := 100) (by decide)
  have e : n.fmod 100 = ((n.fmod 100).toNat : Int) := by omega
  rw [e]
  exact .of (num100 _ (by omega))
theorem text10 (n : Int) : TextOK (Str.ofString (toString (n.fmod 10))) 1 1 := by
  have h0 := Int.fmod_nonneg_of_pos n (b := 10) (by decide)
  have h1 := Int.fmod_lt_of_pos n (b := 10) (by decide)
  have e : n.fmod 10 = ((n.fmod 10).toNat : Int) := by omega
  rw [e]
  exact .of (num10 _ (by omega))
theorem text_dot : TextOK (Str.ofString ".") 1 1 := .of (by decide +kernel)
theorem signs9 : ∀ k : Nat, k < 9 → (decide (1 ≤ (Txt.item (Str.ofString "..-_ :\nE+") (k : Int)).length) && decide ((Txt.item (Str.ofString "..-_ :\nE+") (k : Int)).length ≤ 1) && (Txt.item (Str.ofString "..-_ :\nE+") (k : Int)).cps.toList.all alphaB) = true := by decide +kernel
theorem text_sign {k : Int} (h0 : 0 ≤ k) (h1 : k < 9) : TextOK (Txt.item (Str.ofString "..-_ :\nE+") k) 1 1 := by
  have e : k = (k.toNat : Int) := by omega
  rw [e]
  exact .of (signs9 _ (by omega))

set_option maxRecDepth 100000 in
set_option maxHeartbeats 8000000 in
theorem text_spec {w : World} {A₀ : Around} {base h₀ : Heap} {outer : List Env} {L : Addr} {m mg mb : Str → Option Value} {news : List (Addr × Obj)} {s : Shared} {env : Env} {loose : List Str} {mean : ExcName → Option Value} {Q : Value → Shared → Prop} {E : Value → Shared → Prop} 
    (cx : Cx w base A₀ outer h₀ L env loose mean mg mb) (F : Fr h₀ L s.heap m) (N : News h₀ L s.heap news)
    {l : Addr} {vs : List Value} {ns : List Int} {nn : Nat} (hm : (l, listOf vs.toArray nn) ∈ news) (hi : IntsAre vs ns) (h1 : 1 ≤ ns.length) (h6 : ns.length ≤ 6)
    (h : ∀ x t h' tk, 3 ≤ x.length → x.length ≤ 10 → (∀ c ∈ x.cps.toList, Alpha c) → Fr h₀ L h' m → News h₀ L h' news → Q (.str x t) { s with heap := h', toks := tk }) :
    wpAny (model rw_mj0064_01.row.prog w) (AA 400 60 env outer) (call (.ref 56) [.ref l] []) Q E s := by
  obtain ⟨B, X, T, hf, hke⟩ := cx
  w_on
  revert X
  k_fill
  intro X
  refine wpAny_call ?_
  refine' code_def B F X N T rfl hf hke ?k6 ?k7 ?k8 ?k9 ?kB ?_ ?c2 ?c3 ?c4 ?c5
  (case k6 => k_is); (case k7 => k_is); (case k8 => exact Nat.le_of_ble_eq_true rfl); (case k9 => exact BindsTo.of_eq rfl)
  (case c5 => decide); (case kB => exact locs rfl); (case c2 => exact rfl); (case c3 => exact rfl); (case c4 => exact rfl)
  intro g' L' h' FG' F' N' B' X' T'
  try dsimp only
  try k_fold
  w_strict (repeat' ((fail_if_success (with_reducible show InvEndN _ _ _ _ _ _ _)); (fail_if_success (with_reducible show KswEnd _ _ _ _ _ _ _ _ _ _ _ _)); (fail_if_success (with_reducible show Q _ _)); (first | (k_unfold; (try dsimp only)) | (k_end; wrow_close) | ((fail_if_success (with_reducible show wpAny _ _ (pyIter _) _ _ _)); (fail_if_success (with_reducible show wpAny _ _ (exec (Stmt.For _ _ _ _ _) _) _ _ _)); (fail_if_success (with_reducible show wpAny _ _ (getItem (Value.ref _) _) _ _ _)); (first | walk1 | (dsimp only; walk1))) | ((fail_if_success (with_reducible show wpAny _ _ (pyIter _) _ _ _)); (fail_if_success (with_reducible show wpAny _ _ (exec (Stmt.For _ _ _ _ _) _) _ _ _)); (fail_if_success (with_reducible show wpAny _ _ (getItem (Value.ref _) _) _ _ _)); leave1; walk_say "STEP leave1"; try dsimp only) | fail "no step")))
  all_goals (try k_data)
  refine item_list_ints_neg (News.isList (by assumption) hm) hi (by decide) (by omega) (by decide) ?_
  intro t2
  w_strict (repeat' ((fail_if_success (with_reducible show InvEndN _ _ _ _ _ _ _)); (fail_if_success (with_reducible show KswEnd _ _ _ _ _ _ _ _ _ _ _ _)); (fail_if_success (with_reducible show Q _ _)); (first | (k_unfold; (try dsimp only)) | (k_end; wrow_close) | ((fail_if_success (with_reducible show wpAny _ _ (pyIter _) _ _ _)); (fail_if_success (with_reducible show wpAny _ _ (exec (Stmt.For _ _ _ _ _) _) _ _ _)); (fail_if_success (with_reducible show wpAny _ _ (getItem (Value.ref _) _) _ _ _)); (first | walk1 | (dsimp only; walk1))) | ((fail_if_success (with_reducible show wpAny _ _ (pyIter _) _ _ _)); (fail_if_success (with_reducible show wpAny _ _ (exec (Stmt.For _ _ _ _ _) _) _ _ _)); (fail_if_success (with_reducible show wpAny _ _ (getItem (Value.ref _) _) _ _ _)); leave1; walk_say "STEP leave1"; try dsimp only) | fail "no step")))
  all_goals (try k_data)
  refine For_invVF (by assumption) rfl rfl ?_
  w_strict (repeat' ((fail_if_success (with_reducible show InvEndN _ _ _ _ _ _ _)); (fail_if_success (with_reducible show KswEnd _ _ _ _ _ _ _ _ _ _ _ _)); (fail_if_success (with_reducible show Q _ _)); (first | (k_unfold; (try dsimp only)) | (k_end; wrow_close) | ((fail_if_success (with_reducible show wpAny _ _ (pyIter _) _ _ _)); (fail_if_success (with_reducible show wpAny _ _ (exec (Stmt.For _ _ _ _ _) _) _ _ _)); (fail_if_success (with_reducible show wpAny _ _ (getItem (Value.ref _) _) _ _ _)); (first | walk1 | (dsimp only; walk1))) | ((fail_if_success (with_reducible show wpAny _ _ (pyIter _) _ _ _)); (fail_if_success (with_reducible show wpAny _ _ (exec (Stmt.For _ _ _ _ _) _) _ _ _)); (fail_if_success (with_reducible show wpAny _ _ (getItem (Value.ref _) _) _ _ _)); leave1; walk_say "STEP leave1"; try dsimp only) | fail "no step")))
  all_goals (try k_data)
  refine' kst_listL (σ := Str × Tok) (fun _ => news) (fun c => [(Str.ofString "text", .str c.1 c.2)]) (fun _ => True) [Str.ofString "text", Str.ofString "kind"] (fun pre c => TextOK c.1 3 (4 + pre.length)) (_, _) rfl (fun _ => hm) hi ?F ?N trivial ?hk ?hp ?turn ?done
  case F => assumption
  case N => assumption
  case hk =>
    refine List.forall_mem_cons.mpr ⟨?_, List.forall_mem_nil _⟩
    exact rfl
  case hp => exact ((text100 _).add text_dot).add (text10 _)
  case done =>
    rintro ⟨x, tx⟩ u h₃ tk₃ _ hP F₃ N₃
    dsimp only at hP F₃
    have hlen := hP.hi
    w_strict (repeat' ((fail_if_success (with_reducible show InvEndN _ _ _ _ _ _ _)); (fail_if_success (with_reducible show KswEnd _ _ _ _ _ _ _ _ _ _ _ _)); (fail_if_success (with_reducible show Q _ _)); (first | (k_unfold; (try dsimp only)) | (k_end; wrow_close) | ((fail_if_success (with_reducible show wpAny _ _ (pyIter _) _ _ _)); (fail_if_success (with_reducible show wpAny _ _ (exec (Stmt.For _ _ _ _ _) _) _ _ _)); (fail_if_success (with_reducible show wpAny _ _ (getItem (Value.ref _) _) _ _ _)); (first | walk1 | (dsimp only; walk1))) | ((fail_if_success (with_reducible show wpAny _ _ (pyIter _) _ _ _)); (fail_if_success (with_reducible show wpAny _ _ (exec (Stmt.For _ _ _ _ _) _) _ _ _)); (fail_if_success (with_reducible show wpAny _ _ (getItem (Value.ref _) _) _ _ _)); leave1; walk_say "STEP leave1"; try dsimp only) | fail "no step")))
    all_goals (try k_data)
    exact h x _ _ _ hP.lo (by omega) hP.ok (by assumption) (by assumption)
  case turn =>
    rintro ⟨x, tx⟩ pre post k tt u h₃ tk₃ own hns hmem hoff _ hP F₃ N₃
    dsimp only at hP F₃
    have hlen : x.length ≤ 10 := by
      have h2 := congrArg List.length hns
      rw [List.length_append, List.length_cons] at h2
      have := hP.hi
      omega
    have h0 := Int.fmod_nonneg_of_pos k (b := 12) (by decide)
    have g0 := Int.fmod_nonneg_of_pos (k.fdiv 12) (b := 10) (by decide)
    have g10 := Int.fmod_lt_of_pos (k.fdiv 12) (b := 10) (by decide)
    have h12 := Int.fmod_lt_of_pos k (b := 12) (by decide)
    w_strict (repeat' ((fail_if_success (with_reducible show InvEndN _ _ _ _ _ _ _)); (fail_if_success (with_reducible show KswEnd _ _ _ _ _ _ _ _ _ _ _ _)); (fail_if_success (with_reducible show Q _ _)); (first | (k_unfold; (try dsimp only)) | (k_end; wrow_close) | ((fail_if_success (with_reducible show wpAny _ _ (pyIter _) _ _ _)); (fail_if_success (with_reducible show wpAny _ _ (exec (Stmt.For _ _ _ _ _) _) _ _ _)); (fail_if_success (with_reducible show wpAny _ _ (getItem (Value.ref _) _) _ _ _)); (first | walk1 | (dsimp only; walk1))) | ((fail_if_success (with_reducible show wpAny _ _ (pyIter _) _ _ _)); (fail_if_success (with_reducible show wpAny _ _ (exec (Stmt.For _ _ _ _ _) _) _ _ _)); (fail_if_success (with_reducible show wpAny _ _ (getItem (Value.ref _) _) _ _ _)); leave1; walk_say "STEP leave1"; try dsimp only) | fail "no step")))
    all_goals (try k_data)
    · skip
      refine' kst_end (x ++ Str.ofString (toString ((k.fdiv 12).fmod 10)), _) ?F ?N ?a ?b rfl trivial ?hk ?c ?pp
      case F => assumption
      case N => assumption
      case a => exact fun p hp => List.mem_append_left _ hp
      case b => exact fun p hp => List.mem_append_right _ hp
      case hk =>
        refine List.forall_mem_cons.mpr ⟨?_, List.forall_mem_nil _⟩
        exact rfl
      case c =>
        intro z h1 h2 h3
        simp only [List.forall_mem_cons, List.not_mem_nil, false_implies, implies_true, and_true, ne_eq] at h2
        have hz : z ≠ Str.ofString "kind" := fun e => by subst e; simp at h3
        simp only [kstB, if_neg h1, if_neg h2, if_neg hz, h3, Bool.false_eq_true, if_false]
      case pp =>
        show TextOK _ _ (4 + (pre ++ [k]).length)
        rw [List.length_append]
        exact (TextOK.add hP (text10 _)).weak (by omega) (by simp only [List.length_cons, List.length_nil]; omega)
    · skip
      refine' kst_end (x ++ Txt.item (Str.ofString "..-_ :\nE+") (k.fmod 12 - 3), _) ?F ?N ?a ?b rfl trivial ?hk ?c ?pp
      case F => assumption
      case N => assumption
      case a => exact fun p hp => List.mem_append_left _ hp
      case b => exact fun p hp => List.mem_append_right _ hp
      case hk =>
        refine List.forall_mem_cons.mpr ⟨?_, List.forall_mem_nil _⟩
        exact rfl
      case c =>
        intro z h1 h2 h3
        simp only [List.forall_mem_cons, List.not_mem_nil, false_implies, implies_true, and_true, ne_eq] at h2
        have hz : z ≠ Str.ofString "kind" := fun e => by subst e; simp at h3
        simp only [kstB, if_neg h1, if_neg h2, if_neg hz, h3, Bool.false_eq_true, if_false]
      case pp =>
        show TextOK _ _ (4 + (pre ++ [k]).length)
        rw [List.length_append]
        exact (TextOK.add hP (text_sign (by omega) (by omega))).weak (by omega) (by simp only [List.length_cons, List.length_nil]; omega)
end Mine
end
section
open PySem PySem.W PyProof.Rows
namespace Mine
def TabJ (ts₀ : TabSt) (stored : List Str) (x : Str) (m₀ : Str → Option Value) (led : List (Addr × Obj)) (m : Str → Option Value) (nx : List (Addr × Obj)) : Prop :=
  ∃ ts, TabOK ts ∧ Grow ts₀ ts led ∧ nx = TL ts ++ led ∧ ∀ z, z ≠ x → stored.contains z = false → m z = m₀ z
section
variable {prog : Program} {w : World} {A : Around} {E : Value → Shared → Prop} {s : Shared} {env : Env} {h₀ : Heap} {x : Str} {body : List Stmt} {Q : Flow → Shared → Prop}
theorem tabJ_fr {stored : List Str} {m₀ m₁ : Str → Option Value} {L : Addr} {h : Heap} {v : Value} (hm : ∀ z, z ≠ x → stored.contains z = false → m₁ z = m₀ z) (F : Fr h₀ L h (fun y => if y = x then some v else m₁ y)) :
    Fr h₀ L h (fun y => if y = x then some v else if stored.contains y then m₁ y else m₀ y) := by
  have e : (fun y => if y = x then some v else m₁ y) = fun y => if y = x then some v else if stored.contains y then m₁ y else m₀ y := by
    funext y
    by_cases h1 : y = x
    · simp only [if_pos h1]
    · simp only [if_neg h1]
      cases h2 : stored.contains y
      · simp only [Bool.false_eq_true, if_false]; exact hm y h1 h2
      · simp only [if_true]
  rwa [e] at F
theorem tabJ_frOut {stored : List Str} {m₀ m₁ : Str → Option Value} {L : Addr} {h : Heap} (hm : ∀ z, z ≠ x → stored.contains z = false → m₁ z = m₀ z) (F : Fr h₀ L h m₁) :
    Fr h₀ L h (fun y => if y = x then m₁ y else if stored.contains y then m₁ y else m₀ y) := by
  have e : m₁ = fun y => if y = x then m₁ y else if stored.contains y then m₁ y else m₀ y := by
    funext y
    by_cases h1 : y = x
    · simp only [if_pos h1]
    · simp only [if_neg h1]
      cases h2 : stored.contains y
      · simp only [Bool.false_eq_true, if_false]; exact hm y h1 h2
      · simp only [if_true]
  rw [e] at F
  exact F
theorem rg_loop {r : Addr} {a₀ b₀ : Int} {t₀ u₀ v₀ : Tok} {n : Nat} {m₀ : Str → Option Value} {ts₀ : TabSt} {led : List (Addr × Obj)} (stored : List Str)
    (hh : A.handled = none) (hr : IsRange s.heap r a₀ b₀ 1 t₀ u₀ v₀) (hsmall : Builtin.Range.small a₀ b₀ 1 = true) (hsz : Builtin.Range.rangeSize a₀ b₀ 1 = (n : Int)) (F : Fr h₀ env.locals s.heap m₀) (N : News h₀ env.locals s.heap (TL ts₀ ++ led)) (hT : TabOK ts₀)
    (turn : ∀ ts (i : Nat) t (u : Str → Option Value) h tk own, i < n → TabOK ts → Grow ts₀ ts led → OwnOff own ((TL ts ++ led).map (·.1)) →
      Fr h₀ env.locals h (fun y => if y = x then some (.int (a₀ + (i : Int)) t) else if stored.contains y then u y else m₀ y) → News h₀ env.locals h (TL ts ++ (led ++ own)) →
      wpAny (model prog w) A (execs body env) (InvPostG h₀ env.locals (TabJ ts₀ stored x m₀ led) own { s with heap := h, toks := tk } Q) E { s with heap := h, toks := tk })
    (done : ∀ ts (u : Str → Option Value) h tk, TabOK ts → Grow ts₀ ts led → Fr h₀ env.locals h (fun y => if y = x then u y else if stored.contains y then u y else m₀ y) → News h₀ env.locals h (TL ts ++ led) → Q .next { s with heap := h, toks := tk }) :
    wpAny (model prog w) A (pyIter (.ref r)) (fun it s₂ => LoopAtV prog w A h₀ env x body Q E it s₂) E s := by
  refine wpAny_pyIter_range hr hsmall ?_
  have W : Walks prog w A s.heap.objs.size [s.heap.objs.size] [s.heap.objs.size] n (fun i v => i < n ∧ ∃ t, v = .int (a₀ + i * 1) t)
      (fun i h => IsRangeIter h s.heap.objs.size (a₀ + (i : Nat) * 1) ((n : Int) - (i : Nat)) 1) := (Walks.range hh _ a₀ 1 n).bound
  refine kdr_loop (fun _ m nx => TabJ ts₀ stored x m₀ led m nx) W (fun _ h => h) (fun _ h => h) ?_ ?_ ?_ ?_ (by show IsRangeIter _ _ _ _ _; rw [hsz]; simpa using Heap.get?_push_size _ rfl) (F.push _) (fun p hp => ⟨Heap.get?_push_of_some _ (N p hp).1, (N p hp).2⟩) ⟨ts₀, hT, Grow.refl _ _, rfl, fun _ _ _ => rfl⟩ ?_ ?_
  · intro i h hi b hb
    rw [List.mem_singleton.mp hb]
    exact ⟨_, hi⟩
  · intro hm
    exact absurd F.ns.lt ((List.mem_singleton.mp hm) ▸ Nat.lt_irrefl _)
  · intro b hb
    rw [List.mem_singleton.mp hb]
    exact next_is_new F
  · intro p hp hI
    exact absurd (Heap.lt_size (N p hp).1) ((List.mem_singleton.mp hI) ▸ Nat.lt_irrefl _)
  · rintro i v m₁ nx h tk own hi ⟨_, t, rfl⟩ hoff ⟨ts, hT, hG, rfl, hm⟩ F₁ N₁
    have e1 : a₀ + (i : Int) * 1 = a₀ + (i : Int) := by omega
    rw [e1] at F₁
    rw [List.append_assoc] at N₁
    exact turn ts i t m₁ h tk own hi hT hG hoff (tabJ_fr hm F₁) N₁
  · rintro m₁ nx h tk ⟨ts, hT, hG, rfl, hm⟩ F₁ N₁
    exact done ts m₁ h tk hT hG (tabJ_frOut hm F₁) N₁
theorem tl_37 (ts : TabSt) : (37 : Addr) ∈ (TL ts).map (·.1) := by cases ts <;> exact .head _
theorem rg_end {stored : List Str} {m₀ m' : Str → Option Value} {led own news' : List (Addr × Obj)} {L : Addr} {ts₀ ts ts' : TabSt} {s₁ : Shared} {h' : Heap} {tk : Nat}
    (F : Fr h₀ L h' m') (N : News h₀ L h' news') (hT : TabOK ts') (hn : ∀ p ∈ TL ts' ++ (led ++ own), p ∈ news') (hoff : OwnOff own ((TL ts ++ led).map (·.1))) (hG : Grow ts ts' (led ++ own)) (hG0 : Grow ts₀ ts led)
    (hm : ∀ z, z ≠ x → stored.contains z = false → m' z = m₀ z) : InvEndG h₀ L (TabJ ts₀ stored x m₀ led) own s₁ { s₁ with heap := h', toks := tk } := by
  refine InvEndG.intro (nx := TL ts' ++ led) F N ⟨ts', hT, hG0.trans (hG.sub fun p hp => List.mem_append_left _ hp), rfl, hm⟩ ?_ (fun p hp => hn p ?_) (fun p hp => hn p (List.mem_append_right _ (List.mem_append_right _ hp)))
  · intro p hp b hb
    rw [List.map_append, List.mem_append] at hb
    rcases hb with hb | hb
    · rcases hG with rfl | hG
      · exact hoff p hp b (by rw [List.map_append]; exact List.mem_append_left _ hb)
      · obtain ⟨q, hq, rfl⟩ := List.mem_map.mp hb
        rcases hG q hq with h37 | hlt
        · rw [h37]; exact hoff p hp 37 (by rw [List.map_append]; exact List.mem_append_left _ (tl_37 ts))
        · exact Nat.ne_of_lt (hlt p (List.mem_append_right _ hp))
    · exact hoff p hp b (by rw [List.map_append]; exact List.mem_append_right _ hb)
  · rcases List.mem_append.mp hp with hp | hp
    · exact List.mem_append_left _ hp
    · exact List.mem_append_right _ (List.mem_append_left _ hp)
end
end Mine
end
section
open PySem PySem.W PyProof.Rows
namespace Mine
open PySem.Challenge
theorem merge_str {M : Model} {A : Around} {h₀ : Heap} {L : Addr} {s : Shared} {m₀ : Str → Option Value} {news : List (Addr × Obj)} {t : Sem Flow} {Q : Flow → Shared → Prop} {E : Value → Shared → Prop} (name : Str) (P : Str → Prop)
    (_ : Fr h₀ L s.heap m₀) (_ : News h₀ L s.heap news)
    (h1 : ∀ Q' : Flow → Shared → Prop, (∀ x tx h tk, P x → Fr h₀ L h (fun y => if y = name then some (.str x tx) else m₀ y) → News h₀ L h news → Q' .next { s with heap := h, toks := tk }) → wpAny M A t Q' E s)
    (h2 : ∀ x tx h tk, P x → Fr h₀ L h (fun y => if y = name then some (.str x tx) else m₀ y) → News h₀ L h news → Q .next { s with heap := h, toks := tk }) : wpAny M A t Q E s := h1 Q h2
/-- what search_reverse gives back for a text x and a limit e -/
def HitAt (w : World) (base : Heap) (x : Str) (e : Nat) (led' : List (Addr × Obj)) (v : Value) : Prop :=
  (v = .none ∧ ∀ u : Nat, u < e → x.cps.toList[u]? ≠ some 46) ∨
  ∃ (k : Nat) (xh : Addr), v = .ref xh ∧ k < e ∧ x.cps.toList[k]? = some 46 ∧ (∀ u : Nat, k < u → u < e → x.cps.toList[u]? ≠ some 46) ∧ HitOK w base led' xh (k : Int) ((k : Int) + 1)
theorem rev_any {w : World} {A₀ : Around} {base h₀ : Heap} {outer : List Env} {L : Addr} {m mg mb : Str → Option Value} {news : List (Addr × Obj)} {s : Shared} {env : Env} {loose : List Str} {mean : ExcName → Option Value} {Q : Value → Shared → Prop} {E : Value → Shared → Prop} {x : Str} {t t2 : Tok} {pr : Addr} {e : Nat} {led : List (Addr × Obj)} {ts : TabSt}
    (cx : Cx w base A₀ outer h₀ L env loose mean mg mb) (F : Fr h₀ L s.heap m) (N : News h₀ L s.heap (TL ts ++ news))
    (hP : ProgOK w base led pr) (hs : ∀ p ∈ led, p ∈ news) (hT : TabOK ts) (C : CodeHd base 41 37) (hne : ∀ p ∈ news, p.1 ≠ 37) (hx : x.length ≤ 10) (hc1 : e ≤ x.length)
    (h : ∀ v led' ts' h' tk, HitAt w base x e led' v → TabOK ts' → Grow ts ts' news → Fr h₀ L h' m → News h₀ L h' (led' ++ (TL ts' ++ news)) → Q v { s with heap := h', toks := tk }) :
    wpAny (model rw_mj0064_01.row.prog w) (AA 400 60 env outer) (call (.ref 28) [.ref pr, .str x t, .int (e : Int) t2] []) Q E s := by
  refine rev_spec cx F N hP hs hT C hne hx (by omega) (by omega) ?_ ?_
  · intro h1 ts' h' tk hT' hG F' N'
    exact h .none [] ts' h' tk (.inl ⟨rfl, fun u hu => h1 u (by omega)⟩) hT' hG F' N'
  · intro k xh led' ts' h' tk hk hd hn hH hT' hG F' N'
    exact h (.ref xh) led' ts' h' tk (.inr ⟨k, xh, rfl, by omega, hd, fun u h1 h2 => hn u h1 (by omega), hH⟩) hT' hG F' N'
end Mine
end
section
open PySem PySem.W PyProof.Rows
namespace Mine
theorem slice_mem {x : Str} {i j : Int} (h : 0 ≤ i ∧ i ≤ j ∧ j ≤ x.length) {c : Nat} (hc : c ∈ (Txt.slice x (some i) (some j)).cps.toList) : c ∈ x.cps.toList := by
  rw [slice_eq h] at hc
  exact List.mem_of_mem_take (List.mem_of_mem_drop (by simpa using hc))
theorem colon_lit : (Str.ofString ":\n").cps.toList = [58, 10] := by decide +kernel
theorem nt_yes {x : Str} {k : Int} (h0 : 0 ≤ k) (h1 : k < (x.length : Int)) (e : (Builtin.Str.occurrences (Str.ofString ":\n") (Txt.item x k) 0 (Str.ofString ":\n").length 1).isEmpty = true) :
    (true = true ↔ (k < (x.length : Int) ∧ x.cps.toList[k.toNat]? ≠ some 58 ∧ x.cps.toList[k.toNat]? ≠ some 10)) := by
  obtain ⟨c, hc, hn⟩ := in_no h0 h1 e
  rw [colon_lit] at hn
  rw [hc]
  refine ⟨fun _ => ⟨h1, fun q => ?_, fun q => ?_⟩, fun _ => rfl⟩
  · cases q; exact hn (by simp)
  · cases q; exact hn (by simp)
theorem nt_no {x : Str} {k : Int} (h0 : 0 ≤ k) (h1 : k < (x.length : Int)) (e : (Builtin.Str.occurrences (Str.ofString ":\n") (Txt.item x k) 0 (Str.ofString ":\n").length 1).isEmpty = false) :
    (false = true ↔ (k < (x.length : Int) ∧ x.cps.toList[k.toNat]? ≠ some 58 ∧ x.cps.toList[k.toNat]? ≠ some 10)) := by
  obtain ⟨c, hc, hn⟩ := in_yes h0 h1 e
  rw [colon_lit] at hn
  rw [hc]
  refine ⟨(fun h => by cases h), fun q => ?_⟩
  simp only [List.mem_cons, List.not_mem_nil, or_false] at hn
  rcases hn with rfl | rfl
  · exact absurd rfl q.2.1
  · exact absurd rfl q.2.2
/-- the path that the first loop finds -/
theorem path_eq {R : Str} {e : Nat} (h1 : e ≤ R.length) (h2 : ∀ v, v < e → R.cps.toList[v]? ≠ some 58 ∧ R.cps.toList[v]? ≠ some 10) (h3 : ¬ ((e : Int) < (R.length : Int) ∧ R.cps.toList[e]? ≠ some 58 ∧ R.cps.toList[e]? ≠ some 10)) :
    pathOf R.cps.toList = R.cps.toList.take e := by
  have hl : R.cps.toList.length = R.length := by simp [Str.length]
  refine pathOf_take _ e h2 (by omega) ?_
  rcases Nat.lt_or_ge e R.length with h | h
  · refine .inr ?_
    by_cases q : R.cps.toList[e]? = some 58
    · exact .inl q
    · by_cases q2 : R.cps.toList[e]? = some 10
      · exact .inr q2
      · exact absurd ⟨by omega, q, q2⟩ h3
  · exact .inl (by omega)
theorem slice_take {R : Str} {e : Nat} (h1 : e ≤ R.length) : Txt.slice R none (some (e : Int)) = mkS (R.cps.toList.take e) := by
  have h0 : Txt.slice R none (some (e : Int)) = Txt.slice R (some 0) (some (e : Int)) := by
    unfold Txt.slice; rfl
  rw [h0, slice_eq ⟨by omega, by omega, by omega⟩]
  simp [mkS]
end Mine
end
section
open PySem PySem.W PyProof.Rows
namespace Mine
theorem splitD_ends (p : List Nat) : splitD p = (splitD p).dropLast ++ [lastPart p] := by
  have h := List.dropLast_concat_getLast (splitD_ne p)
  unfold lastPart
  rw [List.getLastD_eq_getLast?, List.getLast?_eq_some_getLast (splitD_ne p)]
  exact h.symm
theorem pathOf_all : ∀ {cs : List Nat}, (∀ c ∈ cs, c ≠ 58 ∧ c ≠ 10) → pathOf cs = cs
  | [], _ => rfl
  | c :: r, h => by
    have h1 := h c (by simp)
    have ih := pathOf_all (cs := r) fun d hd => h d (by simp [hd])
    unfold pathOf at ih ⊢
    rw [List.takeWhile_cons]
    simp [h1.1, h1.2, ih]
theorem stripF_eq {x : Str} {p : List Nat} (h : pathOf x.cps.toList = p) : stripF x = mkS (lastPart p) := by
  unfold stripF; rw [h, mkS]
theorem take_same {a b : List Nat} {e u : Nat} (h : a.take e = b.take e) (hu : u < e) : a[u]? = b[u]? := by
  have := congrArg (fun l => l[u]?) h
  simpa [List.getElem?_take, hu] using this
theorem take_le {a b : List Nat} {e k : Nat} (h : a.take e = b.take e) (hk : k ≤ e) : a.take k = b.take k := by
  have := congrArg (List.take k) h
  simpa [List.take_take, Nat.min_eq_left hk] using this
theorem peel_split {cs : List Nat} {e k : Nat} (hk : k < e) (hd : cs[k]? = some 46) (hn : ∀ u, k < u → u < e → cs[u]? ≠ some 46) : (splitD (cs.take e)).dropLast = splitD (cs.take k) := by
  rw [cut_at hk hd, splitD_app (no_dot_behind hn), List.dropLast_concat]
theorem peel_end {cs : List Nat} {e : Nat} (hn : ∀ u, u < e → cs[u]? ≠ some 46) : (splitD (cs.take e)).dropLast = [] := by
  have : 46 ∉ cs.take e := fun hm => by
    obtain ⟨v, hv, hc⟩ := mem_take_get hm
    exact hn v hv hc
  rw [splitD_free this]; rfl
theorem mkS_len (p : List Nat) : (mkS p).length = p.length := by show p.toArray.size = _; simp
theorem mkS_list (p : List Nat) : (mkS p).cps.toList = p := by show p.toArray.toList = p; simp
/-- what holds while the texts are peeled -/
structure Peel (R rest : Str) (e₀ e : Nat) (vs : List Value) : Prop where
  le : e ≤ rest.length
  small : rest.length ≤ 10
  same : rest.cps.toList.take e = R.cps.toList.take e
  lee : e ≤ e₀
  peel : ∃ ps : List (List Nat), StrsAre vs (ps.map mkS) ∧ splitD (R.cps.toList.take e₀) = (splitD (R.cps.toList.take e)).dropLast ++ ps.reverse
theorem Peel.cnt {R rest : Str} {e₀ e : Nat} {vs : List Value} (h : Peel R rest e₀ e vs) (h0 : e₀ ≤ 10) : vs.length ≤ 11 := by
  obtain ⟨ps, h1, h2⟩ := h.peel
  have h3 := strs_len h1
  have h4 := congrArg List.length h2
  have h5 := splitD_count (R.cps.toList.take e₀)
  have h6 : (R.cps.toList.take e₀).length ≤ e₀ := by rw [List.length_take]; omega
  rw [List.length_append, List.length_reverse] at h4
  rw [List.length_map] at h3
  omega
theorem peel_start {R : Str} {e : Nat} {t : Tok} (h1 : e ≤ R.length) (h2 : R.length ≤ 10) (hp : pathOf R.cps.toList = R.cps.toList.take e) : Peel R R e e [.str (stripF R) t] := by
  refine ⟨h1, h2, rfl, Nat.le_refl _, [lastPart (R.cps.toList.take e)], ?_, ?_⟩
  · rw [stripF_eq hp]; exact .cons _ _ .nil
  · exact splitD_ends _
theorem peel_turn {R rest : Str} {e₀ e k : Nat} {vs : List Value} (h : Peel R rest e₀ e vs) (he : e₀ ≤ R.length) (hR : ∀ v, v < e₀ → R.cps.toList[v]? ≠ some 58 ∧ R.cps.toList[v]? ≠ some 10)
    (hk : k < e) (hd : rest.cps.toList[k]? = some 46) (hn : ∀ u, k < u → u < e → rest.cps.toList[u]? ≠ some 46) :
    Txt.slice rest none (some (k : Int)) = mkS (R.cps.toList.take k) ∧ (mkS (R.cps.toList.take k)).length = k ∧ ∀ t, Peel R (mkS (R.cps.toList.take k)) e₀ k (vs ++ [.str (stripF (mkS (R.cps.toList.take k))) t]) := by
  have hl := h.le
  have hke : k ≤ e := Nat.le_of_lt hk
  have hee := h.lee
  have hRl : R.cps.toList.length = R.length := by simp [Str.length]
  have hsame := take_le h.same hke
  have hlen : (mkS (R.cps.toList.take k)).length = k := by rw [mkS_len, List.length_take]; omega
  have hsm := h.small
  refine ⟨by rw [slice_take (by omega), hsame], hlen, fun t => ⟨by omega, by omega, ?_, by omega, ?_⟩⟩
  · rw [mkS_list, List.take_take, Nat.min_self]
  · obtain ⟨ps, h1, h2⟩ := h.peel
    refine ⟨ps ++ [lastPart (R.cps.toList.take k)], ?_, ?_⟩
    · rw [List.map_append]
      refine h1.append' ?_
      have : pathOf (mkS (R.cps.toList.take k)).cps.toList = R.cps.toList.take k := by
        rw [mkS_list]
        refine pathOf_all fun c hc => ?_
        obtain ⟨v, hv, hcv⟩ := mem_take_get hc
        have := hR v (by omega)
        rw [hcv] at this
        exact ⟨fun q => this.1 (by rw [q]), fun q => this.2 (by rw [q])⟩
      rw [stripF_eq this]
      exact .cons _ _ .nil
    · have h3 : (splitD (R.cps.toList.take e)).dropLast = splitD (R.cps.toList.take k) :=
        peel_split hk (by rw [← take_same h.same hk]; exact hd) (fun u h4 h5 => by rw [← take_same h.same h5]; exact hn u h4 h5)
      rw [h2, h3, List.reverse_append]
      conv => lhs; rw [splitD_ends (R.cps.toList.take k)]
      simp
theorem peel_done {R rest : Str} {e₀ e : Nat} {vs : List Value} (h : Peel R rest e₀ e vs) (hn : ∀ u, u < e → rest.cps.toList[u]? ≠ some 46) :
    StrsAre vs.reverse ((splitD (R.cps.toList.take e₀)).map mkS) := by
  obtain ⟨ps, h1, h2⟩ := h.peel
  rw [h2, peel_end (fun u hu => by rw [← take_same h.same hu]; exact hn u hu), List.nil_append, List.map_reverse]
  clear h2 hn h
  generalize ps.map mkS = ws at h1
  induction h1 with
  | nil => exact .nil
  | cons w t _ ih => rw [List.reverse_cons, List.reverse_cons]; exact ih.append' (.cons _ _ .nil)
end Mine
end
section
open PySem PySem.W PyProof.Rows
namespace Mine
open PySem.Challenge
structure PeelSt where
  rest : Str
  tr : Tok
  e : Nat
  te : Tok
  v : Value
  ledh : List (Addr × Obj)
  ts : TabSt
  vs : List Value
  n : Nat
def PeelSt.led (lp : Addr) (news : List (Addr × Obj)) (c : PeelSt) : List (Addr × Obj) := c.ledh ++ (TL c.ts ++ ((lp, listOf c.vs.toArray c.n) :: news))
def PeelSt.ps (c : PeelSt) : List (Str × Value) := [(Str.ofString "rest", .str c.rest c.tr), (Str.ofString "edge", .int (c.e : Int) c.te), (Str.ofString "hit", c.v)]
structure PeelSt.ok (w : World) (base : Heap) (R : Str) (e₀ : Nat) (ts₀ : TabSt) (lp : Addr) (news : List (Addr × Obj)) (c : PeelSt) : Prop where
  hit : HitAt w base c.rest c.e c.ledh c.v
  tok : TabOK c.ts
  grow : Grow ts₀ c.ts news
  apart : ∀ p ∈ TL c.ts ++ news, p.1 ≠ lp
  peel : Peel R c.rest e₀ c.e c.vs
theorem ne37 {own l : List (Addr × Obj)} {ts : TabSt} (h : OwnOff own ((TL ts ++ l).map (·.1))) : ∀ p ∈ own, p.1 ≠ 37 := fun p hp => h p hp 37 (by rw [List.map_append]; exact List.mem_append_left _ (tl_37 ts))
theorem ne37_all {own own2 led : List (Addr × Obj)} {ts ts' : TabSt} {l l' : List (Addr × Obj)} {ob : Obj} (h1 : ∀ p ∈ led, p.1 ≠ 37) (h2 : OwnOff own ((TL ts ++ l).map (·.1))) (h3 : OwnOff own2 ((TL ts' ++ l').map (·.1))) : ∀ p ∈ (((44 : Addr), ob) :: led) ++ own ++ own2, p.1 ≠ 37 := fun p hp => by
  rcases List.mem_append.mp hp with hp | hp
  · rcases List.mem_append.mp hp with hp | hp
    · rcases List.mem_cons.mp hp with rfl | hp
      · exact (by decide : (44 : Nat) ≠ 37)
      · exact h1 p hp
    · exact ne37 h2 p hp
  · exact ne37 h3 p hp
theorem lp_ne {ts : TabSt} {news : List (Addr × Obj)} {lp : Addr} (h : ∀ p ∈ TL ts ++ news, p.1 ≠ lp) : lp ≠ 37 := by
  obtain ⟨q, hq, e⟩ := List.mem_map.mp (tl_37 ts)
  rw [← e]
  exact Ne.symm (h q (List.mem_append_left _ hq))
theorem lp_grow {ts ts' : TabSt} {news : List (Addr × Obj)} {lp : Addr} {ob : Obj} (h : ∀ p ∈ TL ts ++ news, p.1 ≠ lp) (g : Grow ts ts' ((lp, ob) :: news)) : ∀ p ∈ TL ts' ++ news, p.1 ≠ lp := fun p hp => by
  rcases List.mem_append.mp hp with hp | hp
  · rcases g with rfl | g
    · exact h p (List.mem_append_left _ hp)
    · rcases g p hp with e | hlt
      · rw [e]; exact Ne.symm (lp_ne h)
      · exact Nat.ne_of_gt (hlt _ (.head _))
  · exact h p (List.mem_append_right _ hp)
theorem sw_in {h₀ h : Heap} {L : Addr} {a : Addr × Obj} {l1 l2 : List (Addr × Obj)} (N : News h₀ L h (a :: (l1 ++ l2))) : News h₀ L h (l1 ++ a :: l2) := news_sub N fun p hp => by
  simp only [List.mem_append, List.mem_cons] at hp ⊢
  rcases hp with h | h | h <;> simp only [h, true_or, or_true]
theorem sw_out {h₀ h : Heap} {L : Addr} {a : Addr × Obj} {l0 l1 l2 : List (Addr × Obj)} (N : News h₀ L h (l0 ++ (l1 ++ a :: l2))) : News h₀ L h (a :: (l1 ++ l2)) := news_sub N fun p hp => by
  simp only [List.mem_append, List.mem_cons] at hp ⊢
  rcases hp with h | h | h <;> simp only [h, true_or, or_true]
end Mine
end
section
open PySem PySem.W PyProof.Rows PySem.Calls PyProof.V PySem.Spec
set_option maxRecDepth 100000
namespace Mine
theorem st_canLayAll0 : ∀ ns : List Str, (∀ x ∈ ns, PyData.strOk x = true) → PyData.canLayAll0 (ns.map PyData.str) = true
  | [], _ => rfl
  | a :: r, h => by simp [PyData.canLayAll0, PyData.canLay0, st_canLayAll0 r (fun x hx => h x (by simp [hx])), h a (by simp)]
theorem st_depthAll : ∀ ns : List Str, PyData.depthAll (ns.map PyData.str) = 0
  | [] => rfl
  | _ :: r => by simp [PyData.depthAll, PyData.depth, st_depthAll r]
theorem st_shaped {ns : List Str} (hns : ∀ x ∈ ns, PyData.strOk x = true) : SeqAt.shaped (.list (ns.map PyData.str)) = true := by
  simp [SeqAt.shaped, PyData.canLay0, PyData.depth, st_canLayAll0 ns hns, st_depthAll]
theorem st_sameAll : ∀ ns : List Str, PySem.Spec.sameAll (ns.map PyData.str) (ns.map PyData.str) = true
  | [] => by simp [PySem.Spec.sameAll]
  | a :: r => by
    simp only [List.map_cons, PySem.Spec.sameAll, PySem.Spec.same, st_sameAll r]
    simp
theorem st_same (ns : List Str) : PySem.Spec.same (.list (ns.map PyData.str)) (.list (ns.map PyData.str)) = true := by
  simp only [PySem.Spec.same]; exact st_sameAll ns
theorem st_carried : ∀ {vs : List Value} {ns : List Str}, StrsAre vs ns → CarriedAll vs (ns.map PyData.str)
  | _, _, .nil => .nil
  | _, _, .cons _ t r => .cons (.str _ t) (st_carried r)
section
variable {prog : Program} {w : World} {A : Around} {E : Value → Shared → Prop} {s : Shared} {a b : Addr} {xs ys : List Value} {ns : List Str} {Q : Value → Shared → Prop}
theorem st_ne (ha : s.heap.IsList a xs.toArray) (hb : s.heap.IsList b ys.toArray) (hi : StrsAre xs ns) (hj : StrsAre ys ns) (hns : ∀ x ∈ ns, PyData.strOk x = true) (hu : A.units + 64 < cLine) (h : Q (.bool false) s) :
    wpAny (model prog w) A (compareOp .NotEq (.ref a) (.ref b)) Q E s :=
  ne_dataH_same (reads_newData ha (st_carried hi)) (reads_newData hb (st_carried hj)) (st_shaped hns) (st_shaped hns) hu (SeqAt.noMix_of_shape (.list .str) rfl _ _ (list_map_has fun _ => rfl) (list_map_has fun _ => rfl)) (by rw [st_same]; exact h)
end
end Mine
end
section
open PySem PySem.W PyProof.Rows
namespace Mine
theorem two_or {wq : List Value} {cs : List Nat} (h : StrsAre wq ((splitD cs).map mkS)) :
    (∃ p q t1 t2, splitD cs = [p, q] ∧ wq = [.str (mkS p) t1, .str (mkS q) t2]) ∨ (wq.length ≠ 2 ∧ pairOf ((splitD cs).map mkS) = none) := by
  generalize splitD cs = l at h
  match l, h with
  | [], .nil => exact .inr ⟨by decide, rfl⟩
  | [p], .cons _ _ .nil => exact .inr ⟨by simp, rfl⟩
  | [p, q], .cons _ t1 (.cons _ t2 .nil) => exact .inl ⟨p, q, t1, t2, rfl, rfl⟩
  | p :: q :: r :: z, .cons _ _ (.cons _ _ (.cons _ _ h)) => exact .inr ⟨by simp, rfl⟩
def ToldV (pr : Option (Int × Int)) (v : Value) (ledt : List (Addr × Obj)) : Prop :=
  (pr = none ∧ v = .none ∧ ledt = []) ∨ ∃ a b tw ta tb, pr = some (a, b) ∧ v = .ref tw ∧ ledt = [(tw, tupOf [.int a ta, .int b tb])]
theorem fr_eq {h₀ h : Heap} {L : Addr} {m m' : Str → Option Value} (F : Fr h₀ L h m) (e : ∀ y, m y = m' y) : Fr h₀ L h m' := by
  have : m = m' := funext e
  exact this ▸ F
theorem merge_told {M : Model} {A : Around} {h₀ : Heap} {L : Addr} {s : Shared} {m₀ : Str → Option Value} {news : List (Addr × Obj)} {t : Sem Flow} {Q : Flow → Shared → Prop} {E : Value → Shared → Prop} (pr : Option (Int × Int))
    (_ : Fr h₀ L s.heap m₀) (_ : News h₀ L s.heap news)
    (h1 : ∀ Q' : Flow → Shared → Prop, (∀ v ledt u h tk, ToldV pr v ledt → Fr h₀ L h (fun y => if y = Str.ofString "told" then some v else if y = Str.ofString "worths" then u else m₀ y) → News h₀ L h (ledt ++ news) → Q' .next { s with heap := h, toks := tk }) → wpAny M A t Q' E s)
    (h2 : ∀ v ledt u h tk, ToldV pr v ledt → Fr h₀ L h (fun y => if y = Str.ofString "told" then some v else if y = Str.ofString "worths" then u else m₀ y) → News h₀ L h (ledt ++ news) → Q .next { s with heap := h, toks := tk }) : wpAny M A t Q E s := h1 Q h2
theorem told_keep {h₀ h : Heap} {L : Addr} {m₀ : Str → Option Value} (F : Fr h₀ L h m₀) (ht : m₀ (Str.ofString "told") = some .none) :
    Fr h₀ L h (fun y => if y = Str.ofString "told" then some .none else if y = Str.ofString "worths" then m₀ (Str.ofString "worths") else m₀ y) := fr_eq F fun y => by
  by_cases h1 : y = Str.ofString "told"
  · simp only [if_pos h1]; rw [h1]; exact ht
  · by_cases h2 : y = Str.ofString "worths"
    · simp only [if_neg h1, if_pos h2]; rw [h2]
    · simp only [if_neg h1, if_neg h2]
theorem told_worths {h₀ h : Heap} {L : Addr} {m₀ : Str → Option Value} {v : Value} (F : Fr h₀ L h (fun y => if y = Str.ofString "worths" then some v else m₀ y)) (ht : m₀ (Str.ofString "told") = some .none) :
    Fr h₀ L h (fun y => if y = Str.ofString "told" then some .none else if y = Str.ofString "worths" then some v else m₀ y) := fr_eq F fun y => by
  by_cases h1 : y = Str.ofString "told"
  · have h2 : y ≠ Str.ofString "worths" := by rw [h1]; decide +kernel
    simp only [if_pos h1, if_neg h2]; rw [h1]; exact ht
  · simp only [if_neg h1]
end Mine
end
section
open PySem PySem.W PyProof.Rows PySem.Calls PyProof.V PySem.Spec
set_option maxRecDepth 100000
namespace Mine
section
variable {prog : Program} {w : World} {A : Around} {E : Value → Shared → Prop} {s : Shared} {t t' : Addr} {v1 v2 : Value} {a b : Int} {Q : Value → Shared → Prop}
theorem tup_reads {h : Heap} {ds : List PyData} {vs : List Value} (ht : h.get? t = some (tupOf vs)) (hv : ReadsAll h vs ds []) : Reads h (.ref t) (.tuple ds) [] :=
  .tuple (vs := vs.toArray) ht rfl rfl hv
theorem rd2 {h : Heap} {d1 d2 : PyData} (h1 : Reads h v1 d1 []) (h2 : Reads h v2 d2 []) : ReadsAll h [v1, v2] [d1, d2] [] :=
  .cons (as := []) (bs := []) h1 (.cons (as := []) (bs := []) h2 .nil)
theorem nn_ii {u1 u2 : Tok} (ht : s.heap.get? t = some (tupOf [.int a u1, .int b u2])) (hu : A.units + 64 < cLine) (h : Q (.bool true) s) :
    wpAny (model prog w) A (compareOp .NotIn .none (.ref t)) Q E s := by
  refine SeqAt.notIn_tuple_reads (tup_reads ht (rd2 (.int _ _) (.int _ _))) .none ?_ ?_ ?_ ?_
  · simp [PyData.canLayAll0, PyData.canLay0]
  · simp [PyData.canLay0]
  · simp [PyData.depthAll, PyData.depth]; omega
  · simpa [PyData.eqv] using h
theorem nn_n {d1 d2 : PyData} (ht : s.heap.get? t = some (tupOf [v1, v2])) (h1 : v1 = .none ∧ d1 = .none ∨ ∃ i u, v1 = .int i u ∧ d1 = .int i) (h2 : v2 = .none ∧ d2 = .none ∨ ∃ i u, v2 = .int i u ∧ d2 = .int i) (hn : v1 = .none ∨ v2 = .none) (hu : A.units + 64 < cLine) (h : Q (.bool false) s) :
    wpAny (model prog w) A (compareOp .NotIn .none (.ref t)) Q E s := by
  have r1 : Reads s.heap v1 d1 [] := by rcases h1 with ⟨rfl, rfl⟩ | ⟨i, u, rfl, rfl⟩; exact .none; exact .int _ _
  have r2 : Reads s.heap v2 d2 [] := by rcases h2 with ⟨rfl, rfl⟩ | ⟨i, u, rfl, rfl⟩; exact .none; exact .int _ _
  refine SeqAt.notIn_tuple_reads (tup_reads ht (rd2 r1 r2)) .none ?_ ?_ ?_ ?_
  · rcases h1 with ⟨rfl, rfl⟩ | ⟨i, u, rfl, rfl⟩ <;> rcases h2 with ⟨rfl, rfl⟩ | ⟨i', u', rfl, rfl⟩ <;> simp [PyData.canLayAll0, PyData.canLay0]
  · simp [PyData.canLay0]
  · simp [PyData.depth]; omega
  · rcases h1 with ⟨rfl, rfl⟩ | ⟨i, u, rfl, rfl⟩ <;> rcases h2 with ⟨rfl, rfl⟩ | ⟨i', u', rfl, rfl⟩
    · simpa [PyData.eqv] using h
    · simpa [PyData.eqv] using h
    · simpa [PyData.eqv] using h
    · simp at hn
theorem tup_ne {u1 u2 u3 u4 : Tok} (ht : s.heap.get? t = some (tupOf [.int a u1, .int b u2])) (ht' : s.heap.get? t' = some (tupOf [.int a u3, .int b u4])) (hu : A.units + 64 < cLine) (h : Q (.bool false) s) :
    wpAny (model prog w) A (compareOp .NotEq (.ref t) (.ref t')) Q E s := by
  refine ne_dataH_same (tup_reads ht (rd2 (.int _ _) (.int _ _))) (tup_reads ht' (rd2 (.int _ _) (.int _ _))) ?_ ?_ hu ?_ ?_
  · simp [SeqAt.shaped, PyData.canLay0, PyData.canLayAll0, PyData.depth, PyData.depthAll]
  · simp [SeqAt.shaped, PyData.canLay0, PyData.canLayAll0, PyData.depth, PyData.depthAll]
  · simp [SeqAt.noMix, SeqAt.noMixAll]
  · simpa [PySem.Spec.same, PySem.Spec.sameAll] using h
end
end Mine
end
section
open PySem PySem.W PyProof.Rows
namespace Mine
theorem part_num {R : Str} {e : Nat} {q : List Nat} (hal : ∀ c ∈ R.cps.toList, Alpha c) (he1 : e ≤ R.length) (hl : R.length ≤ 10) (he2 : ∀ v, v < e → R.cps.toList[v]? ≠ some 58 ∧ R.cps.toList[v]? ≠ some 10) (hq : q ∈ splitD (R.cps.toList.take e)) :
    (mkS q).length ≤ 10 ∧ ∀ c ∈ (mkS q).cps.toList, NumOK c := by
  constructor
  · have := splitD_len hq
    rw [mkS_len]
    rw [List.length_take] at this
    omega
  · intro c hc
    rw [mkS_list] at hc
    have hc2 := splitD_mem hq hc
    obtain ⟨v, hv, hcv⟩ := mem_take_get hc2
    rcases hal c (List.mem_of_mem_take hc2) with rfl | h
    · exact absurd hcv (he2 v hv).2
    · exact h
theorem path_low {R : Str} {e : Nat} (hal : ∀ c ∈ R.cps.toList, Alpha c) : ∀ c ∈ (mkS (R.cps.toList.take e)).cps.toList, c < 128 := fun c hc => by
  rw [mkS_list] at hc
  rcases hal c (List.mem_of_mem_take hc) with rfl | h
  · decide
  · exact h.2.1
theorem num_or {v : Value} {x : Str} {t : Tok} (h : v = (match PySem.intText? x with | some n => Value.int n t | none => .none)) : (∃ a, v = .int a t ∧ PySem.intText? x = some a) ∨ (v = .none ∧ PySem.intText? x = none) := by
  cases hx : PySem.intText? x with
  | none => rw [hx] at h; exact .inr ⟨h, rfl⟩
  | some a => rw [hx] at h; exact .inl ⟨a, h, rfl⟩
theorem pair_ii {p q : List Nat} {a b : Int} {cs : List Nat} (hpq : splitD cs = [p, q]) (h1 : PySem.intText? (mkS p) = some a) (h2 : PySem.intText? (mkS q) = some b) : pairOf ((splitD cs).map mkS) = some (a, b) := by
  rw [hpq]; simp [pairOf, h1, h2]
theorem pair_no {p q : List Nat} {cs : List Nat} (hpq : splitD cs = [p, q]) (h : PySem.intText? (mkS p) = none ∨ PySem.intText? (mkS q) = none) : pairOf ((splitD cs).map mkS) = none := by
  rw [hpq]
  rcases h with h | h
  · simp [pairOf, h]
  · cases h1 : PySem.intText? (mkS p) <;> simp [pairOf, h, h1]
theorem wlen {vs : List Value} {cs : List Nat} {n : Nat} (h : StrsAre vs ((splitD cs).map mkS)) (hc : cs.length ≤ n) : vs.length ≤ n + 1 := by
  have h1 := strs_len h
  have h2 := splitD_count cs
  rw [List.length_map] at h1
  omega
end Mine
end
section
open PySem PySem.W PyProof.Rows
namespace Mine
theorem off9 {z : Str} (h : [Str.ofString "rest", Str.ofString "edge", Str.ofString "path", Str.ofString "peeled", Str.ofString "hit", Str.ofString "parts", Str.ofString "told", Str.ofString "worths", Str.ofString "answer"].contains z = false) :
    z ≠ Str.ofString "rest" ∧ z ≠ Str.ofString "edge" ∧ z ≠ Str.ofString "path" ∧ z ≠ Str.ofString "peeled" ∧ z ≠ Str.ofString "hit" ∧ z ≠ Str.ofString "parts" ∧ z ≠ Str.ofString "told" ∧ z ≠ Str.ofString "worths" ∧ z ≠ Str.ofString "answer" ∧
    [Str.ofString "rest", Str.ofString "edge", Str.ofString "hit"].contains z = false ∧ [Str.ofString "edge"].contains z = false := by
  simp only [List.contains_cons, List.contains_nil, Bool.or_false, Bool.or_eq_false_iff, beq_eq_false_iff_ne] at h ⊢
  obtain ⟨h1, h2, h3, h4, h5, h6, h7, h8, h9⟩ := h
  exact ⟨h1, h2, h3, h4, h5, h6, h7, h8, h9, ⟨h1, h2, h5⟩, h2⟩
end Mine
end
section
open PySem PySem.W PyProof.Rows
namespace Mine
open PySem.Challenge

theorem sw_two {a b : Addr × Obj} : ∀ p ∈ [a, b], p ∈ [b, a] := fun p hp => by simp only [List.mem_cons, List.not_mem_nil, or_false] at hp ⊢; exact hp.symm
theorem ne_3744 : ∀ p ∈ [((37 : Addr), tabObj #[])], p.1 ≠ 44 := fun p hp => by rw [List.mem_singleton.mp hp]; decide
theorem sw_app {a b : Addr × Obj} {l : List (Addr × Obj)} : ∀ p ∈ a :: b :: l, p ∈ l ++ [b, a] := fun p hp => by simp only [List.mem_cons, List.mem_append, List.not_mem_nil, or_false] at hp ⊢; rcases hp with h | h | h <;> simp only [h, true_or, or_true]
theorem addrOf {l : List (Addr × Obj)} {a : Addr} (h : ∀ p ∈ l, p.1 < a) : ∃ lp, lp = a ∧ ∀ p ∈ l, p.1 ≠ lp := ⟨a, rfl, fun p hp => Nat.ne_of_lt (h p hp)⟩
theorem told_two (m₀ : Str → Option Value) (v : Value) : ∀ y, (if y = Str.ofString "told" then some v else if y = Str.ofString "worths" then some v else if y = Str.ofString "told" then some .none else m₀ y) = (if y = Str.ofString "told" then some v else if y = Str.ofString "worths" then some v else if y = Str.ofString "told" then some .none else m₀ y) := fun _ => rfl
theorem end_mem {ledh l l' own news : List (Addr × Obj)} {a : Addr × Obj} (hn : l' ++ own = news) : ∀ p ∈ l ++ (l' ++ own), p ∈ ledh ++ (l ++ a :: news) := fun p hp => by
  subst hn
  rcases List.mem_append.mp hp with h | h
  · exact List.mem_append_right _ (List.mem_append_left _ h)
  · exact List.mem_append_right _ (List.mem_append_right _ (.tail _ h))
theorem off10 {z : Str} (h : ([Str.ofString "rest", Str.ofString "edge", Str.ofString "path", Str.ofString "peeled", Str.ofString "hit", Str.ofString "parts", Str.ofString "told", Str.ofString "worths", Str.ofString "answer", Str.ofString "end"]).contains z = false) : z ≠ Str.ofString "end" ∧ ([Str.ofString "rest", Str.ofString "edge", Str.ofString "path", Str.ofString "peeled", Str.ofString "hit", Str.ofString "parts", Str.ofString "told", Str.ofString "worths", Str.ofString "answer"]).contains z = false := by
  simp only [List.contains_cons, List.contains_nil, Bool.or_false, Bool.or_eq_false_iff, beq_eq_false_iff_ne] at h ⊢
  obtain ⟨h1, h2, h3, h4, h5, h6, h7, h8, h9, h10⟩ := h
  exact ⟨h10, h1, h2, h3, h4, h5, h6, h7, h8, h9⟩
theorem alpha_lt {c : Nat} (h : Alpha c) : c < 128 := by rcases h with rfl | h; decide; exact h.2.1
theorem strOk_parts {R : Str} {e : Nat} (h : ∀ c ∈ R.cps.toList, Alpha c) : ∀ y ∈ (splitD (R.cps.toList.take e)).map mkS, PyData.strOk y = true := fun y hy => by
  obtain ⟨q, hq, rfl⟩ := List.mem_map.mp hy
  show (mkS q).cps.all _ = true
  rw [Array.all_eq_true']
  intro c hc
  have : c ∈ R.cps.toList := List.mem_of_mem_take (splitD_mem hq (by rw [← mkS_list q]; exact Array.mem_toList_iff.mpr hc))
  have := alpha_lt (h c this)
  exact decide_eq_true (by omega)
theorem tl_grown {h₀ h : Heap} {L : Addr} {ts : TabSt} {l : List (Addr × Obj)} (N : News h₀ L h (TL ts ++ l)) : GrownAt 37 h := by
  cases ts with
  | empty => exact GrownAt.of N (.head _)
  | full k1 k2 o1 o2 => exact GrownAt.of N (.head _)
set_option maxRecDepth 100000 in
set_option maxHeartbeats 8000000 in
theorem law_holds : PySem.Challenge.rw_mj0064_01.Holds := Mine.hd (by
  w_strict k_go0
  (all_goals try k_fold)
  rename Shared => S1
  rename World => wW
  w_strict (repeat' ((fail_if_success (with_reducible show InvEndN _ _ _ _ _ _ _)); (fail_if_success (with_reducible show KswEnd _ _ _ _ _ _ _ _ _ _ _ _)); (fail_if_success (with_reducible show InvEndG _ _ _ _ _ _)); (first | (k_unfold; (try dsimp only)) | (k_end; wrow_close) | ((fail_if_success (with_reducible show wpAny _ _ (exec (Stmt.Assign _ _ _) _) _ _ _)); (first | walk1 | (dsimp only; walk1))) | ((fail_if_success (with_reducible show wpAny _ _ (exec (Stmt.Assign _ _ _) _) _ _ _)); leave1; walk_say "STEP leave1"; try dsimp only) | fail "no step")))
  all_goals (try k_data)
  refine' merge_str (Str.ofString "text") (fun x => 3 ≤ x.length ∧ x.length ≤ 10 ∧ ∀ c ∈ x.cps.toList, Alpha c) ?F ?N ?first ?rest
  case F => assumption
  case N => assumption
  case first =>
    intro Q' hQ'
    w_strict (repeat' ((fail_if_success (with_reducible show InvEndN _ _ _ _ _ _ _)); (fail_if_success (with_reducible show KswEnd _ _ _ _ _ _ _ _ _ _ _ _)); (fail_if_success (with_reducible show InvEndG _ _ _ _ _ _)); (fail_if_success (with_reducible show Q' _ _)); (first | (k_unfold; (try dsimp only)) | (k_end; wrow_close) | ((fail_if_success (with_reducible show wpAny _ _ (pyIter _) _ _ _)); (fail_if_success (with_reducible show wpAny _ _ (exec (Stmt.For _ _ _ _ _) _) _ _ _)); (fail_if_success (with_reducible show wpAny _ _ (exec (Stmt.While _ _ _ _) _) _ _ _)); (fail_if_success (with_reducible show wpAny _ _ (call (Value.ref 21) _ _) _ _ _)); (fail_if_success (with_reducible show wpAny _ _ (call (Value.ref 28) _ _) _ _ _)); (fail_if_success (with_reducible show wpAny _ _ (call (Value.ref 35) _ _) _ _ _)); (fail_if_success (with_reducible show wpAny _ _ (call (Value.ref 42) _ _) _ _ _)); (fail_if_success (with_reducible show wpAny _ _ (call (Value.ref 49) _ _) _ _ _)); (fail_if_success (with_reducible show wpAny _ _ (call (Value.ref 56) _ _) _ _ _)); (fail_if_success (with_reducible show wpAny _ _ (call (Value.ref 63) _ _) _ _ _)); (fail_if_success (with_reducible show wpAny _ _ (call (Value.ref 70) _ _) _ _ _)); (first | walk1 | (dsimp only; walk1))) | ((fail_if_success (with_reducible show wpAny _ _ (pyIter _) _ _ _)); (fail_if_success (with_reducible show wpAny _ _ (exec (Stmt.For _ _ _ _ _) _) _ _ _)); (fail_if_success (with_reducible show wpAny _ _ (exec (Stmt.While _ _ _ _) _) _ _ _)); (fail_if_success (with_reducible show wpAny _ _ (call (Value.ref 21) _ _) _ _ _)); (fail_if_success (with_reducible show wpAny _ _ (call (Value.ref 28) _ _) _ _ _)); (fail_if_success (with_reducible show wpAny _ _ (call (Value.ref 35) _ _) _ _ _)); (fail_if_success (with_reducible show wpAny _ _ (call (Value.ref 42) _ _) _ _ _)); (fail_if_success (with_reducible show wpAny _ _ (call (Value.ref 49) _ _) _ _ _)); (fail_if_success (with_reducible show wpAny _ _ (call (Value.ref 56) _ _) _ _ _)); (fail_if_success (with_reducible show wpAny _ _ (call (Value.ref 63) _ _) _ _ _)); (fail_if_success (with_reducible show wpAny _ _ (call (Value.ref 70) _ _) _ _ _)); leave1; walk_say "STEP leave1"; try dsimp only) | fail "no step")))
    all_goals (try k_data)
    · refine wpAny_AA (text_spec ⟨by assumption, by assumption, by assumption, rfl, rfl⟩ (by assumption) (by assumption) (List.mem_cons_self ..) (by assumption) (by omega) (by omega) ?_) rfl rfl rfl (Nat.le_of_ble_eq_true rfl) (Nat.le_of_ble_eq_true rfl)
      intro x tx hx tkx h3 h10 hal Fx Nx
      have Nx := news_tl Nx
      w_strict (repeat' ((fail_if_success (with_reducible show InvEndN _ _ _ _ _ _ _)); (fail_if_success (with_reducible show KswEnd _ _ _ _ _ _ _ _ _ _ _ _)); (fail_if_success (with_reducible show InvEndG _ _ _ _ _ _)); (fail_if_success (with_reducible show Q' _ _)); (first | (k_unfold; (try dsimp only)) | (k_end; wrow_close) | ((fail_if_success (with_reducible show wpAny _ _ (pyIter _) _ _ _)); (fail_if_success (with_reducible show wpAny _ _ (exec (Stmt.For _ _ _ _ _) _) _ _ _)); (fail_if_success (with_reducible show wpAny _ _ (exec (Stmt.While _ _ _ _) _) _ _ _)); (fail_if_success (with_reducible show wpAny _ _ (call (Value.ref 21) _ _) _ _ _)); (fail_if_success (with_reducible show wpAny _ _ (call (Value.ref 28) _ _) _ _ _)); (fail_if_success (with_reducible show wpAny _ _ (call (Value.ref 35) _ _) _ _ _)); (fail_if_success (with_reducible show wpAny _ _ (call (Value.ref 42) _ _) _ _ _)); (fail_if_success (with_reducible show wpAny _ _ (call (Value.ref 49) _ _) _ _ _)); (fail_if_success (with_reducible show wpAny _ _ (call (Value.ref 56) _ _) _ _ _)); (fail_if_success (with_reducible show wpAny _ _ (call (Value.ref 63) _ _) _ _ _)); (fail_if_success (with_reducible show wpAny _ _ (call (Value.ref 70) _ _) _ _ _)); (first | walk1 | (dsimp only; walk1))) | ((fail_if_success (with_reducible show wpAny _ _ (pyIter _) _ _ _)); (fail_if_success (with_reducible show wpAny _ _ (exec (Stmt.For _ _ _ _ _) _) _ _ _)); (fail_if_success (with_reducible show wpAny _ _ (exec (Stmt.While _ _ _ _) _) _ _ _)); (fail_if_success (with_reducible show wpAny _ _ (call (Value.ref 21) _ _) _ _ _)); (fail_if_success (with_reducible show wpAny _ _ (call (Value.ref 28) _ _) _ _ _)); (fail_if_success (with_reducible show wpAny _ _ (call (Value.ref 35) _ _) _ _ _)); (fail_if_success (with_reducible show wpAny _ _ (call (Value.ref 42) _ _) _ _ _)); (fail_if_success (with_reducible show wpAny _ _ (call (Value.ref 49) _ _) _ _ _)); (fail_if_success (with_reducible show wpAny _ _ (call (Value.ref 56) _ _) _ _ _)); (fail_if_success (with_reducible show wpAny _ _ (call (Value.ref 63) _ _) _ _ _)); (fail_if_success (with_reducible show wpAny _ _ (call (Value.ref 70) _ _) _ _ _)); leave1; walk_say "STEP leave1"; try dsimp only) | fail "no step")))
      all_goals (try k_data)
      exact hQ' _ _ _ _ ⟨h3, h10, hal⟩ (by assumption) (by assumption)
    · refine wpAny_AA (text_spec (ns := [42, 8, 3]) ⟨by assumption, by assumption, by assumption, rfl, rfl⟩ (by assumption) (by assumption) (List.mem_cons_self ..) (.cons _ _ (.cons _ _ (.cons _ _ .nil))) (by decide) (by decide) ?_) rfl rfl rfl (Nat.le_of_ble_eq_true rfl) (Nat.le_of_ble_eq_true rfl)
      intro x tx hx tkx h3 h10 hal Fx Nx
      have Nx := news_tl (news_tl Nx)
      w_strict (repeat' ((fail_if_success (with_reducible show InvEndN _ _ _ _ _ _ _)); (fail_if_success (with_reducible show KswEnd _ _ _ _ _ _ _ _ _ _ _ _)); (fail_if_success (with_reducible show InvEndG _ _ _ _ _ _)); (fail_if_success (with_reducible show Q' _ _)); (first | (k_unfold; (try dsimp only)) | (k_end; wrow_close) | ((fail_if_success (with_reducible show wpAny _ _ (pyIter _) _ _ _)); (fail_if_success (with_reducible show wpAny _ _ (exec (Stmt.For _ _ _ _ _) _) _ _ _)); (fail_if_success (with_reducible show wpAny _ _ (exec (Stmt.While _ _ _ _) _) _ _ _)); (fail_if_success (with_reducible show wpAny _ _ (call (Value.ref 21) _ _) _ _ _)); (fail_if_success (with_reducible show wpAny _ _ (call (Value.ref 28) _ _) _ _ _)); (fail_if_success (with_reducible show wpAny _ _ (call (Value.ref 35) _ _) _ _ _)); (fail_if_success (with_reducible show wpAny _ _ (call (Value.ref 42) _ _) _ _ _)); (fail_if_success (with_reducible show wpAny _ _ (call (Value.ref 49) _ _) _ _ _)); (fail_if_success (with_reducible show wpAny _ _ (call (Value.ref 56) _ _) _ _ _)); (fail_if_success (with_reducible show wpAny _ _ (call (Value.ref 63) _ _) _ _ _)); (fail_if_success (with_reducible show wpAny _ _ (call (Value.ref 70) _ _) _ _ _)); (first | walk1 | (dsimp only; walk1))) | ((fail_if_success (with_reducible show wpAny _ _ (pyIter _) _ _ _)); (fail_if_success (with_reducible show wpAny _ _ (exec (Stmt.For _ _ _ _ _) _) _ _ _)); (fail_if_success (with_reducible show wpAny _ _ (exec (Stmt.While _ _ _ _) _) _ _ _)); (fail_if_success (with_reducible show wpAny _ _ (call (Value.ref 21) _ _) _ _ _)); (fail_if_success (with_reducible show wpAny _ _ (call (Value.ref 28) _ _) _ _ _)); (fail_if_success (with_reducible show wpAny _ _ (call (Value.ref 35) _ _) _ _ _)); (fail_if_success (with_reducible show wpAny _ _ (call (Value.ref 42) _ _) _ _ _)); (fail_if_success (with_reducible show wpAny _ _ (call (Value.ref 49) _ _) _ _ _)); (fail_if_success (with_reducible show wpAny _ _ (call (Value.ref 56) _ _) _ _ _)); (fail_if_success (with_reducible show wpAny _ _ (call (Value.ref 63) _ _) _ _ _)); (fail_if_success (with_reducible show wpAny _ _ (call (Value.ref 70) _ _) _ _ _)); leave1; walk_say "STEP leave1"; try dsimp only) | fail "no step")))
      all_goals (try k_data)
      exact hQ' _ _ _ _ ⟨h3, h10, hal⟩ (by assumption) (by assumption)
  case rest =>
    intro x tx hx tkx ⟨h3, h10, hal⟩ Fx Nx
    w_strict (repeat' ((fail_if_success (with_reducible show InvEndN _ _ _ _ _ _ _)); (fail_if_success (with_reducible show KswEnd _ _ _ _ _ _ _ _ _ _ _ _)); (fail_if_success (with_reducible show InvEndG _ _ _ _ _ _)); (first | (k_unfold; (try dsimp only)) | (k_end; wrow_close) | ((fail_if_success (with_reducible show wpAny _ _ (pyIter _) _ _ _)); (fail_if_success (with_reducible show wpAny _ _ (exec (Stmt.For _ _ _ _ _) _) _ _ _)); (fail_if_success (with_reducible show wpAny _ _ (exec (Stmt.While _ _ _ _) _) _ _ _)); (fail_if_success (with_reducible show wpAny _ _ (call (Value.ref 21) _ _) _ _ _)); (fail_if_success (with_reducible show wpAny _ _ (call (Value.ref 28) _ _) _ _ _)); (fail_if_success (with_reducible show wpAny _ _ (call (Value.ref 35) _ _) _ _ _)); (fail_if_success (with_reducible show wpAny _ _ (call (Value.ref 42) _ _) _ _ _)); (fail_if_success (with_reducible show wpAny _ _ (call (Value.ref 49) _ _) _ _ _)); (fail_if_success (with_reducible show wpAny _ _ (call (Value.ref 56) _ _) _ _ _)); (fail_if_success (with_reducible show wpAny _ _ (call (Value.ref 63) _ _) _ _ _)); (fail_if_success (with_reducible show wpAny _ _ (call (Value.ref 70) _ _) _ _ _)); (first | walk1 | (dsimp only; walk1))) | ((fail_if_success (with_reducible show wpAny _ _ (pyIter _) _ _ _)); (fail_if_success (with_reducible show wpAny _ _ (exec (Stmt.For _ _ _ _ _) _) _ _ _)); (fail_if_success (with_reducible show wpAny _ _ (exec (Stmt.While _ _ _ _) _) _ _ _)); (fail_if_success (with_reducible show wpAny _ _ (call (Value.ref 21) _ _) _ _ _)); (fail_if_success (with_reducible show wpAny _ _ (call (Value.ref 28) _ _) _ _ _)); (fail_if_success (with_reducible show wpAny _ _ (call (Value.ref 35) _ _) _ _ _)); (fail_if_success (with_reducible show wpAny _ _ (call (Value.ref 42) _ _) _ _ _)); (fail_if_success (with_reducible show wpAny _ _ (call (Value.ref 49) _ _) _ _ _)); (fail_if_success (with_reducible show wpAny _ _ (call (Value.ref 56) _ _) _ _ _)); (fail_if_success (with_reducible show wpAny _ _ (call (Value.ref 63) _ _) _ _ _)); (fail_if_success (with_reducible show wpAny _ _ (call (Value.ref 70) _ _) _ _ _)); leave1; walk_say "STEP leave1"; try dsimp only) | fail "no step")))
    all_goals (try k_data)
    refine wpAny_AA (dots_spec (news := [(37, tabObj #[])]) ⟨by assumption, by assumption, by assumption, rfl, rfl⟩ (by assumption) (news_sub Nx sw_two) (by assumption) ne_3744 ?_) rfl rfl rfl (Nat.le_of_ble_eq_true rfl) (Nat.le_of_ble_eq_true rfl)
    intro pr led ps hp tkp hPr Fp Np
    have Np : News _ _ hp (TL .empty ++ ((44, tabObj ps) :: led)) := news_sub Np sw_app
    clear Nx Fx
    w_strict (repeat' ((fail_if_success (with_reducible show InvEndN _ _ _ _ _ _ _)); (fail_if_success (with_reducible show KswEnd _ _ _ _ _ _ _ _ _ _ _ _)); (fail_if_success (with_reducible show InvEndG _ _ _ _ _ _)); (first | (k_unfold; (try dsimp only)) | (k_end; wrow_close) | ((fail_if_success (with_reducible show wpAny _ _ (pyIter _) _ _ _)); (fail_if_success (with_reducible show wpAny _ _ (exec (Stmt.For _ _ _ _ _) _) _ _ _)); (fail_if_success (with_reducible show wpAny _ _ (exec (Stmt.While _ _ _ _) _) _ _ _)); (fail_if_success (with_reducible show wpAny _ _ (call (Value.ref 21) _ _) _ _ _)); (fail_if_success (with_reducible show wpAny _ _ (call (Value.ref 28) _ _) _ _ _)); (fail_if_success (with_reducible show wpAny _ _ (call (Value.ref 35) _ _) _ _ _)); (fail_if_success (with_reducible show wpAny _ _ (call (Value.ref 42) _ _) _ _ _)); (fail_if_success (with_reducible show wpAny _ _ (call (Value.ref 49) _ _) _ _ _)); (fail_if_success (with_reducible show wpAny _ _ (call (Value.ref 56) _ _) _ _ _)); (fail_if_success (with_reducible show wpAny _ _ (call (Value.ref 63) _ _) _ _ _)); (fail_if_success (with_reducible show wpAny _ _ (call (Value.ref 70) _ _) _ _ _)); (first | walk1 | (dsimp only; walk1))) | ((fail_if_success (with_reducible show wpAny _ _ (pyIter _) _ _ _)); (fail_if_success (with_reducible show wpAny _ _ (exec (Stmt.For _ _ _ _ _) _) _ _ _)); (fail_if_success (with_reducible show wpAny _ _ (exec (Stmt.While _ _ _ _) _) _ _ _)); (fail_if_success (with_reducible show wpAny _ _ (call (Value.ref 21) _ _) _ _ _)); (fail_if_success (with_reducible show wpAny _ _ (call (Value.ref 28) _ _) _ _ _)); (fail_if_success (with_reducible show wpAny _ _ (call (Value.ref 35) _ _) _ _ _)); (fail_if_success (with_reducible show wpAny _ _ (call (Value.ref 42) _ _) _ _ _)); (fail_if_success (with_reducible show wpAny _ _ (call (Value.ref 49) _ _) _ _ _)); (fail_if_success (with_reducible show wpAny _ _ (call (Value.ref 56) _ _) _ _ _)); (fail_if_success (with_reducible show wpAny _ _ (call (Value.ref 63) _ _) _ _ _)); (fail_if_success (with_reducible show wpAny _ _ (call (Value.ref 70) _ _) _ _ _)); leave1; walk_say "STEP leave1"; try dsimp only) | fail "no step")))
    all_goals (try k_data)
    refine For_invVF (by assumption) rfl rfl ?_
    w_strict (repeat' ((fail_if_success (with_reducible show InvEndN _ _ _ _ _ _ _)); (fail_if_success (with_reducible show KswEnd _ _ _ _ _ _ _ _ _ _ _ _)); (fail_if_success (with_reducible show InvEndG _ _ _ _ _ _)); (first | (k_unfold; (try dsimp only)) | (k_end; wrow_close) | ((fail_if_success (with_reducible show wpAny _ _ (pyIter _) _ _ _)); (fail_if_success (with_reducible show wpAny _ _ (exec (Stmt.For _ _ _ _ _) _) _ _ _)); (fail_if_success (with_reducible show wpAny _ _ (exec (Stmt.While _ _ _ _) _) _ _ _)); (fail_if_success (with_reducible show wpAny _ _ (call (Value.ref 21) _ _) _ _ _)); (fail_if_success (with_reducible show wpAny _ _ (call (Value.ref 28) _ _) _ _ _)); (fail_if_success (with_reducible show wpAny _ _ (call (Value.ref 35) _ _) _ _ _)); (fail_if_success (with_reducible show wpAny _ _ (call (Value.ref 42) _ _) _ _ _)); (fail_if_success (with_reducible show wpAny _ _ (call (Value.ref 49) _ _) _ _ _)); (fail_if_success (with_reducible show wpAny _ _ (call (Value.ref 56) _ _) _ _ _)); (fail_if_success (with_reducible show wpAny _ _ (call (Value.ref 63) _ _) _ _ _)); (fail_if_success (with_reducible show wpAny _ _ (call (Value.ref 70) _ _) _ _ _)); (first | walk1 | (dsimp only; walk1))) | ((fail_if_success (with_reducible show wpAny _ _ (pyIter _) _ _ _)); (fail_if_success (with_reducible show wpAny _ _ (exec (Stmt.For _ _ _ _ _) _) _ _ _)); (fail_if_success (with_reducible show wpAny _ _ (exec (Stmt.While _ _ _ _) _) _ _ _)); (fail_if_success (with_reducible show wpAny _ _ (call (Value.ref 21) _ _) _ _ _)); (fail_if_success (with_reducible show wpAny _ _ (call (Value.ref 28) _ _) _ _ _)); (fail_if_success (with_reducible show wpAny _ _ (call (Value.ref 35) _ _) _ _ _)); (fail_if_success (with_reducible show wpAny _ _ (call (Value.ref 42) _ _) _ _ _)); (fail_if_success (with_reducible show wpAny _ _ (call (Value.ref 49) _ _) _ _ _)); (fail_if_success (with_reducible show wpAny _ _ (call (Value.ref 56) _ _) _ _ _)); (fail_if_success (with_reducible show wpAny _ _ (call (Value.ref 63) _ _) _ _ _)); (fail_if_success (with_reducible show wpAny _ _ (call (Value.ref 70) _ _) _ _ _)); leave1; walk_say "STEP leave1"; try dsimp only) | fail "no step")))
    all_goals (try k_data)
    refine' rg_loop (ts₀ := .empty) (led := (44, tabObj ps) :: led) [Str.ofString "rest", Str.ofString "edge", Str.ofString "path", Str.ofString "peeled", Str.ofString "hit", Str.ofString "parts", Str.ofString "told", Str.ofString "worths", Str.ofString "answer", Str.ofString "end"] ?hh ?hr ?hsm ?hsz ?F ?N trivial ?turn ?done
    case hh => rfl
    case hr => assumption
    case hsm => exact small_one (by omega) (by omega) (by omega) (by omega)
    case hsz => exact rangeSize_nat _ _
    case F => assumption
    case N => assumption
    case done =>
      intro ts u hd' tkd hT hG0 Fd Nd
      dsimp only [envOf] at Fd Nd
      w_strict (first | (k_unfold; (try dsimp only)) | walk1 | (dsimp only; walk1))
      w_strict (first | (k_unfold; (try dsimp only)) | walk1 | (dsimp only; walk1))
      w_strict (first | (k_unfold; (try dsimp only)) | walk1 | (dsimp only; walk1))
      w_strict (first | (k_unfold; (try dsimp only)) | walk1 | (dsimp only; walk1))
      · k_end; wrow_close
      · exact ⟨tl_grown Nd, GrownAt.of Nd (List.mem_append_right _ (.head _)), trivial⟩
    case turn =>
      intro ts i ti u hi' tki own hin hT hGi hoff Fi Ni
      dsimp only [envOf] at Fi Ni
      w_strict (repeat' ((fail_if_success (with_reducible show InvEndN _ _ _ _ _ _ _)); (fail_if_success (with_reducible show KswEnd _ _ _ _ _ _ _ _ _ _ _ _)); (fail_if_success (with_reducible show InvEndG _ _ _ _ _ _)); (first | (k_unfold; (try dsimp only)) | (k_end; wrow_close) | ((fail_if_success (with_reducible show wpAny _ _ (pyIter _) _ _ _)); (fail_if_success (with_reducible show wpAny _ _ (exec (Stmt.For _ _ _ _ _) _) _ _ _)); (fail_if_success (with_reducible show wpAny _ _ (exec (Stmt.While _ _ _ _) _) _ _ _)); (fail_if_success (with_reducible show wpAny _ _ (call (Value.ref 21) _ _) _ _ _)); (fail_if_success (with_reducible show wpAny _ _ (call (Value.ref 28) _ _) _ _ _)); (fail_if_success (with_reducible show wpAny _ _ (call (Value.ref 35) _ _) _ _ _)); (fail_if_success (with_reducible show wpAny _ _ (call (Value.ref 42) _ _) _ _ _)); (fail_if_success (with_reducible show wpAny _ _ (call (Value.ref 49) _ _) _ _ _)); (fail_if_success (with_reducible show wpAny _ _ (call (Value.ref 56) _ _) _ _ _)); (fail_if_success (with_reducible show wpAny _ _ (call (Value.ref 63) _ _) _ _ _)); (fail_if_success (with_reducible show wpAny _ _ (call (Value.ref 70) _ _) _ _ _)); (first | walk1 | (dsimp only; walk1))) | ((fail_if_success (with_reducible show wpAny _ _ (pyIter _) _ _ _)); (fail_if_success (with_reducible show wpAny _ _ (exec (Stmt.For _ _ _ _ _) _) _ _ _)); (fail_if_success (with_reducible show wpAny _ _ (exec (Stmt.While _ _ _ _) _) _ _ _)); (fail_if_success (with_reducible show wpAny _ _ (call (Value.ref 21) _ _) _ _ _)); (fail_if_success (with_reducible show wpAny _ _ (call (Value.ref 28) _ _) _ _ _)); (fail_if_success (with_reducible show wpAny _ _ (call (Value.ref 35) _ _) _ _ _)); (fail_if_success (with_reducible show wpAny _ _ (call (Value.ref 42) _ _) _ _ _)); (fail_if_success (with_reducible show wpAny _ _ (call (Value.ref 49) _ _) _ _ _)); (fail_if_success (with_reducible show wpAny _ _ (call (Value.ref 56) _ _) _ _ _)); (fail_if_success (with_reducible show wpAny _ _ (call (Value.ref 63) _ _) _ _ _)); (fail_if_success (with_reducible show wpAny _ _ (call (Value.ref 70) _ _) _ _ _)); leave1; walk_say "STEP leave1"; try dsimp only) | fail "no step")))
      all_goals (try k_data)
      refine For_invVF (by assumption) rfl rfl ?_
      w_strict (repeat' ((fail_if_success (with_reducible show InvEndN _ _ _ _ _ _ _)); (fail_if_success (with_reducible show KswEnd _ _ _ _ _ _ _ _ _ _ _ _)); (fail_if_success (with_reducible show InvEndG _ _ _ _ _ _)); (first | (k_unfold; (try dsimp only)) | (k_end; wrow_close) | ((fail_if_success (with_reducible show wpAny _ _ (pyIter _) _ _ _)); (fail_if_success (with_reducible show wpAny _ _ (exec (Stmt.For _ _ _ _ _) _) _ _ _)); (fail_if_success (with_reducible show wpAny _ _ (exec (Stmt.While _ _ _ _) _) _ _ _)); (fail_if_success (with_reducible show wpAny _ _ (call (Value.ref 21) _ _) _ _ _)); (fail_if_success (with_reducible show wpAny _ _ (call (Value.ref 28) _ _) _ _ _)); (fail_if_success (with_reducible show wpAny _ _ (call (Value.ref 35) _ _) _ _ _)); (fail_if_success (with_reducible show wpAny _ _ (call (Value.ref 42) _ _) _ _ _)); (fail_if_success (with_reducible show wpAny _ _ (call (Value.ref 49) _ _) _ _ _)); (fail_if_success (with_reducible show wpAny _ _ (call (Value.ref 56) _ _) _ _ _)); (fail_if_success (with_reducible show wpAny _ _ (call (Value.ref 63) _ _) _ _ _)); (fail_if_success (with_reducible show wpAny _ _ (call (Value.ref 70) _ _) _ _ _)); (first | walk1 | (dsimp only; walk1))) | ((fail_if_success (with_reducible show wpAny _ _ (pyIter _) _ _ _)); (fail_if_success (with_reducible show wpAny _ _ (exec (Stmt.For _ _ _ _ _) _) _ _ _)); (fail_if_success (with_reducible show wpAny _ _ (exec (Stmt.While _ _ _ _) _) _ _ _)); (fail_if_success (with_reducible show wpAny _ _ (call (Value.ref 21) _ _) _ _ _)); (fail_if_success (with_reducible show wpAny _ _ (call (Value.ref 28) _ _) _ _ _)); (fail_if_success (with_reducible show wpAny _ _ (call (Value.ref 35) _ _) _ _ _)); (fail_if_success (with_reducible show wpAny _ _ (call (Value.ref 42) _ _) _ _ _)); (fail_if_success (with_reducible show wpAny _ _ (call (Value.ref 49) _ _) _ _ _)); (fail_if_success (with_reducible show wpAny _ _ (call (Value.ref 56) _ _) _ _ _)); (fail_if_success (with_reducible show wpAny _ _ (call (Value.ref 63) _ _) _ _ _)); (fail_if_success (with_reducible show wpAny _ _ (call (Value.ref 70) _ _) _ _ _)); leave1; walk_say "STEP leave1"; try dsimp only) | fail "no step")))
      all_goals (try k_data)
      refine' rg_loop (ts₀ := ts) (led := ((44, tabObj ps) :: led) ++ own) [Str.ofString "rest", Str.ofString "edge", Str.ofString "path", Str.ofString "peeled", Str.ofString "hit", Str.ofString "parts", Str.ofString "told", Str.ofString "worths", Str.ofString "answer"] ?hh ?hr ?hsm ?hsz ?F ?N hT ?turn ?done
      case hh => rfl
      case hr => assumption
      case hsm => exact small_one (by omega) (by omega) (by omega) (by omega)
      case hsz => exact rangeSize_nat _ _
      case F => assumption
      case N => assumption
      case done =>
        intro ts2 u2 hd2 tkd2 hT2 hG2 Fd Nd
        --<DONE
        dsimp only [envOf] at Fd Nd
        w_strict (repeat' ((fail_if_success (with_reducible show InvEndN _ _ _ _ _ _ _)); (fail_if_success (with_reducible show KswEnd _ _ _ _ _ _ _ _ _ _ _ _)); (fail_if_success (with_reducible show InvEndG _ _ _ _ _ _)); (first | (k_unfold; (try dsimp only)) | (k_end; wrow_close) | ((fail_if_success (with_reducible show wpAny _ _ (pyIter _) _ _ _)); (fail_if_success (with_reducible show wpAny _ _ (exec (Stmt.For _ _ _ _ _) _) _ _ _)); (fail_if_success (with_reducible show wpAny _ _ (exec (Stmt.While _ _ _ _) _) _ _ _)); (fail_if_success (with_reducible show wpAny _ _ (call (Value.ref 21) _ _) _ _ _)); (fail_if_success (with_reducible show wpAny _ _ (call (Value.ref 28) _ _) _ _ _)); (fail_if_success (with_reducible show wpAny _ _ (call (Value.ref 35) _ _) _ _ _)); (fail_if_success (with_reducible show wpAny _ _ (call (Value.ref 42) _ _) _ _ _)); (fail_if_success (with_reducible show wpAny _ _ (call (Value.ref 49) _ _) _ _ _)); (fail_if_success (with_reducible show wpAny _ _ (call (Value.ref 56) _ _) _ _ _)); (fail_if_success (with_reducible show wpAny _ _ (call (Value.ref 63) _ _) _ _ _)); (fail_if_success (with_reducible show wpAny _ _ (call (Value.ref 70) _ _) _ _ _)); (first | walk1 | (dsimp only; walk1))) | ((fail_if_success (with_reducible show wpAny _ _ (pyIter _) _ _ _)); (fail_if_success (with_reducible show wpAny _ _ (exec (Stmt.For _ _ _ _ _) _) _ _ _)); (fail_if_success (with_reducible show wpAny _ _ (exec (Stmt.While _ _ _ _) _) _ _ _)); (fail_if_success (with_reducible show wpAny _ _ (call (Value.ref 21) _ _) _ _ _)); (fail_if_success (with_reducible show wpAny _ _ (call (Value.ref 28) _ _) _ _ _)); (fail_if_success (with_reducible show wpAny _ _ (call (Value.ref 35) _ _) _ _ _)); (fail_if_success (with_reducible show wpAny _ _ (call (Value.ref 42) _ _) _ _ _)); (fail_if_success (with_reducible show wpAny _ _ (call (Value.ref 49) _ _) _ _ _)); (fail_if_success (with_reducible show wpAny _ _ (call (Value.ref 56) _ _) _ _ _)); (fail_if_success (with_reducible show wpAny _ _ (call (Value.ref 63) _ _) _ _ _)); (fail_if_success (with_reducible show wpAny _ _ (call (Value.ref 70) _ _) _ _ _)); leave1; walk_say "STEP leave1"; try dsimp only) | fail "no step")))
        all_goals (try k_data)
        refine' rg_end (ts := ts) (ts' := ts2) ?zF ?zN hT2 ?hn hoff hG2 hGi ?hm
        case zF => assumption
        case zN => assumption
        case hn => exact fun p hp => hp
        case hm =>
          intro z hz hs
          obtain ⟨ze, hs9⟩ := off10 hs
          simp only [if_neg hz, if_neg ze, hs, hs9, Bool.false_eq_true, if_false]
        -->DONE
      case turn =>
        intro ts j tj u hj' tkj own2 hjn hT hGj hoff2 Fj Nj
        dsimp only [envOf] at Fj Nj
        have hi1 : (i : Int) ≤ (x.length : Int) := by omega
        have hj1 : 0 + (i : Int) + (j : Int) ≤ (x.length : Int) := by omega
        w_strict (repeat' ((fail_if_success (with_reducible show InvEndN _ _ _ _ _ _ _)); (fail_if_success (with_reducible show KswEnd _ _ _ _ _ _ _ _ _ _ _ _)); (fail_if_success (with_reducible show InvEndG _ _ _ _ _ _)); (first | (k_unfold; (try dsimp only)) | (k_end; wrow_close) | ((fail_if_success (with_reducible show wpAny _ _ (pyIter _) _ _ _)); (fail_if_success (with_reducible show wpAny _ _ (exec (Stmt.For _ _ _ _ _) _) _ _ _)); (fail_if_success (with_reducible show wpAny _ _ (exec (Stmt.While _ _ _ _) _) _ _ _)); (fail_if_success (with_reducible show wpAny _ _ (call (Value.ref 21) _ _) _ _ _)); (fail_if_success (with_reducible show wpAny _ _ (call (Value.ref 28) _ _) _ _ _)); (fail_if_success (with_reducible show wpAny _ _ (call (Value.ref 35) _ _) _ _ _)); (fail_if_success (with_reducible show wpAny _ _ (call (Value.ref 42) _ _) _ _ _)); (fail_if_success (with_reducible show wpAny _ _ (call (Value.ref 49) _ _) _ _ _)); (fail_if_success (with_reducible show wpAny _ _ (call (Value.ref 56) _ _) _ _ _)); (fail_if_success (with_reducible show wpAny _ _ (call (Value.ref 63) _ _) _ _ _)); (fail_if_success (with_reducible show wpAny _ _ (call (Value.ref 70) _ _) _ _ _)); (first | walk1 | (dsimp only; walk1))) | ((fail_if_success (with_reducible show wpAny _ _ (pyIter _) _ _ _)); (fail_if_success (with_reducible show wpAny _ _ (exec (Stmt.For _ _ _ _ _) _) _ _ _)); (fail_if_success (with_reducible show wpAny _ _ (exec (Stmt.While _ _ _ _) _) _ _ _)); (fail_if_success (with_reducible show wpAny _ _ (call (Value.ref 21) _ _) _ _ _)); (fail_if_success (with_reducible show wpAny _ _ (call (Value.ref 28) _ _) _ _ _)); (fail_if_success (with_reducible show wpAny _ _ (call (Value.ref 35) _ _) _ _ _)); (fail_if_success (with_reducible show wpAny _ _ (call (Value.ref 42) _ _) _ _ _)); (fail_if_success (with_reducible show wpAny _ _ (call (Value.ref 49) _ _) _ _ _)); (fail_if_success (with_reducible show wpAny _ _ (call (Value.ref 56) _ _) _ _ _)); (fail_if_success (with_reducible show wpAny _ _ (call (Value.ref 63) _ _) _ _ _)); (fail_if_success (with_reducible show wpAny _ _ (call (Value.ref 70) _ _) _ _ _)); leave1; walk_say "STEP leave1"; try dsimp only) | fail "no step")))
        all_goals (try k_data)
        obtain ⟨R, hR⟩ : ∃ R, R = Txt.slice x (some (0 + (i : Int))) (some (0 + (i : Int) + (j : Int))) := ⟨_, rfl⟩
        have hR10 : R.length ≤ 10 := by have := Txt.slice_le x (some (0 + (i : Int))) (some (0 + (i : Int) + (j : Int))); rw [← hR] at this; omega
        have hRal : ∀ c ∈ R.cps.toList, Alpha c := fun c hc => hal c (slice_mem (i := 0 + (i : Int)) (j := 0 + (i : Int) + (j : Int)) ⟨by omega, by omega, hj1⟩ (by rw [← hR]; exact hc))
        rename (Fr _ _ _ _) => FW
        rename (News _ _ _ _) => NW
        rw [← hR] at FW
        clear hR
        generalize hnews : ((44, tabObj ps) :: led) ++ own ++ own2 = news at NW
        refine' ksw_while (σ := Nat × Tok) (fun _ => TL ts ++ news) (fun c => [(Str.ofString "edge", .int (c.1 : Int) c.2)]) (fun _ => True) [Str.ofString "edge"] (fun c => c.1 ≤ R.length ∧ ∀ v, v < c.1 → R.cps.toList[v]? ≠ some 58 ∧ R.cps.toList[v]? ≠ some 10) (fun c => R.length - c.1) (0, _) ?F ?N trivial ?hk ⟨Nat.zero_le _, fun v hv => absurd hv (Nat.not_lt_zero _)⟩ ?turn
        case F => assumption
        case N => assumption
        case hk =>
          simp only [List.forall_mem_cons, List.not_mem_nil, false_implies, implies_true, and_true]
          exact rfl
        case turn =>
          clear FW NW
          rintro ⟨e, te⟩ u₁ h₁ tk₁ _ ⟨he1, he2⟩ F₁ N₁
          dsimp only at he1 he2 F₁
          have he0 : (e : Int) ≤ (R.length : Int) := by omega
          refine wpAny_mono (Q := fun b s₂ => (∃ tk', s₂ = { S1 with heap := h₁, toks := tk' }) ∧ (b = true ↔ ((e : Int) < (R.length : Int) ∧ R.cps.toList[(e : Int).toNat]? ≠ some 58 ∧ R.cps.toList[(e : Int).toNat]? ≠ some 10))) ?test ?cont (fun _ _ e => e)
          case test =>
            w_strict (repeat' ((fail_if_success (with_reducible show InvEndN _ _ _ _ _ _ _)); (fail_if_success (with_reducible show KswEnd _ _ _ _ _ _ _ _ _ _ _ _)); (fail_if_success (with_reducible show InvEndG _ _ _ _ _ _)); (first | (k_unfold; (try dsimp only)) | (k_end; wrow_close) | ((fail_if_success (with_reducible show wpAny _ _ (execs _ _) _ _ _)); (first | walk1 | (dsimp only; walk1))) | ((fail_if_success (with_reducible show wpAny _ _ (execs _ _) _ _ _)); leave1; walk_say "STEP leave1"; try dsimp only) | fail "no step")))
            all_goals (try k_data)
            all_goals (first | exact nt_yes (by omega) (by omega) (by assumption) | exact nt_no (by omega) (by omega) (by assumption) | exact t_out (by omega))
          case cont =>
            rintro b s₂ ⟨⟨tk₂, rfl⟩, hb⟩
            cases b with
            | true =>
              simp only [if_true]
              obtain ⟨hb1, hb2⟩ := hb.mp rfl
              w_strict (repeat' ((fail_if_success (with_reducible show InvEndN _ _ _ _ _ _ _)); (fail_if_success (with_reducible show KswEnd _ _ _ _ _ _ _ _ _ _ _ _)); (fail_if_success (with_reducible show InvEndG _ _ _ _ _ _)); (first | (k_unfold; (try dsimp only)) | (k_end; wrow_close) | ((fail_if_success (with_reducible show wpAny _ _ (pyIter _) _ _ _)); (fail_if_success (with_reducible show wpAny _ _ (exec (Stmt.For _ _ _ _ _) _) _ _ _)); (fail_if_success (with_reducible show wpAny _ _ (exec (Stmt.While _ _ _ _) _) _ _ _)); (fail_if_success (with_reducible show wpAny _ _ (call (Value.ref 21) _ _) _ _ _)); (fail_if_success (with_reducible show wpAny _ _ (call (Value.ref 28) _ _) _ _ _)); (fail_if_success (with_reducible show wpAny _ _ (call (Value.ref 35) _ _) _ _ _)); (fail_if_success (with_reducible show wpAny _ _ (call (Value.ref 42) _ _) _ _ _)); (fail_if_success (with_reducible show wpAny _ _ (call (Value.ref 49) _ _) _ _ _)); (fail_if_success (with_reducible show wpAny _ _ (call (Value.ref 56) _ _) _ _ _)); (fail_if_success (with_reducible show wpAny _ _ (call (Value.ref 63) _ _) _ _ _)); (fail_if_success (with_reducible show wpAny _ _ (call (Value.ref 70) _ _) _ _ _)); (first | walk1 | (dsimp only; walk1))) | ((fail_if_success (with_reducible show wpAny _ _ (pyIter _) _ _ _)); (fail_if_success (with_reducible show wpAny _ _ (exec (Stmt.For _ _ _ _ _) _) _ _ _)); (fail_if_success (with_reducible show wpAny _ _ (exec (Stmt.While _ _ _ _) _) _ _ _)); (fail_if_success (with_reducible show wpAny _ _ (call (Value.ref 21) _ _) _ _ _)); (fail_if_success (with_reducible show wpAny _ _ (call (Value.ref 28) _ _) _ _ _)); (fail_if_success (with_reducible show wpAny _ _ (call (Value.ref 35) _ _) _ _ _)); (fail_if_success (with_reducible show wpAny _ _ (call (Value.ref 42) _ _) _ _ _)); (fail_if_success (with_reducible show wpAny _ _ (call (Value.ref 49) _ _) _ _ _)); (fail_if_success (with_reducible show wpAny _ _ (call (Value.ref 56) _ _) _ _ _)); (fail_if_success (with_reducible show wpAny _ _ (call (Value.ref 63) _ _) _ _ _)); (fail_if_success (with_reducible show wpAny _ _ (call (Value.ref 70) _ _) _ _ _)); leave1; walk_say "STEP leave1"; try dsimp only) | fail "no step")))
              all_goals (try k_data)
              refine' ksw_end (e + 1, _) ?F ?N (fun p hp => hp) trivial ?hk ?hr ⟨?p1, ?p2⟩ ?mu
              case F => assumption
              case N => assumption
              case hk =>
                simp only [List.forall_mem_cons, List.not_mem_nil, false_implies, implies_true, and_true]
                exact rfl
              case hr =>
                intro z h2 h3
                simp only [List.forall_mem_cons, List.not_mem_nil, false_implies, implies_true, and_true, ne_eq] at h2
                simp only [kstB, if_neg h2, h3, Bool.false_eq_true, if_false]
              case p1 => show e + 1 ≤ _; omega
              case p2 =>
                intro v (hv : v < e + 1)
                rcases Nat.lt_or_ge v e with h | h
                · exact he2 v h
                · have : v = e := by omega
                  rw [this]; simpa using hb2
              case mu =>
                show R.length - (e + 1) < R.length - e
                omega
            | false =>
              simp only [Bool.false_eq_true, if_false]
              have hpath := path_eq he1 he2 (fun q => by have := hb.mpr (by simpa using q); cases this)
              clear hb
              w_strict (repeat' ((fail_if_success (with_reducible show InvEndN _ _ _ _ _ _ _)); (fail_if_success (with_reducible show KswEnd _ _ _ _ _ _ _ _ _ _ _ _)); (fail_if_success (with_reducible show InvEndG _ _ _ _ _ _)); (first | (k_unfold; (try dsimp only)) | (k_end; wrow_close) | ((fail_if_success (with_reducible show wpAny _ _ (pyIter _) _ _ _)); (fail_if_success (with_reducible show wpAny _ _ (exec (Stmt.For _ _ _ _ _) _) _ _ _)); (fail_if_success (with_reducible show wpAny _ _ (exec (Stmt.While _ _ _ _) _) _ _ _)); (fail_if_success (with_reducible show wpAny _ _ (call (Value.ref 21) _ _) _ _ _)); (fail_if_success (with_reducible show wpAny _ _ (call (Value.ref 28) _ _) _ _ _)); (fail_if_success (with_reducible show wpAny _ _ (call (Value.ref 35) _ _) _ _ _)); (fail_if_success (with_reducible show wpAny _ _ (call (Value.ref 42) _ _) _ _ _)); (fail_if_success (with_reducible show wpAny _ _ (call (Value.ref 49) _ _) _ _ _)); (fail_if_success (with_reducible show wpAny _ _ (call (Value.ref 56) _ _) _ _ _)); (fail_if_success (with_reducible show wpAny _ _ (call (Value.ref 63) _ _) _ _ _)); (fail_if_success (with_reducible show wpAny _ _ (call (Value.ref 70) _ _) _ _ _)); (first | walk1 | (dsimp only; walk1))) | ((fail_if_success (with_reducible show wpAny _ _ (pyIter _) _ _ _)); (fail_if_success (with_reducible show wpAny _ _ (exec (Stmt.For _ _ _ _ _) _) _ _ _)); (fail_if_success (with_reducible show wpAny _ _ (exec (Stmt.While _ _ _ _) _) _ _ _)); (fail_if_success (with_reducible show wpAny _ _ (call (Value.ref 21) _ _) _ _ _)); (fail_if_success (with_reducible show wpAny _ _ (call (Value.ref 28) _ _) _ _ _)); (fail_if_success (with_reducible show wpAny _ _ (call (Value.ref 35) _ _) _ _ _)); (fail_if_success (with_reducible show wpAny _ _ (call (Value.ref 42) _ _) _ _ _)); (fail_if_success (with_reducible show wpAny _ _ (call (Value.ref 49) _ _) _ _ _)); (fail_if_success (with_reducible show wpAny _ _ (call (Value.ref 56) _ _) _ _ _)); (fail_if_success (with_reducible show wpAny _ _ (call (Value.ref 63) _ _) _ _ _)); (fail_if_success (with_reducible show wpAny _ _ (call (Value.ref 70) _ _) _ _ _)); leave1; walk_say "STEP leave1"; try dsimp only) | fail "no step")))
              all_goals (try k_data)
              refine wpAny_AA (strip_spec (by assumption) (by assumption) (by assumption) (by assumption) (by assumption) rfl rfl hR10 ?_) rfl rfl rfl (Nat.le_of_ble_eq_true rfl) (Nat.le_of_ble_eq_true rfl)
              intro y hy tky ty hyeq Fy Ny
              subst hyeq
              w_strict (repeat' ((fail_if_success (with_reducible show InvEndN _ _ _ _ _ _ _)); (fail_if_success (with_reducible show KswEnd _ _ _ _ _ _ _ _ _ _ _ _)); (fail_if_success (with_reducible show InvEndG _ _ _ _ _ _)); (first | (k_unfold; (try dsimp only)) | (k_end; wrow_close) | ((fail_if_success (with_reducible show wpAny _ _ (pyIter _) _ _ _)); (fail_if_success (with_reducible show wpAny _ _ (exec (Stmt.For _ _ _ _ _) _) _ _ _)); (fail_if_success (with_reducible show wpAny _ _ (exec (Stmt.While _ _ _ _) _) _ _ _)); (fail_if_success (with_reducible show wpAny _ _ (call (Value.ref 21) _ _) _ _ _)); (fail_if_success (with_reducible show wpAny _ _ (call (Value.ref 28) _ _) _ _ _)); (fail_if_success (with_reducible show wpAny _ _ (call (Value.ref 35) _ _) _ _ _)); (fail_if_success (with_reducible show wpAny _ _ (call (Value.ref 42) _ _) _ _ _)); (fail_if_success (with_reducible show wpAny _ _ (call (Value.ref 49) _ _) _ _ _)); (fail_if_success (with_reducible show wpAny _ _ (call (Value.ref 56) _ _) _ _ _)); (fail_if_success (with_reducible show wpAny _ _ (call (Value.ref 63) _ _) _ _ _)); (fail_if_success (with_reducible show wpAny _ _ (call (Value.ref 70) _ _) _ _ _)); (first | walk1 | (dsimp only; walk1))) | ((fail_if_success (with_reducible show wpAny _ _ (pyIter _) _ _ _)); (fail_if_success (with_reducible show wpAny _ _ (exec (Stmt.For _ _ _ _ _) _) _ _ _)); (fail_if_success (with_reducible show wpAny _ _ (exec (Stmt.While _ _ _ _) _) _ _ _)); (fail_if_success (with_reducible show wpAny _ _ (call (Value.ref 21) _ _) _ _ _)); (fail_if_success (with_reducible show wpAny _ _ (call (Value.ref 28) _ _) _ _ _)); (fail_if_success (with_reducible show wpAny _ _ (call (Value.ref 35) _ _) _ _ _)); (fail_if_success (with_reducible show wpAny _ _ (call (Value.ref 42) _ _) _ _ _)); (fail_if_success (with_reducible show wpAny _ _ (call (Value.ref 49) _ _) _ _ _)); (fail_if_success (with_reducible show wpAny _ _ (call (Value.ref 56) _ _) _ _ _)); (fail_if_success (with_reducible show wpAny _ _ (call (Value.ref 63) _ _) _ _ _)); (fail_if_success (with_reducible show wpAny _ _ (call (Value.ref 70) _ _) _ _ _)); leave1; walk_say "STEP leave1"; try dsimp only) | fail "no step")))
              all_goals (try k_data)
              rename (∀ p ∈ TL ts ++ news, _) => hlt0
              obtain ⟨lp, rfl, hlp⟩ := addrOf hlt0
              have hsub : ∀ p ∈ led, p ∈ news := fun p hp => by rw [← hnews]; exact List.mem_append_left _ (List.mem_append_left _ (.tail _ hp))
              have hne : ∀ p ∈ news, p.1 ≠ 37 := by rw [← hnews]; exact ne37_all hPr.1 hoff hoff2
              refine wpAny_AA (rev_any ⟨by assumption, by assumption, by assumption, rfl, rfl⟩ (by assumption) (sw_in (by assumption)) hPr (fun p hp => .tail _ (hsub p hp)) hT (by assumption) (List.forall_mem_cons.mpr ⟨lp_ne hlp, hne⟩) hR10 he1 ?_) rfl rfl rfl (Nat.le_of_ble_eq_true rfl) (Nat.le_of_ble_eq_true rfl)
              intro v ledh ts' hv tkv hHit hT' hG Fv Nv
              w_strict (repeat' ((fail_if_success (with_reducible show InvEndN _ _ _ _ _ _ _)); (fail_if_success (with_reducible show KswEnd _ _ _ _ _ _ _ _ _ _ _ _)); (fail_if_success (with_reducible show InvEndG _ _ _ _ _ _)); (first | (k_unfold; (try dsimp only)) | (k_end; wrow_close) | ((fail_if_success (with_reducible show wpAny _ _ (pyIter _) _ _ _)); (fail_if_success (with_reducible show wpAny _ _ (exec (Stmt.For _ _ _ _ _) _) _ _ _)); (fail_if_success (with_reducible show wpAny _ _ (exec (Stmt.While _ _ _ _) _) _ _ _)); (fail_if_success (with_reducible show wpAny _ _ (call (Value.ref 21) _ _) _ _ _)); (fail_if_success (with_reducible show wpAny _ _ (call (Value.ref 28) _ _) _ _ _)); (fail_if_success (with_reducible show wpAny _ _ (call (Value.ref 35) _ _) _ _ _)); (fail_if_success (with_reducible show wpAny _ _ (call (Value.ref 42) _ _) _ _ _)); (fail_if_success (with_reducible show wpAny _ _ (call (Value.ref 49) _ _) _ _ _)); (fail_if_success (with_reducible show wpAny _ _ (call (Value.ref 56) _ _) _ _ _)); (fail_if_success (with_reducible show wpAny _ _ (call (Value.ref 63) _ _) _ _ _)); (fail_if_success (with_reducible show wpAny _ _ (call (Value.ref 70) _ _) _ _ _)); (first | walk1 | (dsimp only; walk1))) | ((fail_if_success (with_reducible show wpAny _ _ (pyIter _) _ _ _)); (fail_if_success (with_reducible show wpAny _ _ (exec (Stmt.For _ _ _ _ _) _) _ _ _)); (fail_if_success (with_reducible show wpAny _ _ (exec (Stmt.While _ _ _ _) _) _ _ _)); (fail_if_success (with_reducible show wpAny _ _ (call (Value.ref 21) _ _) _ _ _)); (fail_if_success (with_reducible show wpAny _ _ (call (Value.ref 28) _ _) _ _ _)); (fail_if_success (with_reducible show wpAny _ _ (call (Value.ref 35) _ _) _ _ _)); (fail_if_success (with_reducible show wpAny _ _ (call (Value.ref 42) _ _) _ _ _)); (fail_if_success (with_reducible show wpAny _ _ (call (Value.ref 49) _ _) _ _ _)); (fail_if_success (with_reducible show wpAny _ _ (call (Value.ref 56) _ _) _ _ _)); (fail_if_success (with_reducible show wpAny _ _ (call (Value.ref 63) _ _) _ _ _)); (fail_if_success (with_reducible show wpAny _ _ (call (Value.ref 70) _ _) _ _ _)); leave1; walk_say "STEP leave1"; try dsimp only) | fail "no step")))
              all_goals (try k_data)
              refine' ksw_while (σ := PeelSt) (PeelSt.led lp news) PeelSt.ps (fun _ => True) [Str.ofString "rest", Str.ofString "edge", Str.ofString "hit"] (PeelSt.ok wW (ghostOf S1.heap [(41, 37), (48, 44)]) R e ts lp news) (fun c => c.e) ⟨R, _, e, te, v, ledh, ts', [.str (stripF R) ty], 0⟩ ?F ?N trivial ?hk ?hp ?turn
              case F => assumption
              case N => assumption
              case hk =>
                simp only [PeelSt.ps, List.forall_mem_cons, List.not_mem_nil, false_implies, implies_true, and_true]
                refine ⟨?_, ?_, ?_⟩ <;> exact rfl
              case hp => exact ⟨hHit, hT', hG.sub fun p hp => .tail _ hp, lp_grow hlp hG, peel_start he1 hR10 hpath⟩
              case turn =>
                clear hHit hT' hG
                rintro ⟨rest, tr, e1, te1, v, ledh, ts1, vs, n⟩ u₂ h₂ tk₂ _ ⟨hHit, hT1, hG1, hap, hPe⟩ F₂ N₂
                dsimp only [PeelSt.led, PeelSt.ps] at hHit hT1 hG1 hap hPe F₂ N₂
                have hcnt := hPe.cnt (by omega)
                have hle1 := hPe.le
                have hsm1 := hPe.small
                have hlee := hPe.lee
                rcases hHit with ⟨rfl, hno⟩ | ⟨k, xh, rfl, hk, hd, hn, hH⟩
                · skip
                  --<EXIT
                  w_strict (repeat' ((fail_if_success (with_reducible show InvEndN _ _ _ _ _ _ _)); (fail_if_success (with_reducible show KswEnd _ _ _ _ _ _ _ _ _ _ _ _)); (fail_if_success (with_reducible show InvEndG _ _ _ _ _ _)); (first | (k_unfold; (try dsimp only)) | (k_end; wrow_close) | ((fail_if_success (with_reducible show wpAny _ _ (pyIter _) _ _ _)); (fail_if_success (with_reducible show wpAny _ _ (exec (Stmt.For _ _ _ _ _) _) _ _ _)); (fail_if_success (with_reducible show wpAny _ _ (exec (Stmt.While _ _ _ _) _) _ _ _)); (fail_if_success (with_reducible show wpAny _ _ (call (Value.ref 21) _ _) _ _ _)); (fail_if_success (with_reducible show wpAny _ _ (call (Value.ref 28) _ _) _ _ _)); (fail_if_success (with_reducible show wpAny _ _ (call (Value.ref 35) _ _) _ _ _)); (fail_if_success (with_reducible show wpAny _ _ (call (Value.ref 42) _ _) _ _ _)); (fail_if_success (with_reducible show wpAny _ _ (call (Value.ref 49) _ _) _ _ _)); (fail_if_success (with_reducible show wpAny _ _ (call (Value.ref 56) _ _) _ _ _)); (fail_if_success (with_reducible show wpAny _ _ (call (Value.ref 63) _ _) _ _ _)); (fail_if_success (with_reducible show wpAny _ _ (call (Value.ref 70) _ _) _ _ _)); (first | walk1 | (dsimp only; walk1))) | ((fail_if_success (with_reducible show wpAny _ _ (pyIter _) _ _ _)); (fail_if_success (with_reducible show wpAny _ _ (exec (Stmt.For _ _ _ _ _) _) _ _ _)); (fail_if_success (with_reducible show wpAny _ _ (exec (Stmt.While _ _ _ _) _) _ _ _)); (fail_if_success (with_reducible show wpAny _ _ (call (Value.ref 21) _ _) _ _ _)); (fail_if_success (with_reducible show wpAny _ _ (call (Value.ref 28) _ _) _ _ _)); (fail_if_success (with_reducible show wpAny _ _ (call (Value.ref 35) _ _) _ _ _)); (fail_if_success (with_reducible show wpAny _ _ (call (Value.ref 42) _ _) _ _ _)); (fail_if_success (with_reducible show wpAny _ _ (call (Value.ref 49) _ _) _ _ _)); (fail_if_success (with_reducible show wpAny _ _ (call (Value.ref 56) _ _) _ _ _)); (fail_if_success (with_reducible show wpAny _ _ (call (Value.ref 63) _ _) _ _ _)); (fail_if_success (with_reducible show wpAny _ _ (call (Value.ref 70) _ _) _ _ _)); leave1; walk_say "STEP leave1"; try dsimp only) | fail "no step")))
                  all_goals (try k_data)
                  have hps : Txt.slice R none (some (e : Int)) = mkS (R.cps.toList.take e) := slice_take he1
                  have hpl : (mkS (R.cps.toList.take e)).length ≤ 10 := by rw [mkS_len, List.length_take]; omega
                  have hpv := peel_done hPe hno
                  rename (Fr _ _ _ _) => FF
                  rename (News _ _ _ _) => NN
                  rw [hps] at FF
                  rw [hps]
                  refine wpAny_AA (parts_spec ⟨by assumption, by assumption, by assumption, rfl, rfl⟩ (by assumption) (by assumption) hpl ?_) rfl rfl rfl (Nat.le_of_ble_eq_true rfl) (Nat.le_of_ble_eq_true rfl)
                  intro lq wq nq hq' tkq hwq Fq Nq hlq
                  rw [mkS_list] at hwq
                  clear FF NN
                  w_strict (repeat' ((fail_if_success (with_reducible show InvEndN _ _ _ _ _ _ _)); (fail_if_success (with_reducible show KswEnd _ _ _ _ _ _ _ _ _ _ _ _)); (fail_if_success (with_reducible show InvEndG _ _ _ _ _ _)); (first | (k_unfold; (try dsimp only)) | (k_end; wrow_close) | ((fail_if_success (with_reducible show wpAny _ _ (pyIter _) _ _ _)); (fail_if_success (with_reducible show wpAny _ _ (exec (Stmt.For _ _ _ _ _) _) _ _ _)); (fail_if_success (with_reducible show wpAny _ _ (exec (Stmt.While _ _ _ _) _) _ _ _)); (fail_if_success (with_reducible show wpAny _ _ (call (Value.ref 21) _ _) _ _ _)); (fail_if_success (with_reducible show wpAny _ _ (call (Value.ref 28) _ _) _ _ _)); (fail_if_success (with_reducible show wpAny _ _ (call (Value.ref 35) _ _) _ _ _)); (fail_if_success (with_reducible show wpAny _ _ (call (Value.ref 42) _ _) _ _ _)); (fail_if_success (with_reducible show wpAny _ _ (call (Value.ref 49) _ _) _ _ _)); (fail_if_success (with_reducible show wpAny _ _ (call (Value.ref 56) _ _) _ _ _)); (fail_if_success (with_reducible show wpAny _ _ (call (Value.ref 63) _ _) _ _ _)); (fail_if_success (with_reducible show wpAny _ _ (call (Value.ref 70) _ _) _ _ _)); (fail_if_success (with_reducible show wpAny _ _ (subscriptTail _ _ (Value.ref _) _) _ _ _)); (first | walk1 | (dsimp only; walk1))) | ((fail_if_success (with_reducible show wpAny _ _ (pyIter _) _ _ _)); (fail_if_success (with_reducible show wpAny _ _ (exec (Stmt.For _ _ _ _ _) _) _ _ _)); (fail_if_success (with_reducible show wpAny _ _ (exec (Stmt.While _ _ _ _) _) _ _ _)); (fail_if_success (with_reducible show wpAny _ _ (call (Value.ref 21) _ _) _ _ _)); (fail_if_success (with_reducible show wpAny _ _ (call (Value.ref 28) _ _) _ _ _)); (fail_if_success (with_reducible show wpAny _ _ (call (Value.ref 35) _ _) _ _ _)); (fail_if_success (with_reducible show wpAny _ _ (call (Value.ref 42) _ _) _ _ _)); (fail_if_success (with_reducible show wpAny _ _ (call (Value.ref 49) _ _) _ _ _)); (fail_if_success (with_reducible show wpAny _ _ (call (Value.ref 56) _ _) _ _ _)); (fail_if_success (with_reducible show wpAny _ _ (call (Value.ref 63) _ _) _ _ _)); (fail_if_success (with_reducible show wpAny _ _ (call (Value.ref 70) _ _) _ _ _)); (fail_if_success (with_reducible show wpAny _ _ (subscriptTail _ _ (Value.ref _) _) _ _ _)); leave1; walk_say "STEP leave1"; try dsimp only) | fail "no step")))
                  all_goals (try k_data)
                  have hmlp : (lp, listOf vs.toArray n) ∈ (lq, listOf wq.toArray nq) :: (ledh ++ (TL ts1 ++ (lp, listOf vs.toArray n) :: news)) := .tail _ (List.mem_append_right _ (List.mem_append_right _ (.head _)))
                  refine' krv_lit (its := vs.toArray) (zs := vs.reverse) ?zF ?zN ?zl ?zk ?ze ?_ ?zs ?zt ?zz
                  case zF => k_asm
                  case zN => k_asm
                  case zl => exact News.isList (by assumption) hmlp
                  case zk => exact IsPart.int _ _
                  case ze => simp
                  case zs => with_unfolding_all rfl
                  case zt => kmk_pure
                  case zz => rw [List.size_toArray, sizeLine_eq]; omega
                  intro D5 h5 F5 N5 l5
                  w_strict (repeat' ((fail_if_success (with_reducible show InvEndN _ _ _ _ _ _ _)); (fail_if_success (with_reducible show KswEnd _ _ _ _ _ _ _ _ _ _ _ _)); (fail_if_success (with_reducible show InvEndG _ _ _ _ _ _)); (first | (k_unfold; (try dsimp only)) | (k_end; wrow_close) | ((fail_if_success (with_reducible show wpAny _ _ (pyIter _) _ _ _)); (fail_if_success (with_reducible show wpAny _ _ (exec (Stmt.For _ _ _ _ _) _) _ _ _)); (fail_if_success (with_reducible show wpAny _ _ (exec (Stmt.While _ _ _ _) _) _ _ _)); (fail_if_success (with_reducible show wpAny _ _ (call (Value.ref 21) _ _) _ _ _)); (fail_if_success (with_reducible show wpAny _ _ (call (Value.ref 28) _ _) _ _ _)); (fail_if_success (with_reducible show wpAny _ _ (call (Value.ref 35) _ _) _ _ _)); (fail_if_success (with_reducible show wpAny _ _ (call (Value.ref 42) _ _) _ _ _)); (fail_if_success (with_reducible show wpAny _ _ (call (Value.ref 49) _ _) _ _ _)); (fail_if_success (with_reducible show wpAny _ _ (call (Value.ref 56) _ _) _ _ _)); (fail_if_success (with_reducible show wpAny _ _ (call (Value.ref 63) _ _) _ _ _)); (fail_if_success (with_reducible show wpAny _ _ (call (Value.ref 70) _ _) _ _ _)); (fail_if_success (with_reducible show wpAny _ _ (compareOp CmpOp.NotEq (Value.ref _) (Value.ref _)) _ _ _)); (first | walk1 | (dsimp only; walk1))) | ((fail_if_success (with_reducible show wpAny _ _ (pyIter _) _ _ _)); (fail_if_success (with_reducible show wpAny _ _ (exec (Stmt.For _ _ _ _ _) _) _ _ _)); (fail_if_success (with_reducible show wpAny _ _ (exec (Stmt.While _ _ _ _) _) _ _ _)); (fail_if_success (with_reducible show wpAny _ _ (call (Value.ref 21) _ _) _ _ _)); (fail_if_success (with_reducible show wpAny _ _ (call (Value.ref 28) _ _) _ _ _)); (fail_if_success (with_reducible show wpAny _ _ (call (Value.ref 35) _ _) _ _ _)); (fail_if_success (with_reducible show wpAny _ _ (call (Value.ref 42) _ _) _ _ _)); (fail_if_success (with_reducible show wpAny _ _ (call (Value.ref 49) _ _) _ _ _)); (fail_if_success (with_reducible show wpAny _ _ (call (Value.ref 56) _ _) _ _ _)); (fail_if_success (with_reducible show wpAny _ _ (call (Value.ref 63) _ _) _ _ _)); (fail_if_success (with_reducible show wpAny _ _ (call (Value.ref 70) _ _) _ _ _)); (fail_if_success (with_reducible show wpAny _ _ (compareOp CmpOp.NotEq (Value.ref _) (Value.ref _)) _ _ _)); leave1; walk_say "STEP leave1"; try dsimp only) | fail "no step")))
                  all_goals (try k_data)
                  refine st_ne (News.isList (by assumption) (.head _)) (News.isList (by assumption) (.tail _ (.head _))) hpv hwq (strOk_parts hRal) (Nat.le_of_ble_eq_true rfl) ?_
                  w_strict (repeat' ((fail_if_success (with_reducible show InvEndN _ _ _ _ _ _ _)); (fail_if_success (with_reducible show KswEnd _ _ _ _ _ _ _ _ _ _ _ _)); (fail_if_success (with_reducible show InvEndG _ _ _ _ _ _)); (first | (k_unfold; (try dsimp only)) | (k_end; wrow_close) | ((fail_if_success (with_reducible show wpAny _ _ (pyIter _) _ _ _)); (fail_if_success (with_reducible show wpAny _ _ (exec (Stmt.For _ _ _ _ _) _) _ _ _)); (fail_if_success (with_reducible show wpAny _ _ (exec (Stmt.While _ _ _ _) _) _ _ _)); (fail_if_success (with_reducible show wpAny _ _ (call (Value.ref 21) _ _) _ _ _)); (fail_if_success (with_reducible show wpAny _ _ (call (Value.ref 28) _ _) _ _ _)); (fail_if_success (with_reducible show wpAny _ _ (call (Value.ref 35) _ _) _ _ _)); (fail_if_success (with_reducible show wpAny _ _ (call (Value.ref 42) _ _) _ _ _)); (fail_if_success (with_reducible show wpAny _ _ (call (Value.ref 49) _ _) _ _ _)); (fail_if_success (with_reducible show wpAny _ _ (call (Value.ref 56) _ _) _ _ _)); (fail_if_success (with_reducible show wpAny _ _ (call (Value.ref 63) _ _) _ _ _)); (fail_if_success (with_reducible show wpAny _ _ (call (Value.ref 70) _ _) _ _ _)); (fail_if_success (with_reducible show wpAny _ _ (exec (Stmt.If _ _ _ _) _) _ _ _)); (first | walk1 | (dsimp only; walk1))) | ((fail_if_success (with_reducible show wpAny _ _ (pyIter _) _ _ _)); (fail_if_success (with_reducible show wpAny _ _ (exec (Stmt.For _ _ _ _ _) _) _ _ _)); (fail_if_success (with_reducible show wpAny _ _ (exec (Stmt.While _ _ _ _) _) _ _ _)); (fail_if_success (with_reducible show wpAny _ _ (call (Value.ref 21) _ _) _ _ _)); (fail_if_success (with_reducible show wpAny _ _ (call (Value.ref 28) _ _) _ _ _)); (fail_if_success (with_reducible show wpAny _ _ (call (Value.ref 35) _ _) _ _ _)); (fail_if_success (with_reducible show wpAny _ _ (call (Value.ref 42) _ _) _ _ _)); (fail_if_success (with_reducible show wpAny _ _ (call (Value.ref 49) _ _) _ _ _)); (fail_if_success (with_reducible show wpAny _ _ (call (Value.ref 56) _ _) _ _ _)); (fail_if_success (with_reducible show wpAny _ _ (call (Value.ref 63) _ _) _ _ _)); (fail_if_success (with_reducible show wpAny _ _ (call (Value.ref 70) _ _) _ _ _)); (fail_if_success (with_reducible show wpAny _ _ (exec (Stmt.If _ _ _ _) _) _ _ _)); leave1; walk_say "STEP leave1"; try dsimp only) | fail "no step")))
                  all_goals (try k_data)
                  refine' merge_told (pairOf ((splitD (R.cps.toList.take e)).map mkS)) ?zF2 ?zN2 ?told1 ?told2
                  case zF2 => assumption
                  case zN2 => assumption
                  case told1 =>
                    intro Q' hQ'
                    rcases two_or hwq with ⟨p, q, t1, t2, hpq, rfl⟩ | ⟨hl2, hpn⟩
                    · skip
                      --<TWO
                      w_strict (repeat' ((fail_if_success (with_reducible show InvEndN _ _ _ _ _ _ _)); (fail_if_success (with_reducible show KswEnd _ _ _ _ _ _ _ _ _ _ _ _)); (fail_if_success (with_reducible show InvEndG _ _ _ _ _ _)); (fail_if_success (with_reducible show Q' _ _)); (first | (k_unfold; (try dsimp only)) | (k_end; wrow_close) | ((fail_if_success (with_reducible show wpAny _ _ (pyIter _) _ _ _)); (fail_if_success (with_reducible show wpAny _ _ (exec (Stmt.For _ _ _ _ _) _) _ _ _)); (fail_if_success (with_reducible show wpAny _ _ (exec (Stmt.While _ _ _ _) _) _ _ _)); (fail_if_success (with_reducible show wpAny _ _ (call (Value.ref 21) _ _) _ _ _)); (fail_if_success (with_reducible show wpAny _ _ (call (Value.ref 28) _ _) _ _ _)); (fail_if_success (with_reducible show wpAny _ _ (call (Value.ref 35) _ _) _ _ _)); (fail_if_success (with_reducible show wpAny _ _ (call (Value.ref 42) _ _) _ _ _)); (fail_if_success (with_reducible show wpAny _ _ (call (Value.ref 49) _ _) _ _ _)); (fail_if_success (with_reducible show wpAny _ _ (call (Value.ref 56) _ _) _ _ _)); (fail_if_success (with_reducible show wpAny _ _ (call (Value.ref 63) _ _) _ _ _)); (fail_if_success (with_reducible show wpAny _ _ (call (Value.ref 70) _ _) _ _ _)); (first | walk1 | (dsimp only; walk1))) | ((fail_if_success (with_reducible show wpAny _ _ (pyIter _) _ _ _)); (fail_if_success (with_reducible show wpAny _ _ (exec (Stmt.For _ _ _ _ _) _) _ _ _)); (fail_if_success (with_reducible show wpAny _ _ (exec (Stmt.While _ _ _ _) _) _ _ _)); (fail_if_success (with_reducible show wpAny _ _ (call (Value.ref 21) _ _) _ _ _)); (fail_if_success (with_reducible show wpAny _ _ (call (Value.ref 28) _ _) _ _ _)); (fail_if_success (with_reducible show wpAny _ _ (call (Value.ref 35) _ _) _ _ _)); (fail_if_success (with_reducible show wpAny _ _ (call (Value.ref 42) _ _) _ _ _)); (fail_if_success (with_reducible show wpAny _ _ (call (Value.ref 49) _ _) _ _ _)); (fail_if_success (with_reducible show wpAny _ _ (call (Value.ref 56) _ _) _ _ _)); (fail_if_success (with_reducible show wpAny _ _ (call (Value.ref 63) _ _) _ _ _)); (fail_if_success (with_reducible show wpAny _ _ (call (Value.ref 70) _ _) _ _ _)); leave1; walk_say "STEP leave1"; try dsimp only) | fail "no step")))
                      all_goals (try k_data)
                      have hnp := part_num (q := p) hRal he1 hR10 he2 (by rw [hpq]; exact .head _)
                      have hnq := part_num (q := q) hRal he1 hR10 he2 (by rw [hpq]; exact .tail _ (.head _))
                      refine wpAny_AA (number_spec ⟨by assumption, by assumption, by assumption, rfl, rfl⟩ (by assumption) (by assumption) hnp.1 hnp.2 ?_) rfl rfl rfl (Nat.le_of_ble_eq_true rfl) (Nat.le_of_ble_eq_true rfl)
                      intro v3 h6 tk6 t3 hv3 F6 N6
                      w_strict (repeat' ((fail_if_success (with_reducible show InvEndN _ _ _ _ _ _ _)); (fail_if_success (with_reducible show KswEnd _ _ _ _ _ _ _ _ _ _ _ _)); (fail_if_success (with_reducible show InvEndG _ _ _ _ _ _)); (fail_if_success (with_reducible show Q' _ _)); (first | (k_unfold; (try dsimp only)) | (k_end; wrow_close) | ((fail_if_success (with_reducible show wpAny _ _ (pyIter _) _ _ _)); (fail_if_success (with_reducible show wpAny _ _ (exec (Stmt.For _ _ _ _ _) _) _ _ _)); (fail_if_success (with_reducible show wpAny _ _ (exec (Stmt.While _ _ _ _) _) _ _ _)); (fail_if_success (with_reducible show wpAny _ _ (call (Value.ref 21) _ _) _ _ _)); (fail_if_success (with_reducible show wpAny _ _ (call (Value.ref 28) _ _) _ _ _)); (fail_if_success (with_reducible show wpAny _ _ (call (Value.ref 35) _ _) _ _ _)); (fail_if_success (with_reducible show wpAny _ _ (call (Value.ref 42) _ _) _ _ _)); (fail_if_success (with_reducible show wpAny _ _ (call (Value.ref 49) _ _) _ _ _)); (fail_if_success (with_reducible show wpAny _ _ (call (Value.ref 56) _ _) _ _ _)); (fail_if_success (with_reducible show wpAny _ _ (call (Value.ref 63) _ _) _ _ _)); (fail_if_success (with_reducible show wpAny _ _ (call (Value.ref 70) _ _) _ _ _)); (first | walk1 | (dsimp only; walk1))) | ((fail_if_success (with_reducible show wpAny _ _ (pyIter _) _ _ _)); (fail_if_success (with_reducible show wpAny _ _ (exec (Stmt.For _ _ _ _ _) _) _ _ _)); (fail_if_success (with_reducible show wpAny _ _ (exec (Stmt.While _ _ _ _) _) _ _ _)); (fail_if_success (with_reducible show wpAny _ _ (call (Value.ref 21) _ _) _ _ _)); (fail_if_success (with_reducible show wpAny _ _ (call (Value.ref 28) _ _) _ _ _)); (fail_if_success (with_reducible show wpAny _ _ (call (Value.ref 35) _ _) _ _ _)); (fail_if_success (with_reducible show wpAny _ _ (call (Value.ref 42) _ _) _ _ _)); (fail_if_success (with_reducible show wpAny _ _ (call (Value.ref 49) _ _) _ _ _)); (fail_if_success (with_reducible show wpAny _ _ (call (Value.ref 56) _ _) _ _ _)); (fail_if_success (with_reducible show wpAny _ _ (call (Value.ref 63) _ _) _ _ _)); (fail_if_success (with_reducible show wpAny _ _ (call (Value.ref 70) _ _) _ _ _)); leave1; walk_say "STEP leave1"; try dsimp only) | fail "no step")))
                      all_goals (try k_data)
                      refine wpAny_AA (number_spec ⟨by assumption, by assumption, by assumption, rfl, rfl⟩ (by assumption) (by assumption) hnq.1 hnq.2 ?_) rfl rfl rfl (Nat.le_of_ble_eq_true rfl) (Nat.le_of_ble_eq_true rfl)
                      intro v4 h7 tk7 t4 hv4 F7 N7
                      w_strict (repeat' ((fail_if_success (with_reducible show InvEndN _ _ _ _ _ _ _)); (fail_if_success (with_reducible show KswEnd _ _ _ _ _ _ _ _ _ _ _ _)); (fail_if_success (with_reducible show InvEndG _ _ _ _ _ _)); (fail_if_success (with_reducible show Q' _ _)); (first | (k_unfold; (try dsimp only)) | (k_end; wrow_close) | ((fail_if_success (with_reducible show wpAny _ _ (pyIter _) _ _ _)); (fail_if_success (with_reducible show wpAny _ _ (exec (Stmt.For _ _ _ _ _) _) _ _ _)); (fail_if_success (with_reducible show wpAny _ _ (exec (Stmt.While _ _ _ _) _) _ _ _)); (fail_if_success (with_reducible show wpAny _ _ (call (Value.ref 21) _ _) _ _ _)); (fail_if_success (with_reducible show wpAny _ _ (call (Value.ref 28) _ _) _ _ _)); (fail_if_success (with_reducible show wpAny _ _ (call (Value.ref 35) _ _) _ _ _)); (fail_if_success (with_reducible show wpAny _ _ (call (Value.ref 42) _ _) _ _ _)); (fail_if_success (with_reducible show wpAny _ _ (call (Value.ref 49) _ _) _ _ _)); (fail_if_success (with_reducible show wpAny _ _ (call (Value.ref 56) _ _) _ _ _)); (fail_if_success (with_reducible show wpAny _ _ (call (Value.ref 63) _ _) _ _ _)); (fail_if_success (with_reducible show wpAny _ _ (call (Value.ref 70) _ _) _ _ _)); (fail_if_success (with_reducible show wpAny _ _ (compareOp CmpOp.NotIn _ _) _ _ _)); (first | walk1 | (dsimp only; walk1))) | ((fail_if_success (with_reducible show wpAny _ _ (pyIter _) _ _ _)); (fail_if_success (with_reducible show wpAny _ _ (exec (Stmt.For _ _ _ _ _) _) _ _ _)); (fail_if_success (with_reducible show wpAny _ _ (exec (Stmt.While _ _ _ _) _) _ _ _)); (fail_if_success (with_reducible show wpAny _ _ (call (Value.ref 21) _ _) _ _ _)); (fail_if_success (with_reducible show wpAny _ _ (call (Value.ref 28) _ _) _ _ _)); (fail_if_success (with_reducible show wpAny _ _ (call (Value.ref 35) _ _) _ _ _)); (fail_if_success (with_reducible show wpAny _ _ (call (Value.ref 42) _ _) _ _ _)); (fail_if_success (with_reducible show wpAny _ _ (call (Value.ref 49) _ _) _ _ _)); (fail_if_success (with_reducible show wpAny _ _ (call (Value.ref 56) _ _) _ _ _)); (fail_if_success (with_reducible show wpAny _ _ (call (Value.ref 63) _ _) _ _ _)); (fail_if_success (with_reducible show wpAny _ _ (call (Value.ref 70) _ _) _ _ _)); (fail_if_success (with_reducible show wpAny _ _ (compareOp CmpOp.NotIn _ _) _ _ _)); leave1; walk_say "STEP leave1"; try dsimp only) | fail "no step")))
                      all_goals (try k_data)
                      rename (Fr _ _ _ _) => F8
                      rename (News _ _ _ _) => N8
                      obtain ⟨hT8', -⟩ := N8 _ (.head _)
                      rcases num_or hv3 with ⟨a, rfl, ha⟩ | ⟨rfl, ha⟩
                      · rcases num_or hv4 with ⟨b, rfl, hb⟩ | ⟨rfl, hb⟩
                        · refine nn_ii hT8' (Nat.le_of_ble_eq_true rfl) ?_
                          w_strict (repeat' ((fail_if_success (with_reducible show InvEndN _ _ _ _ _ _ _)); (fail_if_success (with_reducible show KswEnd _ _ _ _ _ _ _ _ _ _ _ _)); (fail_if_success (with_reducible show InvEndG _ _ _ _ _ _)); (fail_if_success (with_reducible show Q' _ _)); (first | (k_unfold; (try dsimp only)) | (k_end; wrow_close) | ((fail_if_success (with_reducible show wpAny _ _ (pyIter _) _ _ _)); (fail_if_success (with_reducible show wpAny _ _ (exec (Stmt.For _ _ _ _ _) _) _ _ _)); (fail_if_success (with_reducible show wpAny _ _ (exec (Stmt.While _ _ _ _) _) _ _ _)); (fail_if_success (with_reducible show wpAny _ _ (call (Value.ref 21) _ _) _ _ _)); (fail_if_success (with_reducible show wpAny _ _ (call (Value.ref 28) _ _) _ _ _)); (fail_if_success (with_reducible show wpAny _ _ (call (Value.ref 35) _ _) _ _ _)); (fail_if_success (with_reducible show wpAny _ _ (call (Value.ref 42) _ _) _ _ _)); (fail_if_success (with_reducible show wpAny _ _ (call (Value.ref 49) _ _) _ _ _)); (fail_if_success (with_reducible show wpAny _ _ (call (Value.ref 56) _ _) _ _ _)); (fail_if_success (with_reducible show wpAny _ _ (call (Value.ref 63) _ _) _ _ _)); (fail_if_success (with_reducible show wpAny _ _ (call (Value.ref 70) _ _) _ _ _)); (first | walk1 | (dsimp only; walk1))) | ((fail_if_success (with_reducible show wpAny _ _ (pyIter _) _ _ _)); (fail_if_success (with_reducible show wpAny _ _ (exec (Stmt.For _ _ _ _ _) _) _ _ _)); (fail_if_success (with_reducible show wpAny _ _ (exec (Stmt.While _ _ _ _) _) _ _ _)); (fail_if_success (with_reducible show wpAny _ _ (call (Value.ref 21) _ _) _ _ _)); (fail_if_success (with_reducible show wpAny _ _ (call (Value.ref 28) _ _) _ _ _)); (fail_if_success (with_reducible show wpAny _ _ (call (Value.ref 35) _ _) _ _ _)); (fail_if_success (with_reducible show wpAny _ _ (call (Value.ref 42) _ _) _ _ _)); (fail_if_success (with_reducible show wpAny _ _ (call (Value.ref 49) _ _) _ _ _)); (fail_if_success (with_reducible show wpAny _ _ (call (Value.ref 56) _ _) _ _ _)); (fail_if_success (with_reducible show wpAny _ _ (call (Value.ref 63) _ _) _ _ _)); (fail_if_success (with_reducible show wpAny _ _ (call (Value.ref 70) _ _) _ _ _)); leave1; walk_say "STEP leave1"; try dsimp only) | fail "no step")))
                          all_goals (try k_data)
                          rename (Fr _ _ _ _) => F9
                          rename (News _ _ _ _) => N9
                          exact hQ' _ [_] (some (.ref _)) _ _ (.inr ⟨a, b, _, t3, t4, pair_ii hpq ha hb, rfl, rfl⟩) (fr_eq F9 (told_two _ _)) N9
                        · refine nn_n hT8' (.inr ⟨_, _, rfl, rfl⟩) (.inl ⟨rfl, rfl⟩) (.inr rfl) (Nat.le_of_ble_eq_true rfl) ?_
                          w_strict (repeat' ((fail_if_success (with_reducible show InvEndN _ _ _ _ _ _ _)); (fail_if_success (with_reducible show KswEnd _ _ _ _ _ _ _ _ _ _ _ _)); (fail_if_success (with_reducible show InvEndG _ _ _ _ _ _)); (fail_if_success (with_reducible show Q' _ _)); (first | (k_unfold; (try dsimp only)) | (k_end; wrow_close) | ((fail_if_success (with_reducible show wpAny _ _ (pyIter _) _ _ _)); (fail_if_success (with_reducible show wpAny _ _ (exec (Stmt.For _ _ _ _ _) _) _ _ _)); (fail_if_success (with_reducible show wpAny _ _ (exec (Stmt.While _ _ _ _) _) _ _ _)); (fail_if_success (with_reducible show wpAny _ _ (call (Value.ref 21) _ _) _ _ _)); (fail_if_success (with_reducible show wpAny _ _ (call (Value.ref 28) _ _) _ _ _)); (fail_if_success (with_reducible show wpAny _ _ (call (Value.ref 35) _ _) _ _ _)); (fail_if_success (with_reducible show wpAny _ _ (call (Value.ref 42) _ _) _ _ _)); (fail_if_success (with_reducible show wpAny _ _ (call (Value.ref 49) _ _) _ _ _)); (fail_if_success (with_reducible show wpAny _ _ (call (Value.ref 56) _ _) _ _ _)); (fail_if_success (with_reducible show wpAny _ _ (call (Value.ref 63) _ _) _ _ _)); (fail_if_success (with_reducible show wpAny _ _ (call (Value.ref 70) _ _) _ _ _)); (first | walk1 | (dsimp only; walk1))) | ((fail_if_success (with_reducible show wpAny _ _ (pyIter _) _ _ _)); (fail_if_success (with_reducible show wpAny _ _ (exec (Stmt.For _ _ _ _ _) _) _ _ _)); (fail_if_success (with_reducible show wpAny _ _ (exec (Stmt.While _ _ _ _) _) _ _ _)); (fail_if_success (with_reducible show wpAny _ _ (call (Value.ref 21) _ _) _ _ _)); (fail_if_success (with_reducible show wpAny _ _ (call (Value.ref 28) _ _) _ _ _)); (fail_if_success (with_reducible show wpAny _ _ (call (Value.ref 35) _ _) _ _ _)); (fail_if_success (with_reducible show wpAny _ _ (call (Value.ref 42) _ _) _ _ _)); (fail_if_success (with_reducible show wpAny _ _ (call (Value.ref 49) _ _) _ _ _)); (fail_if_success (with_reducible show wpAny _ _ (call (Value.ref 56) _ _) _ _ _)); (fail_if_success (with_reducible show wpAny _ _ (call (Value.ref 63) _ _) _ _ _)); (fail_if_success (with_reducible show wpAny _ _ (call (Value.ref 70) _ _) _ _ _)); leave1; walk_say "STEP leave1"; try dsimp only) | fail "no step")))
                          all_goals (try k_data)
                          exact hQ' .none [] _ _ _ (.inl ⟨pair_no hpq (.inr hb), rfl, rfl⟩) (told_worths (by assumption) rfl) (news_tl (by assumption))
                      · rcases num_or hv4 with ⟨b, rfl, hb⟩ | ⟨rfl, hb⟩
                        · refine nn_n hT8' (.inl ⟨rfl, rfl⟩) (.inr ⟨_, _, rfl, rfl⟩) (.inl rfl) (Nat.le_of_ble_eq_true rfl) ?_
                          w_strict (repeat' ((fail_if_success (with_reducible show InvEndN _ _ _ _ _ _ _)); (fail_if_success (with_reducible show KswEnd _ _ _ _ _ _ _ _ _ _ _ _)); (fail_if_success (with_reducible show InvEndG _ _ _ _ _ _)); (fail_if_success (with_reducible show Q' _ _)); (first | (k_unfold; (try dsimp only)) | (k_end; wrow_close) | ((fail_if_success (with_reducible show wpAny _ _ (pyIter _) _ _ _)); (fail_if_success (with_reducible show wpAny _ _ (exec (Stmt.For _ _ _ _ _) _) _ _ _)); (fail_if_success (with_reducible show wpAny _ _ (exec (Stmt.While _ _ _ _) _) _ _ _)); (fail_if_success (with_reducible show wpAny _ _ (call (Value.ref 21) _ _) _ _ _)); (fail_if_success (with_reducible show wpAny _ _ (call (Value.ref 28) _ _) _ _ _)); (fail_if_success (with_reducible show wpAny _ _ (call (Value.ref 35) _ _) _ _ _)); (fail_if_success (with_reducible show wpAny _ _ (call (Value.ref 42) _ _) _ _ _)); (fail_if_success (with_reducible show wpAny _ _ (call (Value.ref 49) _ _) _ _ _)); (fail_if_success (with_reducible show wpAny _ _ (call (Value.ref 56) _ _) _ _ _)); (fail_if_success (with_reducible show wpAny _ _ (call (Value.ref 63) _ _) _ _ _)); (fail_if_success (with_reducible show wpAny _ _ (call (Value.ref 70) _ _) _ _ _)); (first | walk1 | (dsimp only; walk1))) | ((fail_if_success (with_reducible show wpAny _ _ (pyIter _) _ _ _)); (fail_if_success (with_reducible show wpAny _ _ (exec (Stmt.For _ _ _ _ _) _) _ _ _)); (fail_if_success (with_reducible show wpAny _ _ (exec (Stmt.While _ _ _ _) _) _ _ _)); (fail_if_success (with_reducible show wpAny _ _ (call (Value.ref 21) _ _) _ _ _)); (fail_if_success (with_reducible show wpAny _ _ (call (Value.ref 28) _ _) _ _ _)); (fail_if_success (with_reducible show wpAny _ _ (call (Value.ref 35) _ _) _ _ _)); (fail_if_success (with_reducible show wpAny _ _ (call (Value.ref 42) _ _) _ _ _)); (fail_if_success (with_reducible show wpAny _ _ (call (Value.ref 49) _ _) _ _ _)); (fail_if_success (with_reducible show wpAny _ _ (call (Value.ref 56) _ _) _ _ _)); (fail_if_success (with_reducible show wpAny _ _ (call (Value.ref 63) _ _) _ _ _)); (fail_if_success (with_reducible show wpAny _ _ (call (Value.ref 70) _ _) _ _ _)); leave1; walk_say "STEP leave1"; try dsimp only) | fail "no step")))
                          all_goals (try k_data)
                          exact hQ' .none [] _ _ _ (.inl ⟨pair_no hpq (.inl ha), rfl, rfl⟩) (told_worths (by assumption) rfl) (news_tl (by assumption))
                        · refine nn_n hT8' (.inl ⟨rfl, rfl⟩) (.inl ⟨rfl, rfl⟩) (.inl rfl) (Nat.le_of_ble_eq_true rfl) ?_
                          w_strict (repeat' ((fail_if_success (with_reducible show InvEndN _ _ _ _ _ _ _)); (fail_if_success (with_reducible show KswEnd _ _ _ _ _ _ _ _ _ _ _ _)); (fail_if_success (with_reducible show InvEndG _ _ _ _ _ _)); (fail_if_success (with_reducible show Q' _ _)); (first | (k_unfold; (try dsimp only)) | (k_end; wrow_close) | ((fail_if_success (with_reducible show wpAny _ _ (pyIter _) _ _ _)); (fail_if_success (with_reducible show wpAny _ _ (exec (Stmt.For _ _ _ _ _) _) _ _ _)); (fail_if_success (with_reducible show wpAny _ _ (exec (Stmt.While _ _ _ _) _) _ _ _)); (fail_if_success (with_reducible show wpAny _ _ (call (Value.ref 21) _ _) _ _ _)); (fail_if_success (with_reducible show wpAny _ _ (call (Value.ref 28) _ _) _ _ _)); (fail_if_success (with_reducible show wpAny _ _ (call (Value.ref 35) _ _) _ _ _)); (fail_if_success (with_reducible show wpAny _ _ (call (Value.ref 42) _ _) _ _ _)); (fail_if_success (with_reducible show wpAny _ _ (call (Value.ref 49) _ _) _ _ _)); (fail_if_success (with_reducible show wpAny _ _ (call (Value.ref 56) _ _) _ _ _)); (fail_if_success (with_reducible show wpAny _ _ (call (Value.ref 63) _ _) _ _ _)); (fail_if_success (with_reducible show wpAny _ _ (call (Value.ref 70) _ _) _ _ _)); (first | walk1 | (dsimp only; walk1))) | ((fail_if_success (with_reducible show wpAny _ _ (pyIter _) _ _ _)); (fail_if_success (with_reducible show wpAny _ _ (exec (Stmt.For _ _ _ _ _) _) _ _ _)); (fail_if_success (with_reducible show wpAny _ _ (exec (Stmt.While _ _ _ _) _) _ _ _)); (fail_if_success (with_reducible show wpAny _ _ (call (Value.ref 21) _ _) _ _ _)); (fail_if_success (with_reducible show wpAny _ _ (call (Value.ref 28) _ _) _ _ _)); (fail_if_success (with_reducible show wpAny _ _ (call (Value.ref 35) _ _) _ _ _)); (fail_if_success (with_reducible show wpAny _ _ (call (Value.ref 42) _ _) _ _ _)); (fail_if_success (with_reducible show wpAny _ _ (call (Value.ref 49) _ _) _ _ _)); (fail_if_success (with_reducible show wpAny _ _ (call (Value.ref 56) _ _) _ _ _)); (fail_if_success (with_reducible show wpAny _ _ (call (Value.ref 63) _ _) _ _ _)); (fail_if_success (with_reducible show wpAny _ _ (call (Value.ref 70) _ _) _ _ _)); leave1; walk_say "STEP leave1"; try dsimp only) | fail "no step")))
                          all_goals (try k_data)
                          exact hQ' .none [] _ _ _ (.inl ⟨pair_no hpq (.inl ha), rfl, rfl⟩) (told_worths (by assumption) rfl) (news_tl (by assumption))
                      -->TWO
                    · have hl3 : ¬ ((wq.length : Int) = 2) := by omega
                      --<NOT2
                      w_strict (repeat' ((fail_if_success (with_reducible show InvEndN _ _ _ _ _ _ _)); (fail_if_success (with_reducible show KswEnd _ _ _ _ _ _ _ _ _ _ _ _)); (fail_if_success (with_reducible show InvEndG _ _ _ _ _ _)); (fail_if_success (with_reducible show Q' _ _)); (first | (k_unfold; (try dsimp only)) | (k_end; wrow_close) | ((fail_if_success (with_reducible show wpAny _ _ (pyIter _) _ _ _)); (fail_if_success (with_reducible show wpAny _ _ (exec (Stmt.For _ _ _ _ _) _) _ _ _)); (fail_if_success (with_reducible show wpAny _ _ (exec (Stmt.While _ _ _ _) _) _ _ _)); (fail_if_success (with_reducible show wpAny _ _ (call (Value.ref 21) _ _) _ _ _)); (fail_if_success (with_reducible show wpAny _ _ (call (Value.ref 28) _ _) _ _ _)); (fail_if_success (with_reducible show wpAny _ _ (call (Value.ref 35) _ _) _ _ _)); (fail_if_success (with_reducible show wpAny _ _ (call (Value.ref 42) _ _) _ _ _)); (fail_if_success (with_reducible show wpAny _ _ (call (Value.ref 49) _ _) _ _ _)); (fail_if_success (with_reducible show wpAny _ _ (call (Value.ref 56) _ _) _ _ _)); (fail_if_success (with_reducible show wpAny _ _ (call (Value.ref 63) _ _) _ _ _)); (fail_if_success (with_reducible show wpAny _ _ (call (Value.ref 70) _ _) _ _ _)); (fail_if_success (with_reducible show wpAny _ _ (call (Value.builtin "len") _ _) _ _ _)); (first | walk1 | (dsimp only; walk1))) | ((fail_if_success (with_reducible show wpAny _ _ (pyIter _) _ _ _)); (fail_if_success (with_reducible show wpAny _ _ (exec (Stmt.For _ _ _ _ _) _) _ _ _)); (fail_if_success (with_reducible show wpAny _ _ (exec (Stmt.While _ _ _ _) _) _ _ _)); (fail_if_success (with_reducible show wpAny _ _ (call (Value.ref 21) _ _) _ _ _)); (fail_if_success (with_reducible show wpAny _ _ (call (Value.ref 28) _ _) _ _ _)); (fail_if_success (with_reducible show wpAny _ _ (call (Value.ref 35) _ _) _ _ _)); (fail_if_success (with_reducible show wpAny _ _ (call (Value.ref 42) _ _) _ _ _)); (fail_if_success (with_reducible show wpAny _ _ (call (Value.ref 49) _ _) _ _ _)); (fail_if_success (with_reducible show wpAny _ _ (call (Value.ref 56) _ _) _ _ _)); (fail_if_success (with_reducible show wpAny _ _ (call (Value.ref 63) _ _) _ _ _)); (fail_if_success (with_reducible show wpAny _ _ (call (Value.ref 70) _ _) _ _ _)); (fail_if_success (with_reducible show wpAny _ _ (call (Value.builtin "len") _ _) _ _ _)); leave1; walk_say "STEP leave1"; try dsimp only) | fail "no step")))
                      all_goals (try k_data)
                      have hwl := wlen (n := 10) hwq (by rw [List.length_take]; omega)
                      refine kun_lenL (k := (wq.length : Int)) (News.isList (by assumption) (.tail _ (.head _))) (by rw [List.size_toArray]) (by omega) ?_
                      w_strict (repeat' ((fail_if_success (with_reducible show InvEndN _ _ _ _ _ _ _)); (fail_if_success (with_reducible show KswEnd _ _ _ _ _ _ _ _ _ _ _ _)); (fail_if_success (with_reducible show InvEndG _ _ _ _ _ _)); (fail_if_success (with_reducible show Q' _ _)); (first | (k_unfold; (try dsimp only)) | (k_end; wrow_close) | ((fail_if_success (with_reducible show wpAny _ _ (pyIter _) _ _ _)); (fail_if_success (with_reducible show wpAny _ _ (exec (Stmt.For _ _ _ _ _) _) _ _ _)); (fail_if_success (with_reducible show wpAny _ _ (exec (Stmt.While _ _ _ _) _) _ _ _)); (fail_if_success (with_reducible show wpAny _ _ (call (Value.ref 21) _ _) _ _ _)); (fail_if_success (with_reducible show wpAny _ _ (call (Value.ref 28) _ _) _ _ _)); (fail_if_success (with_reducible show wpAny _ _ (call (Value.ref 35) _ _) _ _ _)); (fail_if_success (with_reducible show wpAny _ _ (call (Value.ref 42) _ _) _ _ _)); (fail_if_success (with_reducible show wpAny _ _ (call (Value.ref 49) _ _) _ _ _)); (fail_if_success (with_reducible show wpAny _ _ (call (Value.ref 56) _ _) _ _ _)); (fail_if_success (with_reducible show wpAny _ _ (call (Value.ref 63) _ _) _ _ _)); (fail_if_success (with_reducible show wpAny _ _ (call (Value.ref 70) _ _) _ _ _)); (first | walk1 | (dsimp only; walk1))) | ((fail_if_success (with_reducible show wpAny _ _ (pyIter _) _ _ _)); (fail_if_success (with_reducible show wpAny _ _ (exec (Stmt.For _ _ _ _ _) _) _ _ _)); (fail_if_success (with_reducible show wpAny _ _ (exec (Stmt.While _ _ _ _) _) _ _ _)); (fail_if_success (with_reducible show wpAny _ _ (call (Value.ref 21) _ _) _ _ _)); (fail_if_success (with_reducible show wpAny _ _ (call (Value.ref 28) _ _) _ _ _)); (fail_if_success (with_reducible show wpAny _ _ (call (Value.ref 35) _ _) _ _ _)); (fail_if_success (with_reducible show wpAny _ _ (call (Value.ref 42) _ _) _ _ _)); (fail_if_success (with_reducible show wpAny _ _ (call (Value.ref 49) _ _) _ _ _)); (fail_if_success (with_reducible show wpAny _ _ (call (Value.ref 56) _ _) _ _ _)); (fail_if_success (with_reducible show wpAny _ _ (call (Value.ref 63) _ _) _ _ _)); (fail_if_success (with_reducible show wpAny _ _ (call (Value.ref 70) _ _) _ _ _)); leave1; walk_say "STEP leave1"; try dsimp only) | fail "no step")))
                      all_goals (try k_data)
                      · exfalso; omega
                      · exact hQ' .none [] _ _ _ (.inl ⟨hpn, rfl, rfl⟩) (told_keep (by assumption) rfl) (by assumption)
                      -->NOT2
                  case told2 =>
                    rename (Fr _ _ _ _) => FZ
                    rename (News _ _ _ _) => NZ
                    clear FZ NZ
                    intro v3 ledt u3 h6 tk6 hv3 F6 N6
                    --<TRY
                    w_strict (repeat' ((fail_if_success (with_reducible show InvEndN _ _ _ _ _ _ _)); (fail_if_success (with_reducible show KswEnd _ _ _ _ _ _ _ _ _ _ _ _)); (fail_if_success (with_reducible show InvEndG _ _ _ _ _ _)); (first | (k_unfold; (try dsimp only)) | (k_end; wrow_close) | ((fail_if_success (with_reducible show wpAny _ _ (pyIter _) _ _ _)); (fail_if_success (with_reducible show wpAny _ _ (exec (Stmt.For _ _ _ _ _) _) _ _ _)); (fail_if_success (with_reducible show wpAny _ _ (exec (Stmt.While _ _ _ _) _) _ _ _)); (fail_if_success (with_reducible show wpAny _ _ (call (Value.ref 21) _ _) _ _ _)); (fail_if_success (with_reducible show wpAny _ _ (call (Value.ref 28) _ _) _ _ _)); (fail_if_success (with_reducible show wpAny _ _ (call (Value.ref 35) _ _) _ _ _)); (fail_if_success (with_reducible show wpAny _ _ (call (Value.ref 42) _ _) _ _ _)); (fail_if_success (with_reducible show wpAny _ _ (call (Value.ref 49) _ _) _ _ _)); (fail_if_success (with_reducible show wpAny _ _ (call (Value.ref 56) _ _) _ _ _)); (fail_if_success (with_reducible show wpAny _ _ (call (Value.ref 63) _ _) _ _ _)); (fail_if_success (with_reducible show wpAny _ _ (call (Value.ref 70) _ _) _ _ _)); (first | walk1 | (dsimp only; walk1))) | ((fail_if_success (with_reducible show wpAny _ _ (pyIter _) _ _ _)); (fail_if_success (with_reducible show wpAny _ _ (exec (Stmt.For _ _ _ _ _) _) _ _ _)); (fail_if_success (with_reducible show wpAny _ _ (exec (Stmt.While _ _ _ _) _) _ _ _)); (fail_if_success (with_reducible show wpAny _ _ (call (Value.ref 21) _ _) _ _ _)); (fail_if_success (with_reducible show wpAny _ _ (call (Value.ref 28) _ _) _ _ _)); (fail_if_success (with_reducible show wpAny _ _ (call (Value.ref 35) _ _) _ _ _)); (fail_if_success (with_reducible show wpAny _ _ (call (Value.ref 42) _ _) _ _ _)); (fail_if_success (with_reducible show wpAny _ _ (call (Value.ref 49) _ _) _ _ _)); (fail_if_success (with_reducible show wpAny _ _ (call (Value.ref 56) _ _) _ _ _)); (fail_if_success (with_reducible show wpAny _ _ (call (Value.ref 63) _ _) _ _ _)); (fail_if_success (with_reducible show wpAny _ _ (call (Value.ref 70) _ _) _ _ _)); leave1; walk_say "STEP leave1"; try dsimp only) | fail "no step")))
                    all_goals (try k_data)
                    refine' wpAny_AA (glc_spec ⟨by assumption, by assumption, by assumption, rfl, rfl⟩ (by assumption) (by assumption) hpl (path_low hRal) ?ok ?bad) rfl rfl rfl (Nat.le_of_ble_eq_true rfl) (Nat.le_of_ble_eq_true rfl)
                    case ok =>
                      intro a b tt u1 u2 h8 tk8 hpair F8 N8 hlt8
                      rw [mkS_list] at hpair
                      rcases hv3 with ⟨hn3, -, -⟩ | ⟨a', b', tw, ta, tb, hp3, rfl, rfl⟩
                      · rw [hn3] at hpair; cases hpair
                      · rw [hpair] at hp3
                        cases hp3
                        w_strict (repeat' ((fail_if_success (with_reducible show InvEndN _ _ _ _ _ _ _)); (fail_if_success (with_reducible show KswEnd _ _ _ _ _ _ _ _ _ _ _ _)); (fail_if_success (with_reducible show InvEndG _ _ _ _ _ _)); (first | (k_unfold; (try dsimp only)) | (k_end; wrow_close) | ((fail_if_success (with_reducible show wpAny _ _ (pyIter _) _ _ _)); (fail_if_success (with_reducible show wpAny _ _ (exec (Stmt.For _ _ _ _ _) _) _ _ _)); (fail_if_success (with_reducible show wpAny _ _ (exec (Stmt.While _ _ _ _) _) _ _ _)); (fail_if_success (with_reducible show wpAny _ _ (call (Value.ref 21) _ _) _ _ _)); (fail_if_success (with_reducible show wpAny _ _ (call (Value.ref 28) _ _) _ _ _)); (fail_if_success (with_reducible show wpAny _ _ (call (Value.ref 35) _ _) _ _ _)); (fail_if_success (with_reducible show wpAny _ _ (call (Value.ref 42) _ _) _ _ _)); (fail_if_success (with_reducible show wpAny _ _ (call (Value.ref 49) _ _) _ _ _)); (fail_if_success (with_reducible show wpAny _ _ (call (Value.ref 56) _ _) _ _ _)); (fail_if_success (with_reducible show wpAny _ _ (call (Value.ref 63) _ _) _ _ _)); (fail_if_success (with_reducible show wpAny _ _ (call (Value.ref 70) _ _) _ _ _)); (fail_if_success (with_reducible show wpAny _ _ (compareOp CmpOp.NotEq _ _) _ _ _)); (first | walk1 | (dsimp only; walk1))) | ((fail_if_success (with_reducible show wpAny _ _ (pyIter _) _ _ _)); (fail_if_success (with_reducible show wpAny _ _ (exec (Stmt.For _ _ _ _ _) _) _ _ _)); (fail_if_success (with_reducible show wpAny _ _ (exec (Stmt.While _ _ _ _) _) _ _ _)); (fail_if_success (with_reducible show wpAny _ _ (call (Value.ref 21) _ _) _ _ _)); (fail_if_success (with_reducible show wpAny _ _ (call (Value.ref 28) _ _) _ _ _)); (fail_if_success (with_reducible show wpAny _ _ (call (Value.ref 35) _ _) _ _ _)); (fail_if_success (with_reducible show wpAny _ _ (call (Value.ref 42) _ _) _ _ _)); (fail_if_success (with_reducible show wpAny _ _ (call (Value.ref 49) _ _) _ _ _)); (fail_if_success (with_reducible show wpAny _ _ (call (Value.ref 56) _ _) _ _ _)); (fail_if_success (with_reducible show wpAny _ _ (call (Value.ref 63) _ _) _ _ _)); (fail_if_success (with_reducible show wpAny _ _ (call (Value.ref 70) _ _) _ _ _)); (fail_if_success (with_reducible show wpAny _ _ (compareOp CmpOp.NotEq _ _) _ _ _)); leave1; walk_say "STEP leave1"; try dsimp only) | fail "no step")))
                        all_goals (try k_data)
                        refine tup_ne ((by assumption : News _ _ _ _) _ (.head _)).1 ((by assumption : News _ _ _ _) _ (.tail _ (.head _))).1 (Nat.le_of_ble_eq_true rfl) ?_
                        w_strict (repeat' ((fail_if_success (with_reducible show InvEndN _ _ _ _ _ _ _)); (fail_if_success (with_reducible show KswEnd _ _ _ _ _ _ _ _ _ _ _ _)); (fail_if_success (with_reducible show InvEndG _ _ _ _ _ _)); (first | (k_unfold; (try dsimp only)) | (k_end; wrow_close) | ((fail_if_success (with_reducible show wpAny _ _ (pyIter _) _ _ _)); (fail_if_success (with_reducible show wpAny _ _ (exec (Stmt.For _ _ _ _ _) _) _ _ _)); (fail_if_success (with_reducible show wpAny _ _ (exec (Stmt.While _ _ _ _) _) _ _ _)); (fail_if_success (with_reducible show wpAny _ _ (call (Value.ref 21) _ _) _ _ _)); (fail_if_success (with_reducible show wpAny _ _ (call (Value.ref 28) _ _) _ _ _)); (fail_if_success (with_reducible show wpAny _ _ (call (Value.ref 35) _ _) _ _ _)); (fail_if_success (with_reducible show wpAny _ _ (call (Value.ref 42) _ _) _ _ _)); (fail_if_success (with_reducible show wpAny _ _ (call (Value.ref 49) _ _) _ _ _)); (fail_if_success (with_reducible show wpAny _ _ (call (Value.ref 56) _ _) _ _ _)); (fail_if_success (with_reducible show wpAny _ _ (call (Value.ref 63) _ _) _ _ _)); (fail_if_success (with_reducible show wpAny _ _ (call (Value.ref 70) _ _) _ _ _)); (first | walk1 | (dsimp only; walk1))) | ((fail_if_success (with_reducible show wpAny _ _ (pyIter _) _ _ _)); (fail_if_success (with_reducible show wpAny _ _ (exec (Stmt.For _ _ _ _ _) _) _ _ _)); (fail_if_success (with_reducible show wpAny _ _ (exec (Stmt.While _ _ _ _) _) _ _ _)); (fail_if_success (with_reducible show wpAny _ _ (call (Value.ref 21) _ _) _ _ _)); (fail_if_success (with_reducible show wpAny _ _ (call (Value.ref 28) _ _) _ _ _)); (fail_if_success (with_reducible show wpAny _ _ (call (Value.ref 35) _ _) _ _ _)); (fail_if_success (with_reducible show wpAny _ _ (call (Value.ref 42) _ _) _ _ _)); (fail_if_success (with_reducible show wpAny _ _ (call (Value.ref 49) _ _) _ _ _)); (fail_if_success (with_reducible show wpAny _ _ (call (Value.ref 56) _ _) _ _ _)); (fail_if_success (with_reducible show wpAny _ _ (call (Value.ref 63) _ _) _ _ _)); (fail_if_success (with_reducible show wpAny _ _ (call (Value.ref 70) _ _) _ _ _)); leave1; walk_say "STEP leave1"; try dsimp only) | fail "no step")))
                        all_goals (try k_data)
                        refine' rg_end (ts := ts) (ts' := ts1) ?zF ?zN hT1 ?hn hoff2 (by rw [← hnews] at hG1; exact hG1) hGj ?hm
                        case zF => assumption
                        case zN => assumption
                        case hn => exact fun p hp => .tail _ (List.mem_append_right _ (.tail _ (.tail _ (end_mem hnews p hp))))
                        case hm =>
                          intro z hz hs
                          obtain ⟨z1, z2, z3, z4, z5, z6, z7, z8, z9, zc, zd⟩ := off9 hs
                          simp only [kstB, if_neg z1, if_neg z2, if_neg z3, if_neg z4, if_neg z5, if_neg z6, if_neg z7, if_neg z8, if_neg z9, zc, zd, if_neg hz, hs, Bool.false_eq_true, if_false]
                    case bad =>
                      intro hpair e8 g8 h8 tk8 F8 U8 R8
                      rw [mkS_list] at hpair
                      rcases hv3 with ⟨hn3, rfl, rfl⟩ | ⟨a', b', tw, ta, tb, hp3, rfl, rfl⟩
                      · skip
                        w_strict (repeat' ((fail_if_success (with_reducible show InvEndN _ _ _ _ _ _ _)); (fail_if_success (with_reducible show KswEnd _ _ _ _ _ _ _ _ _ _ _ _)); (fail_if_success (with_reducible show InvEndG _ _ _ _ _ _)); (first | (k_unfold; (try dsimp only)) | (k_end; wrow_close) | ((fail_if_success (with_reducible show wpAny _ _ (pyIter _) _ _ _)); (fail_if_success (with_reducible show wpAny _ _ (exec (Stmt.For _ _ _ _ _) _) _ _ _)); (fail_if_success (with_reducible show wpAny _ _ (exec (Stmt.While _ _ _ _) _) _ _ _)); (fail_if_success (with_reducible show wpAny _ _ (call (Value.ref 21) _ _) _ _ _)); (fail_if_success (with_reducible show wpAny _ _ (call (Value.ref 28) _ _) _ _ _)); (fail_if_success (with_reducible show wpAny _ _ (call (Value.ref 35) _ _) _ _ _)); (fail_if_success (with_reducible show wpAny _ _ (call (Value.ref 42) _ _) _ _ _)); (fail_if_success (with_reducible show wpAny _ _ (call (Value.ref 49) _ _) _ _ _)); (fail_if_success (with_reducible show wpAny _ _ (call (Value.ref 56) _ _) _ _ _)); (fail_if_success (with_reducible show wpAny _ _ (call (Value.ref 63) _ _) _ _ _)); (fail_if_success (with_reducible show wpAny _ _ (call (Value.ref 70) _ _) _ _ _)); (first | walk1 | (dsimp only; walk1))) | ((fail_if_success (with_reducible show wpAny _ _ (pyIter _) _ _ _)); (fail_if_success (with_reducible show wpAny _ _ (exec (Stmt.For _ _ _ _ _) _) _ _ _)); (fail_if_success (with_reducible show wpAny _ _ (exec (Stmt.While _ _ _ _) _) _ _ _)); (fail_if_success (with_reducible show wpAny _ _ (call (Value.ref 21) _ _) _ _ _)); (fail_if_success (with_reducible show wpAny _ _ (call (Value.ref 28) _ _) _ _ _)); (fail_if_success (with_reducible show wpAny _ _ (call (Value.ref 35) _ _) _ _ _)); (fail_if_success (with_reducible show wpAny _ _ (call (Value.ref 42) _ _) _ _ _)); (fail_if_success (with_reducible show wpAny _ _ (call (Value.ref 49) _ _) _ _ _)); (fail_if_success (with_reducible show wpAny _ _ (call (Value.ref 56) _ _) _ _ _)); (fail_if_success (with_reducible show wpAny _ _ (call (Value.ref 63) _ _) _ _ _)); (fail_if_success (with_reducible show wpAny _ _ (call (Value.ref 70) _ _) _ _ _)); leave1; walk_say "STEP leave1"; try dsimp only) | fail "no step")))
                        all_goals (try k_data)
                        refine' rg_end (ts := ts) (ts' := ts1) ?zF ?zN hT1 ?hn hoff2 (by rw [← hnews] at hG1; exact hG1) hGj ?hm
                        case zF => assumption
                        case zN => assumption
                        case hn => exact fun p hp => List.mem_append_right _ (.tail _ (.tail _ (end_mem hnews p hp)))
                        case hm =>
                          intro z hz hs
                          obtain ⟨z1, z2, z3, z4, z5, z6, z7, z8, z9, zc, zd⟩ := off9 hs
                          simp only [kstB, if_neg z1, if_neg z2, if_neg z3, if_neg z4, if_neg z5, if_neg z6, if_neg z7, if_neg z8, if_neg z9, zc, zd, if_neg hz, hs, Bool.false_eq_true, if_false]
                      · rw [hpair] at hp3; cases hp3
                    -->TRY
                  -->EXIT
                · skip
                  --<HIT
                  w_strict (repeat' ((fail_if_success (with_reducible show InvEndN _ _ _ _ _ _ _)); (fail_if_success (with_reducible show KswEnd _ _ _ _ _ _ _ _ _ _ _ _)); (fail_if_success (with_reducible show InvEndG _ _ _ _ _ _)); (first | (k_unfold; (try dsimp only)) | (k_end; wrow_close) | ((fail_if_success (with_reducible show wpAny _ _ (pyIter _) _ _ _)); (fail_if_success (with_reducible show wpAny _ _ (exec (Stmt.For _ _ _ _ _) _) _ _ _)); (fail_if_success (with_reducible show wpAny _ _ (exec (Stmt.While _ _ _ _) _) _ _ _)); (fail_if_success (with_reducible show wpAny _ _ (call (Value.ref 21) _ _) _ _ _)); (fail_if_success (with_reducible show wpAny _ _ (call (Value.ref 28) _ _) _ _ _)); (fail_if_success (with_reducible show wpAny _ _ (call (Value.ref 35) _ _) _ _ _)); (fail_if_success (with_reducible show wpAny _ _ (call (Value.ref 42) _ _) _ _ _)); (fail_if_success (with_reducible show wpAny _ _ (call (Value.ref 49) _ _) _ _ _)); (fail_if_success (with_reducible show wpAny _ _ (call (Value.ref 56) _ _) _ _ _)); (fail_if_success (with_reducible show wpAny _ _ (call (Value.ref 63) _ _) _ _ _)); (fail_if_success (with_reducible show wpAny _ _ (call (Value.ref 70) _ _) _ _ _)); (fail_if_success (with_reducible show wpAny _ _ (getMethod (Value.ref _) _ _) _ _ _)); (first | walk1 | (dsimp only; walk1))) | ((fail_if_success (with_reducible show wpAny _ _ (pyIter _) _ _ _)); (fail_if_success (with_reducible show wpAny _ _ (exec (Stmt.For _ _ _ _ _) _) _ _ _)); (fail_if_success (with_reducible show wpAny _ _ (exec (Stmt.While _ _ _ _) _) _ _ _)); (fail_if_success (with_reducible show wpAny _ _ (call (Value.ref 21) _ _) _ _ _)); (fail_if_success (with_reducible show wpAny _ _ (call (Value.ref 28) _ _) _ _ _)); (fail_if_success (with_reducible show wpAny _ _ (call (Value.ref 35) _ _) _ _ _)); (fail_if_success (with_reducible show wpAny _ _ (call (Value.ref 42) _ _) _ _ _)); (fail_if_success (with_reducible show wpAny _ _ (call (Value.ref 49) _ _) _ _ _)); (fail_if_success (with_reducible show wpAny _ _ (call (Value.ref 56) _ _) _ _ _)); (fail_if_success (with_reducible show wpAny _ _ (call (Value.ref 63) _ _) _ _ _)); (fail_if_success (with_reducible show wpAny _ _ (call (Value.ref 70) _ _) _ _ _)); (fail_if_success (with_reducible show wpAny _ _ (getMethod (Value.ref _) _ _) _ _ _)); leave1; walk_say "STEP leave1"; try dsimp only) | fail "no step")))
                  all_goals (try k_data)
                  obtain ⟨n37, d1, od1, f1, fd1, sl1, fo1, m1, m2, m3, m4, m5, m6⟩ := hH
                  dsimp only
                  refine fnget_N (by assumption) (List.mem_append_left _ m2) (List.mem_append_left _ m1) m5 fn_no_span fun tk₃ => ?_
                  try dsimp only
                  refine callWith_F0 (m4.at (by assumption) (List.mem_append_left _ m3)) ?_
                  try dsimp only [List.nil_append, List.cons_append]
                  refine wpAny_AA (m6 _ _ _ _ _ _ _ _ _ _ _ _ _ _ ⟨by assumption, by assumption, by assumption, rfl, rfl⟩ (by assumption) (by assumption) (fun p hp => List.mem_append_left _ hp) ?_) rfl rfl rfl (Nat.le_of_ble_eq_true rfl) (Nat.le_of_ble_eq_true rfl)
                  intro tt ta tb h₃ tk₄ F₃ N₃ l₃
                  obtain ⟨hsl, hlen, hpe'⟩ := peel_turn hPe he1 he2 hk hd hn
                  w_strict (repeat' ((fail_if_success (with_reducible show InvEndN _ _ _ _ _ _ _)); (fail_if_success (with_reducible show KswEnd _ _ _ _ _ _ _ _ _ _ _ _)); (fail_if_success (with_reducible show InvEndG _ _ _ _ _ _)); (first | (k_unfold; (try dsimp only)) | (k_end; wrow_close) | ((fail_if_success (with_reducible show wpAny _ _ (pyIter _) _ _ _)); (fail_if_success (with_reducible show wpAny _ _ (exec (Stmt.For _ _ _ _ _) _) _ _ _)); (fail_if_success (with_reducible show wpAny _ _ (exec (Stmt.While _ _ _ _) _) _ _ _)); (fail_if_success (with_reducible show wpAny _ _ (call (Value.ref 21) _ _) _ _ _)); (fail_if_success (with_reducible show wpAny _ _ (call (Value.ref 28) _ _) _ _ _)); (fail_if_success (with_reducible show wpAny _ _ (call (Value.ref 35) _ _) _ _ _)); (fail_if_success (with_reducible show wpAny _ _ (call (Value.ref 42) _ _) _ _ _)); (fail_if_success (with_reducible show wpAny _ _ (call (Value.ref 49) _ _) _ _ _)); (fail_if_success (with_reducible show wpAny _ _ (call (Value.ref 56) _ _) _ _ _)); (fail_if_success (with_reducible show wpAny _ _ (call (Value.ref 63) _ _) _ _ _)); (fail_if_success (with_reducible show wpAny _ _ (call (Value.ref 70) _ _) _ _ _)); (fail_if_success (with_reducible show wpAny _ _ (getMethod (Value.ref _) _ _) _ _ _)); (first | walk1 | (dsimp only; walk1))) | ((fail_if_success (with_reducible show wpAny _ _ (pyIter _) _ _ _)); (fail_if_success (with_reducible show wpAny _ _ (exec (Stmt.For _ _ _ _ _) _) _ _ _)); (fail_if_success (with_reducible show wpAny _ _ (exec (Stmt.While _ _ _ _) _) _ _ _)); (fail_if_success (with_reducible show wpAny _ _ (call (Value.ref 21) _ _) _ _ _)); (fail_if_success (with_reducible show wpAny _ _ (call (Value.ref 28) _ _) _ _ _)); (fail_if_success (with_reducible show wpAny _ _ (call (Value.ref 35) _ _) _ _ _)); (fail_if_success (with_reducible show wpAny _ _ (call (Value.ref 42) _ _) _ _ _)); (fail_if_success (with_reducible show wpAny _ _ (call (Value.ref 49) _ _) _ _ _)); (fail_if_success (with_reducible show wpAny _ _ (call (Value.ref 56) _ _) _ _ _)); (fail_if_success (with_reducible show wpAny _ _ (call (Value.ref 63) _ _) _ _ _)); (fail_if_success (with_reducible show wpAny _ _ (call (Value.ref 70) _ _) _ _ _)); (fail_if_success (with_reducible show wpAny _ _ (getMethod (Value.ref _) _ _) _ _ _)); leave1; walk_say "STEP leave1"; try dsimp only) | fail "no step")))
                  all_goals (try k_data)
                  rename (Fr _ _ _ _) => FF
                  rename (News _ _ _ _) => NN
                  rw [hsl] at FF
                  replace NN := sw_out (news_tl NN)
                  clear n37 m1 m2 m3 m4 m5 m6 l₃
                  w_strict (repeat' ((fail_if_success (with_reducible show InvEndN _ _ _ _ _ _ _)); (fail_if_success (with_reducible show KswEnd _ _ _ _ _ _ _ _ _ _ _ _)); (fail_if_success (with_reducible show InvEndG _ _ _ _ _ _)); (first | (k_unfold; (try dsimp only)) | (k_end; wrow_close) | ((fail_if_success (with_reducible show wpAny _ _ (pyIter _) _ _ _)); (fail_if_success (with_reducible show wpAny _ _ (exec (Stmt.For _ _ _ _ _) _) _ _ _)); (fail_if_success (with_reducible show wpAny _ _ (exec (Stmt.While _ _ _ _) _) _ _ _)); (fail_if_success (with_reducible show wpAny _ _ (call (Value.ref 21) _ _) _ _ _)); (fail_if_success (with_reducible show wpAny _ _ (call (Value.ref 28) _ _) _ _ _)); (fail_if_success (with_reducible show wpAny _ _ (call (Value.ref 35) _ _) _ _ _)); (fail_if_success (with_reducible show wpAny _ _ (call (Value.ref 42) _ _) _ _ _)); (fail_if_success (with_reducible show wpAny _ _ (call (Value.ref 49) _ _) _ _ _)); (fail_if_success (with_reducible show wpAny _ _ (call (Value.ref 56) _ _) _ _ _)); (fail_if_success (with_reducible show wpAny _ _ (call (Value.ref 63) _ _) _ _ _)); (fail_if_success (with_reducible show wpAny _ _ (call (Value.ref 70) _ _) _ _ _)); (first | walk1 | (dsimp only; walk1))) | ((fail_if_success (with_reducible show wpAny _ _ (pyIter _) _ _ _)); (fail_if_success (with_reducible show wpAny _ _ (exec (Stmt.For _ _ _ _ _) _) _ _ _)); (fail_if_success (with_reducible show wpAny _ _ (exec (Stmt.While _ _ _ _) _) _ _ _)); (fail_if_success (with_reducible show wpAny _ _ (call (Value.ref 21) _ _) _ _ _)); (fail_if_success (with_reducible show wpAny _ _ (call (Value.ref 28) _ _) _ _ _)); (fail_if_success (with_reducible show wpAny _ _ (call (Value.ref 35) _ _) _ _ _)); (fail_if_success (with_reducible show wpAny _ _ (call (Value.ref 42) _ _) _ _ _)); (fail_if_success (with_reducible show wpAny _ _ (call (Value.ref 49) _ _) _ _ _)); (fail_if_success (with_reducible show wpAny _ _ (call (Value.ref 56) _ _) _ _ _)); (fail_if_success (with_reducible show wpAny _ _ (call (Value.ref 63) _ _) _ _ _)); (fail_if_success (with_reducible show wpAny _ _ (call (Value.ref 70) _ _) _ _ _)); leave1; walk_say "STEP leave1"; try dsimp only) | fail "no step")))
                  all_goals (try k_data)
                  refine wpAny_AA (strip_spec (by assumption) (by assumption) (by assumption) (by assumption) (by assumption) rfl rfl (by omega) ?_) rfl rfl rfl (Nat.le_of_ble_eq_true rfl) (Nat.le_of_ble_eq_true rfl)
                  intro y hy2 tky2 ty2 hyeq Fy Ny
                  subst hyeq
                  w_strict (repeat' ((fail_if_success (with_reducible show InvEndN _ _ _ _ _ _ _)); (fail_if_success (with_reducible show KswEnd _ _ _ _ _ _ _ _ _ _ _ _)); (fail_if_success (with_reducible show InvEndG _ _ _ _ _ _)); (first | (k_unfold; (try dsimp only)) | (k_end; wrow_close) | ((fail_if_success (with_reducible show wpAny _ _ (pyIter _) _ _ _)); (fail_if_success (with_reducible show wpAny _ _ (exec (Stmt.For _ _ _ _ _) _) _ _ _)); (fail_if_success (with_reducible show wpAny _ _ (exec (Stmt.While _ _ _ _) _) _ _ _)); (fail_if_success (with_reducible show wpAny _ _ (call (Value.ref 21) _ _) _ _ _)); (fail_if_success (with_reducible show wpAny _ _ (call (Value.ref 28) _ _) _ _ _)); (fail_if_success (with_reducible show wpAny _ _ (call (Value.ref 35) _ _) _ _ _)); (fail_if_success (with_reducible show wpAny _ _ (call (Value.ref 42) _ _) _ _ _)); (fail_if_success (with_reducible show wpAny _ _ (call (Value.ref 49) _ _) _ _ _)); (fail_if_success (with_reducible show wpAny _ _ (call (Value.ref 56) _ _) _ _ _)); (fail_if_success (with_reducible show wpAny _ _ (call (Value.ref 63) _ _) _ _ _)); (fail_if_success (with_reducible show wpAny _ _ (call (Value.ref 70) _ _) _ _ _)); (fail_if_success (with_reducible show wpAny _ _ (call (Value.builtin "list.append") _ _) _ _ _)); (first | walk1 | (dsimp only; walk1))) | ((fail_if_success (with_reducible show wpAny _ _ (pyIter _) _ _ _)); (fail_if_success (with_reducible show wpAny _ _ (exec (Stmt.For _ _ _ _ _) _) _ _ _)); (fail_if_success (with_reducible show wpAny _ _ (exec (Stmt.While _ _ _ _) _) _ _ _)); (fail_if_success (with_reducible show wpAny _ _ (call (Value.ref 21) _ _) _ _ _)); (fail_if_success (with_reducible show wpAny _ _ (call (Value.ref 28) _ _) _ _ _)); (fail_if_success (with_reducible show wpAny _ _ (call (Value.ref 35) _ _) _ _ _)); (fail_if_success (with_reducible show wpAny _ _ (call (Value.ref 42) _ _) _ _ _)); (fail_if_success (with_reducible show wpAny _ _ (call (Value.ref 49) _ _) _ _ _)); (fail_if_success (with_reducible show wpAny _ _ (call (Value.ref 56) _ _) _ _ _)); (fail_if_success (with_reducible show wpAny _ _ (call (Value.ref 63) _ _) _ _ _)); (fail_if_success (with_reducible show wpAny _ _ (call (Value.ref 70) _ _) _ _ _)); (fail_if_success (with_reducible show wpAny _ _ (call (Value.builtin "list.append") _ _) _ _ _)); leave1; walk_say "STEP leave1"; try dsimp only) | fail "no step")))
                  all_goals (try k_data)
                  refine append_K (by assumption) (by assumption) (Upd.head hap) ?_ (by rw [List.size_toArray, sizeLine_eq]; omega)
                  intro h₄ F₄ N₄
                  rw [push_last] at N₄
                  w_strict (repeat' ((fail_if_success (with_reducible show InvEndN _ _ _ _ _ _ _)); (fail_if_success (with_reducible show KswEnd _ _ _ _ _ _ _ _ _ _ _ _)); (fail_if_success (with_reducible show InvEndG _ _ _ _ _ _)); (first | (k_unfold; (try dsimp only)) | (k_end; wrow_close) | ((fail_if_success (with_reducible show wpAny _ _ (pyIter _) _ _ _)); (fail_if_success (with_reducible show wpAny _ _ (exec (Stmt.For _ _ _ _ _) _) _ _ _)); (fail_if_success (with_reducible show wpAny _ _ (exec (Stmt.While _ _ _ _) _) _ _ _)); (fail_if_success (with_reducible show wpAny _ _ (call (Value.ref 21) _ _) _ _ _)); (fail_if_success (with_reducible show wpAny _ _ (call (Value.ref 28) _ _) _ _ _)); (fail_if_success (with_reducible show wpAny _ _ (call (Value.ref 35) _ _) _ _ _)); (fail_if_success (with_reducible show wpAny _ _ (call (Value.ref 42) _ _) _ _ _)); (fail_if_success (with_reducible show wpAny _ _ (call (Value.ref 49) _ _) _ _ _)); (fail_if_success (with_reducible show wpAny _ _ (call (Value.ref 56) _ _) _ _ _)); (fail_if_success (with_reducible show wpAny _ _ (call (Value.ref 63) _ _) _ _ _)); (fail_if_success (with_reducible show wpAny _ _ (call (Value.ref 70) _ _) _ _ _)); (first | walk1 | (dsimp only; walk1))) | ((fail_if_success (with_reducible show wpAny _ _ (pyIter _) _ _ _)); (fail_if_success (with_reducible show wpAny _ _ (exec (Stmt.For _ _ _ _ _) _) _ _ _)); (fail_if_success (with_reducible show wpAny _ _ (exec (Stmt.While _ _ _ _) _) _ _ _)); (fail_if_success (with_reducible show wpAny _ _ (call (Value.ref 21) _ _) _ _ _)); (fail_if_success (with_reducible show wpAny _ _ (call (Value.ref 28) _ _) _ _ _)); (fail_if_success (with_reducible show wpAny _ _ (call (Value.ref 35) _ _) _ _ _)); (fail_if_success (with_reducible show wpAny _ _ (call (Value.ref 42) _ _) _ _ _)); (fail_if_success (with_reducible show wpAny _ _ (call (Value.ref 49) _ _) _ _ _)); (fail_if_success (with_reducible show wpAny _ _ (call (Value.ref 56) _ _) _ _ _)); (fail_if_success (with_reducible show wpAny _ _ (call (Value.ref 63) _ _) _ _ _)); (fail_if_success (with_reducible show wpAny _ _ (call (Value.ref 70) _ _) _ _ _)); leave1; walk_say "STEP leave1"; try dsimp only) | fail "no step")))
                  all_goals (try k_data)
                  refine wpAny_AA (rev_any ⟨by assumption, by assumption, by assumption, rfl, rfl⟩ (by assumption) (sw_in (by assumption)) hPr (fun p hp => .tail _ (hsub p hp)) hT1 (by assumption) (List.forall_mem_cons.mpr ⟨lp_ne hap, hne⟩) (by omega) (Nat.le_of_eq hlen.symm) ?_) rfl rfl rfl (Nat.le_of_ble_eq_true rfl) (Nat.le_of_ble_eq_true rfl)
                  intro v2 ledh2 ts2 hv2 tkv2 hHit2 hT2 hG2 Fv2 Nv2
                  w_strict (repeat' ((fail_if_success (with_reducible show InvEndN _ _ _ _ _ _ _)); (fail_if_success (with_reducible show KswEnd _ _ _ _ _ _ _ _ _ _ _ _)); (fail_if_success (with_reducible show InvEndG _ _ _ _ _ _)); (first | (k_unfold; (try dsimp only)) | (k_end; wrow_close) | ((fail_if_success (with_reducible show wpAny _ _ (pyIter _) _ _ _)); (fail_if_success (with_reducible show wpAny _ _ (exec (Stmt.For _ _ _ _ _) _) _ _ _)); (fail_if_success (with_reducible show wpAny _ _ (exec (Stmt.While _ _ _ _) _) _ _ _)); (fail_if_success (with_reducible show wpAny _ _ (call (Value.ref 21) _ _) _ _ _)); (fail_if_success (with_reducible show wpAny _ _ (call (Value.ref 28) _ _) _ _ _)); (fail_if_success (with_reducible show wpAny _ _ (call (Value.ref 35) _ _) _ _ _)); (fail_if_success (with_reducible show wpAny _ _ (call (Value.ref 42) _ _) _ _ _)); (fail_if_success (with_reducible show wpAny _ _ (call (Value.ref 49) _ _) _ _ _)); (fail_if_success (with_reducible show wpAny _ _ (call (Value.ref 56) _ _) _ _ _)); (fail_if_success (with_reducible show wpAny _ _ (call (Value.ref 63) _ _) _ _ _)); (fail_if_success (with_reducible show wpAny _ _ (call (Value.ref 70) _ _) _ _ _)); (first | walk1 | (dsimp only; walk1))) | ((fail_if_success (with_reducible show wpAny _ _ (pyIter _) _ _ _)); (fail_if_success (with_reducible show wpAny _ _ (exec (Stmt.For _ _ _ _ _) _) _ _ _)); (fail_if_success (with_reducible show wpAny _ _ (exec (Stmt.While _ _ _ _) _) _ _ _)); (fail_if_success (with_reducible show wpAny _ _ (call (Value.ref 21) _ _) _ _ _)); (fail_if_success (with_reducible show wpAny _ _ (call (Value.ref 28) _ _) _ _ _)); (fail_if_success (with_reducible show wpAny _ _ (call (Value.ref 35) _ _) _ _ _)); (fail_if_success (with_reducible show wpAny _ _ (call (Value.ref 42) _ _) _ _ _)); (fail_if_success (with_reducible show wpAny _ _ (call (Value.ref 49) _ _) _ _ _)); (fail_if_success (with_reducible show wpAny _ _ (call (Value.ref 56) _ _) _ _ _)); (fail_if_success (with_reducible show wpAny _ _ (call (Value.ref 63) _ _) _ _ _)); (fail_if_success (with_reducible show wpAny _ _ (call (Value.ref 70) _ _) _ _ _)); leave1; walk_say "STEP leave1"; try dsimp only) | fail "no step")))
                  all_goals (try k_data)
                  refine' ksw_end ⟨mkS (R.cps.toList.take k), _, k, ta, v2, ledh2, ts2, vs ++ [.str (stripF (mkS (R.cps.toList.take k))) ty2], n + 1⟩ ?F ?N (fun p hp => hp) trivial ?hk ?hr ⟨hHit2, hT2, hG1.trans (hG2.sub fun p hp => .tail _ hp), lp_grow hap hG2, hpe' ty2⟩ ?mu
                  case F => assumption
                  case N => assumption
                  case hk =>
                    simp only [PeelSt.ps, List.forall_mem_cons, List.not_mem_nil, false_implies, implies_true, and_true]
                    refine ⟨?_, ?_, ?_⟩ <;> exact rfl
                  case hr =>
                    intro z h2 h3
                    simp only [PeelSt.ps, List.forall_mem_cons, List.not_mem_nil, false_implies, implies_true, and_true, ne_eq] at h2
                    obtain ⟨z1, z2, z3⟩ := h2
                    simp only [kstB, if_neg z1, if_neg z2, if_neg z3, h3, Bool.false_eq_true, if_false]
                  case mu => exact hk
                  -->HIT
)
end Mine
end
theorem PySem.Challenge.cw_mj0064_01_holds : PySem.Challenge.rw_mj0064_01.Holds := by
  exact Mine.law_holds
